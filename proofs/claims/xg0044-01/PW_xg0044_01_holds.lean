import PyProof.Rows.All
import Wide.All
import OpenK.AllK
import Wide.FinOn
import Lean
import PySem.Challenge.RW_xg0044_01
/- the law of xg0044-01: contracts of the law's own functions, its body in seven pieces, the plain law, the join -/
set_option Elab.async false
set_option linter.unusedVariables false

namespace Mine
section
open PySem PySem.W PyProof.Rows PySem.Spec PySem.Calls
set_option maxRecDepth 100000
set_option maxHeartbeats 20000000
noncomputable abbrev PG : Program := PySem.Challenge.rw_xg0044_01.row.prog
abbrev mkF (nm md : String) (tk : Nat) (cd : Addr) (ps : Arguments) (b : List Stmt) (sc : Scope) : Obj := { cls := .type "function", data := .func { name := Str.ofString nm, qualname := Str.ofString nm, params := ps, body := .stmts b, scope := sc, globals := 3, closure := [], defaults := .none, kwdefaults := .none, doc := .none, pyModule := .str (Str.ofString md) tk, annotations := none, code := .ref cd, closureTuple := .none, builtins := 0 } }
abbrev ent (P : Params) (s : String) (t : Nat) (v : Value) : DictEntry := ⟨PyData.keyHash P (Str.ofString s), .str (Str.ofString s) t, v⟩
def Is {α : Type} (_ : α) : Prop := True
abbrev keep {α : Type} {o : α} (_ : Is o) : α := o
def nth : Nat → List Stmt → Option Stmt
  | _, [] => none
  | 0, s :: _ => some s
  | n + 1, _ :: r => nth n r
theorem is_fn {i : Nat} {nm md : String} {tk : Nat} {cd : Addr} {n : Str} {ps : Arguments} {b : List Stmt} {ds : List Expr} {rt : Option Expr} {tp : List TypeParam} {sc : Scope} {ts : Option Scope} {bi : Str} {pos : Pos} (_ : nth i PG.main.body = some (.FunctionDef n ps b ds rt tp sc ts bi pos)) : Is (mkF nm md tk cd ps b sc) := trivial
theorem is_view {i : Nat} {st : Stmt} {b : List Stmt} {sc : Scope} {f : Bool} {fl : Str} {mo : List (Str × Const)} {ms : List (Str × Bool × Module)} {pa : List Parse} {ab : List Str} {ha : List Parse} {gi : Given} (_ : nth i PG.main.body = some st) (_ : PG = { main := { body := b, scope := sc, futureAnnotations := f, file := fl, more := mo }, modules := ms, parses := pa, absent := ab, harvested := ha, given := gi }) : Is ({ main := { body := [st], scope := sc, futureAnnotations := f, file := fl, more := mo }, modules := ms, parses := pa, absent := ab, harvested := ha, given := gi } : Program) := trivial
noncomputable def ob21 : Obj := keep (is_fn (i := 1) (nm := "add") (md := "cpy313.operator") (tk := 187) (cd := 20) (by with_unfolding_all rfl))
noncomputable def ob28 : Obj := keep (is_fn (i := 2) (nm := "lshift") (md := "cpy313.operator") (tk := 187) (cd := 27) (by with_unfolding_all rfl))
noncomputable def ob35 : Obj := keep (is_fn (i := 3) (nm := "neg") (md := "cpy313.operator") (tk := 187) (cd := 34) (by with_unfolding_all rfl))
noncomputable def ob42 : Obj := keep (is_fn (i := 4) (nm := "or_") (md := "cpy313.operator") (tk := 187) (cd := 41) (by with_unfolding_all rfl))
noncomputable def ob49 : Obj := keep (is_fn (i := 5) (nm := "sub") (md := "cpy313.operator") (tk := 187) (cd := 48) (by with_unfolding_all rfl))
noncomputable def ob56 : Obj := keep (is_fn (i := 6) (nm := "xor") (md := "cpy313.operator") (tk := 187) (cd := 55) (by with_unfolding_all rfl))
noncomputable def ob63 : Obj := keep (is_fn (i := 8) (nm := "_strcoll") (md := "cpy313.locale") (tk := 236) (cd := 62) (by with_unfolding_all rfl))
noncomputable def ob70 : Obj := keep (is_fn (i := 10) (nm := "_grouping_intervals") (md := "cpy313.locale") (tk := 236) (cd := 69) (by with_unfolding_all rfl))
noncomputable def ob80 : Obj := keep (is_fn (i := 62) (nm := "ISNONTERMINAL") (md := "cpy313.token") (tk := 257) (cd := 79) (by with_unfolding_all rfl))
noncomputable def ob87 : Obj := keep (is_fn (i := 64) (nm := "_law_sizes") (md := "law_xg0044_01") (tk := 461) (cd := 86) (by with_unfolding_all rfl))
noncomputable def ob94 : Obj := keep (is_fn (i := 65) (nm := "_law_parted") (md := "law_xg0044_01") (tk := 461) (cd := 93) (by with_unfolding_all rfl))
noncomputable def ob101 : Obj := keep (is_fn (i := 66) (nm := "_law_added") (md := "law_xg0044_01") (tk := 461) (cd := 100) (by with_unfolding_all rfl))
noncomputable def ob106 : Obj := keep (is_fn (i := 67) (nm := "_law_laid") (md := "law_xg0044_01") (tk := 461) (cd := 105) (by with_unfolding_all rfl))
noncomputable def ob111 : Obj := keep (is_fn (i := 68) (nm := "law") (md := "law_xg0044_01") (tk := 461) (cd := 110) (by with_unfolding_all rfl))
noncomputable def VW : Program := keep (is_view (i := 68) (by with_unfolding_all rfl) (by with_unfolding_all rfl))
noncomputable def ob3 (P : Params) : Obj := { cls := .type "dict", data := .dict (List.toArray (ent P "__name__" 165 (.str (Str.ofString "law_xg0044_01") 461) :: ent P "__doc__" 166 .none :: ent P "__package__" 167 .none :: ent P "__loader__" 168 (.builtin (String.ofList ['_', '_', 'm', 'a', 'i', 'n', '_', '_', '.', '_', '_', 'l', 'o', 'a', 'd', 'e', 'r', '_', '_', '#', 'o', 'p', 'a', 'q', 'u', 'e'])) :: ent P "__spec__" 169 .none :: ent P "__annotations__" 170 (.ref 6) :: ent P "__builtins__" 171 (.ref 4) :: ent P "__file__" 173 (.str (Str.ofString "/claim/cut.py") 172) :: ent P "__cached__" 174 .none :: ent P "add" 196 (.ref 21) :: ent P "lshift" 204 (.ref 28) :: ent P "neg" 211 (.ref 35) :: ent P "or_" 219 (.ref 42) :: ent P "sub" 227 (.ref 49) :: ent P "xor" 235 (.ref 56) :: ent P "_strcoll" 245 (.ref 63) :: ent P "CHAR_MAX" 247 (.int 127 246) :: ent P "_grouping_intervals" 256 (.ref 70) :: ent P "LPAR" 260 (.int 7 259) :: ent P "RPAR" 262 (.int 8 261) :: ent P "LSQB" 264 (.int 9 263) :: ent P "RSQB" 266 (.int 10 265) :: ent P "COLON" 268 (.int 11 267) :: ent P "COMMA" 270 (.int 12 269) :: ent P "SEMI" 272 (.int 13 271) :: ent P "PLUS" 274 (.int 14 273) :: ent P "MINUS" 276 (.int 15 275) :: ent P "STAR" 278 (.int 16 277) :: ent P "SLASH" 280 (.int 17 279) :: ent P "VBAR" 282 (.int 18 281) :: ent P "AMPER" 284 (.int 19 283) :: ent P "LESS" 286 (.int 20 285) :: ent P "GREATER" 288 (.int 21 287) :: ent P "EQUAL" 290 (.int 22 289) :: ent P "DOT" 292 (.int 23 291) :: ent P "PERCENT" 294 (.int 24 293) :: ent P "LBRACE" 296 (.int 25 295) :: ent P "RBRACE" 298 (.int 26 297) :: ent P "EQEQUAL" 300 (.int 27 299) :: ent P "NOTEQUAL" 302 (.int 28 301) :: ent P "LESSEQUAL" 304 (.int 29 303) :: ent P "GREATEREQUAL" 306 (.int 30 305) :: ent P "TILDE" 308 (.int 31 307) :: ent P "CIRCUMFLEX" 310 (.int 32 309) :: ent P "LEFTSHIFT" 312 (.int 33 311) :: ent P "RIGHTSHIFT" 314 (.int 34 313) :: ent P "DOUBLESTAR" 316 (.int 35 315) :: ent P "PLUSEQUAL" 318 (.int 36 317) :: ent P "MINEQUAL" 320 (.int 37 319) :: ent P "STAREQUAL" 322 (.int 38 321) :: ent P "SLASHEQUAL" 324 (.int 39 323) :: ent P "PERCENTEQUAL" 326 (.int 40 325) :: ent P "AMPEREQUAL" 328 (.int 41 327) :: ent P "VBAREQUAL" 330 (.int 42 329) :: ent P "CIRCUMFLEXEQUAL" 332 (.int 43 331) :: ent P "LEFTSHIFTEQUAL" 334 (.int 44 333) :: ent P "RIGHTSHIFTEQUAL" 336 (.int 45 335) :: ent P "DOUBLESTAREQUAL" 338 (.int 46 337) :: ent P "DOUBLESLASH" 340 (.int 47 339) :: ent P "DOUBLESLASHEQUAL" 342 (.int 48 341) :: ent P "AT" 344 (.int 49 343) :: ent P "ATEQUAL" 346 (.int 50 345) :: ent P "RARROW" 348 (.int 51 347) :: ent P "ELLIPSIS" 350 (.int 52 349) :: ent P "COLONEQUAL" 352 (.int 53 351) :: ent P "EXCLAMATION" 354 (.int 54 353) :: ent P "NT_OFFSET" 356 (.int 256 355) :: ent P "EXACT_TOKEN_TYPES" 453 (.ref 71) :: ent P "ISNONTERMINAL" 460 (.ref 80) :: ent P "_law_sizes" 473 (.ref 87) :: ent P "_law_parted" 486 (.ref 94) :: ent P "_law_added" 501 (.ref 101) :: ent P "_law_laid" 507 (.ref 106) :: ent P "law" 513 (.ref 111) :: [])) 74 }
noncomputable def ob71 (P : Params) : Obj := { cls := .type "dict", data := .dict (List.toArray (ent P "!" 357 (.int 54 353) :: ent P "!=" 359 (.int 28 301) :: ent P "%" 361 (.int 24 293) :: ent P "%=" 363 (.int 40 325) :: ent P "&" 365 (.int 19 283) :: ent P "&=" 367 (.int 41 327) :: ent P "(" 369 (.int 7 259) :: ent P ")" 371 (.int 8 261) :: ent P "*" 373 (.int 16 277) :: ent P "**" 375 (.int 35 315) :: ent P "**=" 377 (.int 46 337) :: ent P "*=" 379 (.int 38 321) :: ent P "+" 381 (.int 14 273) :: ent P "+=" 383 (.int 36 317) :: ent P "," 385 (.int 12 269) :: ent P "-" 387 (.int 15 275) :: ent P "-=" 389 (.int 37 319) :: ent P "->" 391 (.int 51 347) :: ent P "." 393 (.int 23 291) :: ent P "..." 395 (.int 52 349) :: ent P "/" 397 (.int 17 279) :: ent P "//" 399 (.int 47 339) :: ent P "//=" 401 (.int 48 341) :: ent P "/=" 403 (.int 39 323) :: ent P ":" 405 (.int 11 267) :: ent P ":=" 407 (.int 53 351) :: ent P ";" 409 (.int 13 271) :: ent P "<" 411 (.int 20 285) :: ent P "<<" 413 (.int 33 311) :: ent P "<<=" 415 (.int 44 333) :: ent P "<=" 417 (.int 29 303) :: ent P "=" 419 (.int 22 289) :: ent P "==" 421 (.int 27 299) :: ent P ">" 423 (.int 21 287) :: ent P ">=" 425 (.int 30 305) :: ent P ">>" 426 (.int 34 313) :: ent P ">>=" 427 (.int 45 335) :: ent P "@" 428 (.int 49 343) :: ent P "@=" 429 (.int 50 345) :: ent P "[" 430 (.int 9 263) :: ent P "]" 431 (.int 10 265) :: ent P "^" 432 (.int 32 309) :: ent P "^=" 433 (.int 43 331) :: ent P "{" 434 (.int 25 295) :: ent P "|" 435 (.int 18 281) :: ent P "|=" 436 (.int 42 329) :: ent P "}" 437 (.int 26 297) :: ent P "~" 438 (.int 31 307) :: [])) 48 }
noncomputable def ob2 : Obj := Obj.mk Value.none Option.none (Data.dict #[]) #[]
noncomputable def ob6 : Obj := Obj.mk (Value.type "dict") Option.none (Data.dict #[]) #[]
noncomputable def ob15 : Obj := Obj.mk (Value.type "tuple") Option.none (Data.seq #[]) #[]
noncomputable def ob17 : Obj := Obj.mk (Value.type "tuple") Option.none (Data.seq #[Value.str (Str.ofString "a") 192, Value.str (Str.ofString "b") 193]) #[]
noncomputable def ob18 : Obj := Obj.mk (Value.type "tuple") Option.none (Data.seq #[]) #[]
noncomputable def ob20 : Obj := Obj.mk (Value.type "code") Option.none (Data.fields #[Value.str (Str.ofString "add") 189, Value.str (Str.ofString "add") 190, Value.str (Str.ofString "/claim/cut.py") 191, Value.int 2 0, Value.int 2 0, Value.int 0 0, Value.int 0 0, Value.int 3 0, Value.ref 15, Value.bool Bool.true, Value.int 181 0, Value.ref 16, Value.none, Value.ref 17, Value.ref 18, Value.ref 19, Value.int 194 0, Value.int 2 0, Value.str (Str.ofString "/claim/cut.py") 195]) #[]
noncomputable def ob22 : Obj := Obj.mk (Value.type "tuple") Option.none (Data.seq #[]) #[]
noncomputable def ob24 : Obj := Obj.mk (Value.type "tuple") Option.none (Data.seq #[Value.str (Str.ofString "a") 200, Value.str (Str.ofString "b") 201]) #[]
noncomputable def ob25 : Obj := Obj.mk (Value.type "tuple") Option.none (Data.seq #[]) #[]
noncomputable def ob27 : Obj := Obj.mk (Value.type "code") Option.none (Data.fields #[Value.str (Str.ofString "lshift") 197, Value.str (Str.ofString "lshift") 198, Value.str (Str.ofString "/claim/cut.py") 199, Value.int 4 0, Value.int 2 0, Value.int 0 0, Value.int 0 0, Value.int 3 0, Value.ref 22, Value.bool Bool.true, Value.int 181 0, Value.ref 23, Value.none, Value.ref 24, Value.ref 25, Value.ref 26, Value.int 202 0, Value.int 4 0, Value.str (Str.ofString "/claim/cut.py") 203]) #[]
noncomputable def ob29 : Obj := Obj.mk (Value.type "tuple") Option.none (Data.seq #[]) #[]
noncomputable def ob31 : Obj := Obj.mk (Value.type "tuple") Option.none (Data.seq #[Value.str (Str.ofString "a") 208]) #[]
noncomputable def ob32 : Obj := Obj.mk (Value.type "tuple") Option.none (Data.seq #[]) #[]
noncomputable def ob34 : Obj := Obj.mk (Value.type "code") Option.none (Data.fields #[Value.str (Str.ofString "neg") 205, Value.str (Str.ofString "neg") 206, Value.str (Str.ofString "/claim/cut.py") 207, Value.int 6 0, Value.int 1 0, Value.int 0 0, Value.int 0 0, Value.int 3 0, Value.ref 29, Value.bool Bool.true, Value.int 181 0, Value.ref 30, Value.none, Value.ref 31, Value.ref 32, Value.ref 33, Value.int 209 0, Value.int 6 0, Value.str (Str.ofString "/claim/cut.py") 210]) #[]
noncomputable def ob36 : Obj := Obj.mk (Value.type "tuple") Option.none (Data.seq #[]) #[]
noncomputable def ob38 : Obj := Obj.mk (Value.type "tuple") Option.none (Data.seq #[Value.str (Str.ofString "a") 215, Value.str (Str.ofString "b") 216]) #[]
noncomputable def ob39 : Obj := Obj.mk (Value.type "tuple") Option.none (Data.seq #[]) #[]
noncomputable def ob41 : Obj := Obj.mk (Value.type "code") Option.none (Data.fields #[Value.str (Str.ofString "or_") 212, Value.str (Str.ofString "or_") 213, Value.str (Str.ofString "/claim/cut.py") 214, Value.int 8 0, Value.int 2 0, Value.int 0 0, Value.int 0 0, Value.int 3 0, Value.ref 36, Value.bool Bool.true, Value.int 181 0, Value.ref 37, Value.none, Value.ref 38, Value.ref 39, Value.ref 40, Value.int 217 0, Value.int 8 0, Value.str (Str.ofString "/claim/cut.py") 218]) #[]
noncomputable def ob43 : Obj := Obj.mk (Value.type "tuple") Option.none (Data.seq #[]) #[]
noncomputable def ob45 : Obj := Obj.mk (Value.type "tuple") Option.none (Data.seq #[Value.str (Str.ofString "a") 223, Value.str (Str.ofString "b") 224]) #[]
noncomputable def ob46 : Obj := Obj.mk (Value.type "tuple") Option.none (Data.seq #[]) #[]
noncomputable def ob48 : Obj := Obj.mk (Value.type "code") Option.none (Data.fields #[Value.str (Str.ofString "sub") 220, Value.str (Str.ofString "sub") 221, Value.str (Str.ofString "/claim/cut.py") 222, Value.int 10 0, Value.int 2 0, Value.int 0 0, Value.int 0 0, Value.int 3 0, Value.ref 43, Value.bool Bool.true, Value.int 181 0, Value.ref 44, Value.none, Value.ref 45, Value.ref 46, Value.ref 47, Value.int 225 0, Value.int 10 0, Value.str (Str.ofString "/claim/cut.py") 226]) #[]
noncomputable def ob50 : Obj := Obj.mk (Value.type "tuple") Option.none (Data.seq #[]) #[]
noncomputable def ob52 : Obj := Obj.mk (Value.type "tuple") Option.none (Data.seq #[Value.str (Str.ofString "a") 231, Value.str (Str.ofString "b") 232]) #[]
noncomputable def ob53 : Obj := Obj.mk (Value.type "tuple") Option.none (Data.seq #[]) #[]
noncomputable def ob55 : Obj := Obj.mk (Value.type "code") Option.none (Data.fields #[Value.str (Str.ofString "xor") 228, Value.str (Str.ofString "xor") 229, Value.str (Str.ofString "/claim/cut.py") 230, Value.int 12 0, Value.int 2 0, Value.int 0 0, Value.int 0 0, Value.int 3 0, Value.ref 50, Value.bool Bool.true, Value.int 181 0, Value.ref 51, Value.none, Value.ref 52, Value.ref 53, Value.ref 54, Value.int 233 0, Value.int 12 0, Value.str (Str.ofString "/claim/cut.py") 234]) #[]
noncomputable def ob57 : Obj := Obj.mk (Value.type "tuple") Option.none (Data.seq #[]) #[]
noncomputable def ob59 : Obj := Obj.mk (Value.type "tuple") Option.none (Data.seq #[Value.str (Str.ofString "a") 241, Value.str (Str.ofString "b") 242]) #[]
noncomputable def ob60 : Obj := Obj.mk (Value.type "tuple") Option.none (Data.seq #[]) #[]
noncomputable def ob62 : Obj := Obj.mk (Value.type "code") Option.none (Data.fields #[Value.str (Str.ofString "_strcoll") 238, Value.str (Str.ofString "_strcoll") 239, Value.str (Str.ofString "/claim/cut.py") 240, Value.int 15 0, Value.int 2 0, Value.int 0 0, Value.int 0 0, Value.int 3 0, Value.ref 57, Value.bool Bool.true, Value.int 181 0, Value.ref 58, Value.none, Value.ref 59, Value.ref 60, Value.ref 61, Value.int 243 0, Value.int 15 0, Value.str (Str.ofString "/claim/cut.py") 244]) #[]
noncomputable def ob64 : Obj := Obj.mk (Value.type "tuple") Option.none (Data.seq #[]) #[]
noncomputable def ob66 : Obj := Obj.mk (Value.type "tuple") Option.none (Data.seq #[Value.str (Str.ofString "grouping") 251, Value.str (Str.ofString "last_interval") 252, Value.str (Str.ofString "interval") 253]) #[]
noncomputable def ob67 : Obj := Obj.mk (Value.type "tuple") Option.none (Data.seq #[]) #[]
noncomputable def ob69 : Obj := Obj.mk (Value.type "code") Option.none (Data.fields #[Value.str (Str.ofString "_grouping_intervals") 248, Value.str (Str.ofString "_grouping_intervals") 249, Value.str (Str.ofString "/claim/cut.py") 250, Value.int 18 0, Value.int 1 0, Value.int 0 0, Value.int 0 0, Value.int 35 0, Value.ref 64, Value.bool Bool.true, Value.int 181 0, Value.ref 65, Value.none, Value.ref 66, Value.ref 67, Value.ref 68, Value.int 254 0, Value.int 18 0, Value.str (Str.ofString "/claim/cut.py") 255]) #[]
noncomputable def ob74 : Obj := Obj.mk (Value.type "tuple") Option.none (Data.seq #[]) #[]
noncomputable def ob76 : Obj := Obj.mk (Value.type "tuple") Option.none (Data.seq #[Value.str (Str.ofString "x") 457]) #[]
noncomputable def ob77 : Obj := Obj.mk (Value.type "tuple") Option.none (Data.seq #[]) #[]
noncomputable def ob79 : Obj := Obj.mk (Value.type "code") Option.none (Data.fields #[Value.str (Str.ofString "ISNONTERMINAL") 454, Value.str (Str.ofString "ISNONTERMINAL") 455, Value.str (Str.ofString "/claim/cut.py") 456, Value.int 81 0, Value.int 1 0, Value.int 0 0, Value.int 0 0, Value.int 3 0, Value.ref 74, Value.bool Bool.true, Value.int 181 0, Value.ref 75, Value.none, Value.ref 76, Value.ref 77, Value.ref 78, Value.int 458 0, Value.int 81 0, Value.str (Str.ofString "/claim/cut.py") 459]) #[]
noncomputable def ob81 : Obj := Obj.mk (Value.type "tuple") Option.none (Data.seq #[]) #[]
noncomputable def ob83 : Obj := Obj.mk (Value.type "tuple") Option.none (Data.seq #[Value.str (Str.ofString "sizes") 466, Value.str (Str.ofString "way") 467, Value.str (Str.ofString "ends") 468, Value.str (Str.ofString "told") 469, Value.str (Str.ofString "wide") 470]) #[]
noncomputable def ob84 : Obj := Obj.mk (Value.type "tuple") Option.none (Data.seq #[]) #[]
noncomputable def ob86 : Obj := Obj.mk (Value.type "code") Option.none (Data.fields #[Value.str (Str.ofString "_law_sizes") 463, Value.str (Str.ofString "_law_sizes") 464, Value.str (Str.ofString "/claim/cut.py") 465, Value.int 84 0, Value.int 2 0, Value.int 0 0, Value.int 0 0, Value.int 3 0, Value.ref 81, Value.bool Bool.true, Value.int 181 0, Value.ref 82, Value.none, Value.ref 83, Value.ref 84, Value.ref 85, Value.int 471 0, Value.int 84 0, Value.str (Str.ofString "/claim/cut.py") 472]) #[]
noncomputable def ob88 : Obj := Obj.mk (Value.type "tuple") Option.none (Data.seq #[]) #[]
noncomputable def ob90 : Obj := Obj.mk (Value.type "tuple") Option.none (Data.seq #[Value.str (Str.ofString "number") 477, Value.str (Str.ofString "sizes") 478, Value.str (Str.ofString "signs") 479, Value.str (Str.ofString "figures") 480, Value.str (Str.ofString "wide") 481, Value.str (Str.ofString "sign") 482, Value.str (Str.ofString "base") 483]) #[]
noncomputable def ob91 : Obj := Obj.mk (Value.type "tuple") Option.none (Data.seq #[]) #[]
noncomputable def ob93 : Obj := Obj.mk (Value.type "code") Option.none (Data.fields #[Value.str (Str.ofString "_law_parted") 474, Value.str (Str.ofString "_law_parted") 475, Value.str (Str.ofString "/claim/cut.py") 476, Value.int 92 0, Value.int 3 0, Value.int 0 0, Value.int 0 0, Value.int 3 0, Value.ref 88, Value.bool Bool.true, Value.int 181 0, Value.ref 89, Value.none, Value.ref 90, Value.ref 91, Value.ref 92, Value.int 484 0, Value.int 92 0, Value.str (Str.ofString "/claim/cut.py") 485]) #[]
noncomputable def ob95 : Obj := Obj.mk (Value.type "tuple") Option.none (Data.seq #[]) #[]
noncomputable def ob97 : Obj := Obj.mk (Value.type "tuple") Option.none (Data.seq #[Value.str (Str.ofString "one") 490, Value.str (Str.ofString "two") 491, Value.str (Str.ofString "sizes") 492, Value.str (Str.ofString "signs") 493, Value.str (Str.ofString "figures") 494, Value.str (Str.ofString "carry") 495, Value.str (Str.ofString "k") 496, Value.str (Str.ofString "up") 497, Value.str (Str.ofString "both") 498]) #[]
noncomputable def ob98 : Obj := Obj.mk (Value.type "tuple") Option.none (Data.seq #[]) #[]
noncomputable def ob100 : Obj := Obj.mk (Value.type "code") Option.none (Data.fields #[Value.str (Str.ofString "_law_added") 487, Value.str (Str.ofString "_law_added") 488, Value.str (Str.ofString "/claim/cut.py") 489, Value.int 103 0, Value.int 4 0, Value.int 0 0, Value.int 0 0, Value.int 3 0, Value.ref 95, Value.bool Bool.true, Value.int 181 0, Value.ref 96, Value.none, Value.ref 97, Value.ref 98, Value.ref 99, Value.int 499 0, Value.int 103 0, Value.str (Str.ofString "/claim/cut.py") 500]) #[]
noncomputable def ob102 : Obj := Obj.mk (Value.type "tuple") Option.none (Data.seq #[]) #[]
noncomputable def ob105 : Obj := Obj.mk (Value.type "code") Option.none (Data.fields #[Value.str (Str.ofString "_law_laid") 502, Value.str (Str.ofString "_law_laid") 503, Value.str (Str.ofString "/claim/cut.py") 504, Value.int 112 0, Value.int 3 0, Value.int 0 0, Value.int 0 0, Value.int 3 0, Value.ref 102, Value.bool Bool.true, Value.int 181 0, Value.ref 103, Value.none, Value.none, Value.none, Value.ref 104, Value.int 505 0, Value.int 112 0, Value.str (Str.ofString "/claim/cut.py") 506]) #[]
noncomputable def ob107 : Obj := Obj.mk (Value.type "tuple") Option.none (Data.seq #[]) #[]
noncomputable def ob110 : Obj := Obj.mk (Value.type "code") Option.none (Data.fields #[Value.str (Str.ofString "law") 508, Value.str (Str.ofString "law") 509, Value.str (Str.ofString "/claim/cut.py") 510, Value.int 129 0, Value.int 1 0, Value.int 0 0, Value.int 0 0, Value.int 3 0, Value.ref 107, Value.bool Bool.true, Value.int 181 0, Value.ref 108, Value.none, Value.none, Value.none, Value.ref 109, Value.int 511 0, Value.int 129 0, Value.str (Str.ofString "/claim/cut.py") 512]) #[]
noncomputable def KF : Params → Frag := fun P => Prod.mk (nat_lit 2) ob2 :: Prod.mk (nat_lit 3) (ob3 P) :: Prod.mk (nat_lit 6) ob6 :: Prod.mk (nat_lit 15) ob15 :: Prod.mk (nat_lit 17) ob17 :: Prod.mk (nat_lit 18) ob18 :: Prod.mk (nat_lit 20) ob20 :: Prod.mk (nat_lit 21) ob21 :: Prod.mk (nat_lit 22) ob22 :: Prod.mk (nat_lit 24) ob24 :: Prod.mk (nat_lit 25) ob25 :: Prod.mk (nat_lit 27) ob27 :: Prod.mk (nat_lit 28) ob28 :: Prod.mk (nat_lit 29) ob29 :: Prod.mk (nat_lit 31) ob31 :: Prod.mk (nat_lit 32) ob32 :: Prod.mk (nat_lit 34) ob34 :: Prod.mk (nat_lit 35) ob35 :: Prod.mk (nat_lit 36) ob36 :: Prod.mk (nat_lit 38) ob38 :: Prod.mk (nat_lit 39) ob39 :: Prod.mk (nat_lit 41) ob41 :: Prod.mk (nat_lit 42) ob42 :: Prod.mk (nat_lit 43) ob43 :: Prod.mk (nat_lit 45) ob45 :: Prod.mk (nat_lit 46) ob46 :: Prod.mk (nat_lit 48) ob48 :: Prod.mk (nat_lit 49) ob49 :: Prod.mk (nat_lit 50) ob50 :: Prod.mk (nat_lit 52) ob52 :: Prod.mk (nat_lit 53) ob53 :: Prod.mk (nat_lit 55) ob55 :: Prod.mk (nat_lit 56) ob56 :: Prod.mk (nat_lit 57) ob57 :: Prod.mk (nat_lit 59) ob59 :: Prod.mk (nat_lit 60) ob60 :: Prod.mk (nat_lit 62) ob62 :: Prod.mk (nat_lit 63) ob63 :: Prod.mk (nat_lit 64) ob64 :: Prod.mk (nat_lit 66) ob66 :: Prod.mk (nat_lit 67) ob67 :: Prod.mk (nat_lit 69) ob69 :: Prod.mk (nat_lit 70) ob70 :: Prod.mk (nat_lit 71) (ob71 P) :: Prod.mk (nat_lit 74) ob74 :: Prod.mk (nat_lit 76) ob76 :: Prod.mk (nat_lit 77) ob77 :: Prod.mk (nat_lit 79) ob79 :: Prod.mk (nat_lit 80) ob80 :: Prod.mk (nat_lit 81) ob81 :: Prod.mk (nat_lit 83) ob83 :: Prod.mk (nat_lit 84) ob84 :: Prod.mk (nat_lit 86) ob86 :: Prod.mk (nat_lit 87) ob87 :: Prod.mk (nat_lit 88) ob88 :: Prod.mk (nat_lit 90) ob90 :: Prod.mk (nat_lit 91) ob91 :: Prod.mk (nat_lit 93) ob93 :: Prod.mk (nat_lit 94) ob94 :: Prod.mk (nat_lit 95) ob95 :: Prod.mk (nat_lit 97) ob97 :: Prod.mk (nat_lit 98) ob98 :: Prod.mk (nat_lit 100) ob100 :: Prod.mk (nat_lit 101) ob101 :: Prod.mk (nat_lit 102) ob102 :: Prod.mk (nat_lit 105) ob105 :: Prod.mk (nat_lit 106) ob106 :: Prod.mk (nat_lit 107) ob107 :: Prod.mk (nat_lit 110) ob110 :: Prod.mk (nat_lit 111) ob111 :: []
noncomputable abbrev AD : List Addr := nat_lit 2 :: nat_lit 3 :: nat_lit 6 :: nat_lit 15 :: nat_lit 17 :: nat_lit 18 :: nat_lit 20 :: nat_lit 21 :: nat_lit 22 :: nat_lit 24 :: nat_lit 25 :: nat_lit 27 :: nat_lit 28 :: nat_lit 29 :: nat_lit 31 :: nat_lit 32 :: nat_lit 34 :: nat_lit 35 :: nat_lit 36 :: nat_lit 38 :: nat_lit 39 :: nat_lit 41 :: nat_lit 42 :: nat_lit 43 :: nat_lit 45 :: nat_lit 46 :: nat_lit 48 :: nat_lit 49 :: nat_lit 50 :: nat_lit 52 :: nat_lit 53 :: nat_lit 55 :: nat_lit 56 :: nat_lit 57 :: nat_lit 59 :: nat_lit 60 :: nat_lit 62 :: nat_lit 63 :: nat_lit 64 :: nat_lit 66 :: nat_lit 67 :: nat_lit 69 :: nat_lit 70 :: nat_lit 71 :: nat_lit 74 :: nat_lit 76 :: nat_lit 77 :: nat_lit 79 :: nat_lit 80 :: nat_lit 81 :: nat_lit 83 :: nat_lit 84 :: nat_lit 86 :: nat_lit 87 :: nat_lit 88 :: nat_lit 90 :: nat_lit 91 :: nat_lit 93 :: nat_lit 94 :: nat_lit 95 :: nat_lit 97 :: nat_lit 98 :: nat_lit 100 :: nat_lit 101 :: nat_lit 102 :: nat_lit 105 :: nat_lit 106 :: nat_lit 107 :: nat_lit 110 :: nat_lit 111 :: []
noncomputable def LS : List Str := ("add" :: "lshift" :: "neg" :: "or_" :: "sub" :: "xor" :: "_strcoll" :: "CHAR_MAX" :: "_grouping_intervals" :: "LPAR" :: "RPAR" :: "LSQB" :: "RSQB" :: "COLON" :: "COMMA" :: "SEMI" :: "PLUS" :: "MINUS" :: "STAR" :: "SLASH" :: "VBAR" :: "AMPER" :: "LESS" :: "GREATER" :: "EQUAL" :: "DOT" :: "PERCENT" :: "LBRACE" :: "RBRACE" :: "EQEQUAL" :: "NOTEQUAL" :: "LESSEQUAL" :: "GREATEREQUAL" :: "TILDE" :: "CIRCUMFLEX" :: "LEFTSHIFT" :: "RIGHTSHIFT" :: "DOUBLESTAR" :: "PLUSEQUAL" :: "MINEQUAL" :: "STAREQUAL" :: "SLASHEQUAL" :: "PERCENTEQUAL" :: "AMPEREQUAL" :: "VBAREQUAL" :: "CIRCUMFLEXEQUAL" :: "LEFTSHIFTEQUAL" :: "RIGHTSHIFTEQUAL" :: "DOUBLESTAREQUAL" :: "DOUBLESLASH" :: "DOUBLESLASHEQUAL" :: "AT" :: "ATEQUAL" :: "RARROW" :: "ELLIPSIS" :: "COLONEQUAL" :: "EXCLAMATION" :: "NT_OFFSET" :: "EXACT_TOKEN_TYPES" :: "ISNONTERMINAL" :: "_law_sizes" :: "_law_parted" :: "_law_added" :: "_law_laid" :: []).map Str.ofString
noncomputable abbrev LO : List Str := looseW VW LS
end
end Mine

namespace Mine
section
set_option maxRecDepth 100000
open PySem PyProof.Rows

structure ZA (z TI TO i1 i2 : Addr) (fp1 fp2 : List Addr) : Prop where
  TIz : TI ≠ z
  TOz : TO ≠ z
  i1z : i1 ≠ z
  i2z : i2 ≠ z
  TITO : TI ≠ TO
  TIi1 : TI ≠ i1
  TIi2 : TI ≠ i2
  TOi1 : TO ≠ i1
  TOi2 : TO ≠ i2
  i12 : i1 ≠ i2
  z1 : ∀ b ∈ fp1, b ≠ z
  z2 : ∀ b ∈ fp2, b ≠ z
  t1 : ∀ b ∈ fp1, b ≠ TO
  t2 : ∀ b ∈ fp2, b ≠ TO
  o1 : ∀ b ∈ fp1, b ≠ i2
  o2 : ∀ b ∈ fp2, b ≠ i1

section
variable {prog : Program} {w : World} {A : Around} {E : Value → Shared → Prop} {s : Shared}
variable {z TI TO i1 i2 : Addr} {fp1 fp2 : List Addr} {n1 n2 : Nat} {P1 P2 : Nat → Value → Prop} {St1 St2 : Nat → Heap → Prop}

theorem zipD_item {k : Nat} {a b : Value} {Q : Value → Shared → Prop} (Z : ZA z TI TO i1 i2 fp1 fp2) (D1 : Draws prog w A i1 fp1 n1 P1 St1) (D2 : Draws prog w A i2 fp2 n2 P2 St2)
    (hz : IsZip s.heap z TI TO .none) (hTI : IsPair s.heap TI (.ref i1) (.ref i2)) (hTO : IsPair s.heap TO a b) (h1 : St1 k s.heap) (h2 : St2 k s.heap) (k1 : k < n1) (k2 : k < n2)
    (hQ : ∀ x y h' tk, P1 k x → P2 k y → IsZip h' z TI TO (rawInt s.heap.objs.size) → IsPair h' TO x y → St1 (k + 1) h' → St2 (k + 1) h' → IsPair h' s.heap.objs.size x y → h'.objs.size = s.heap.objs.size + 1 →
      (∀ c o, c ≠ z → c ≠ TO → c ≠ i1 → c ≠ i2 → s.heap.get? c = some o → h'.get? c = some o) → Q (.ref s.heap.objs.size) { s with heap := h', toks := tk }) :
    wpAny (model prog w) A (Builtin.«zip.__next__» ⟨[.ref z], []⟩) (fun fin s' => ∃ v, fin = .done (.ret v) ∧ Q v s') E s := by
  show wpAny _ _ (field (.ref z) 2 >>= _) _ _ _
  refine wpAny_bind (wpAny_field hz rfl (x := .bool false) rfl ?_)
  show wpAny _ _ (field (.ref z) 3 >>= _) _ _ _
  refine wpAny_bind (wpAny_field hz rfl (x := .ref TI) rfl ?_)
  refine wpAny_bind (wpAny_seqItems hTI rfl ?_)
  show wpAny _ _ (Builtin.SmallTypes.ownedTupleIsFree (.ref z) >>= _) _ _ _
  refine wpAny_bind ?_
  unfold Builtin.SmallTypes.ownedTupleIsFree
  refine wpAny_bind (wpAny_field hz rfl (x := .none) rfl (wpAny_pure ?_))
  simp only [if_true]
  refine wpAny_bind (wpAny_rule ?_)
  refine wpAny_bind (wpAny_field hz rfl (x := .ref TO) rfl ?_)
  refine wpAny_bind (wpAny_setField_rec hz (by simp) fun g₁ hz₁ hs₁ => ?_)
  replace hz₁ : IsZip g₁ z TI TO .ellipsis := hz₁
  refine wpAny_bind ?_
  simp only [List.zipIdx_cons, List.zipIdx_nil, List.forIn_cons, List.forIn_nil]
  refine wpAny_bind (wpAny_bind (wpAny_onRaise ?_))
  show wpAny _ _ (Builtin.SmallTypes.nextOf (.ref i1) >>= _) _ _ _
  have h1a : St1 k g₁ := D1.frame _ _ _ h1 fun c hc o e => hs₁.extBut _ _ (Z.z1 c hc) e
  have h2a : St2 k g₁ := D2.frame _ _ _ h2 fun c hc o e => hs₁.extBut _ _ (Z.z2 c hc) e
  refine wpAny_bind (D1.item k _ _ _ k1 h1a fun x g₂ tk₂ hx h1b hs₂ => wpAny_pure ?_)
  have hTO₂ : IsPair g₂ TO a b := hs₂.extBut _ _ Z.TOi1 (hs₁.extBut _ _ Z.TOz hTO)
  refine wpAny_bind (wpAny_seqItems hTO₂ rfl ?_)
  refine wpAny_bind (wpAny_updateSeq_pair hTO₂ fun g₃ hTO₃ hs₃ => ?_)
  replace hTO₃ : IsPair g₃ TO x b := hTO₃
  refine wpAny_bind (wpAny_letGo (wpAny_pure ?_))
  refine wpAny_bind (wpAny_bind (wpAny_onRaise ?_))
  show wpAny _ _ (Builtin.SmallTypes.nextOf (.ref i2) >>= _) _ _ _
  have h1c : St1 (k + 1) g₃ := D1.frame _ _ _ h1b fun c hc o e => hs₃.extBut _ _ (Z.t1 c hc) e
  have h2c : St2 k g₃ := D2.frame _ _ _ h2a fun c hc o e => hs₃.extBut _ _ (Z.t2 c hc) (hs₂.extBut _ _ (Z.o2 c hc) e)
  refine wpAny_bind (D2.item k _ _ _ k2 h2c fun y g₄ tk₄ hy h2d hs₄ => wpAny_pure ?_)
  have hTO₄ : IsPair g₄ TO x b := hs₄.extBut _ _ Z.TOi2 hTO₃
  refine wpAny_bind (wpAny_seqItems hTO₄ rfl ?_)
  refine wpAny_bind (wpAny_updateSeq_pair hTO₄ fun g₅ hTO₅ hs₅ => ?_)
  replace hTO₅ : IsPair g₅ TO x y := hTO₅
  refine wpAny_bind (wpAny_letGo (wpAny_pure (wpAny_pure ?_)))
  refine wpAny_bind (wpAny_seqItems hTO₅ rfl ?_)
  refine wpAny_bind (wpAny_newTuple ?_)
  have hsz : g₅.objs.size = s.heap.objs.size := by rw [hs₅.1, hs₄.1, hs₃.1, hs₂.1, hs₁.1]
  have hz₅ : IsZip g₅ z TI TO .ellipsis := hs₅.extBut _ _ Z.TOz.symm (hs₄.extBut _ _ Z.i2z.symm (hs₃.extBut _ _ Z.TOz.symm (hs₂.extBut _ _ Z.i1z.symm hz₁)))
  have hk₅ : ∀ c o, c ≠ z → c ≠ TO → c ≠ i1 → c ≠ i2 → s.heap.get? c = some o → g₅.get? c = some o := fun c o c1 c2 c3 c4 e =>
    hs₅.extBut _ _ c2 (hs₄.extBut _ _ c4 (hs₃.extBut _ _ c2 (hs₂.extBut _ _ c3 (hs₁.extBut _ _ c1 e))))
  have h1₅ : St1 (k + 1) g₅ := D1.frame _ _ _ h1c fun c hc o e => hs₅.extBut _ _ (Z.t1 c hc) (hs₄.extBut _ _ (Z.o1 c hc) e)
  have h2₅ : St2 (k + 1) g₅ := D2.frame _ _ _ h2d fun c hc o e => hs₅.extBut _ _ (Z.t2 c hc) e
  have hzlt : z < g₅.objs.size := Heap.lt_size hz₅
  show wpAny _ _ (Builtin.SmallTypes.ownedTupleHandOut (.ref z) (.ref g₅.objs.size) >>= _) _ _ _
  refine wpAny_bind ?_
  unfold Builtin.SmallTypes.ownedTupleHandOut
  have hz₆ : IsZip (g₅.push { cls := .type "tuple", data := .seq #[x, y] }) z TI TO .ellipsis := Heap.get?_push_of_some _ hz₅
  refine wpAny_bind (wpAny_setField_rec hz₆ (by simp) fun g₇ hz₇ hs₇ => ?_)
  replace hz₇ : IsZip g₇ z TI TO (rawInt g₅.objs.size) := hz₇
  refine wpAny_setField_rec hz₇ (by simp) fun g₈ hz₈ hs₈ => ?_
  replace hz₈ : IsZip g₈ z TI TO (rawInt g₅.objs.size) := hz₈
  have up : ∀ c o, c ≠ z → g₅.get? c = some o → g₈.get? c = some o := fun c o c1 e => hs₈.extBut _ _ c1 (hs₇.extBut _ _ c1 (Heap.get?_push_of_some _ e))
  have hT₈ : IsPair g₈ g₅.objs.size x y := hs₈.extBut _ _ (Nat.ne_of_gt hzlt) (hs₇.extBut _ _ (Nat.ne_of_gt hzlt) (Heap.get?_push_size _ rfl))
  have hz8 : g₈.objs.size = g₅.objs.size + 1 := by rw [hs₈.1, hs₇.1, Heap.size_push]
  rw [hsz] at hz₈ hT₈ hz8
  refine wpAny_pure ⟨_, rfl, ?_⟩
  show Q (.ref g₅.objs.size) _
  rw [hsz]
  exact hQ x y g₈ _ hx hy hz₈ (up _ _ Z.TOz hTO₅) (D1.frame _ _ _ h1₅ fun c hc o e => up _ _ (Z.z1 c hc) e) (D2.frame _ _ _ h2₅ fun c hc o e => up _ _ (Z.z2 c hc) e) hT₈ hz8
    fun c o c1 c2 c3 c4 e => up c o c1 (hk₅ c o c1 c2 c3 c4 e)

/-- both run out at once -/
theorem zipD_end {a b : Value} {Q : Fin → Shared → Prop} (Z : ZA z TI TO i1 i2 fp1 fp2) (D1 : Draws prog w A i1 fp1 n1 P1 St1)
    (hz : IsZip s.heap z TI TO .none) (hTI : IsPair s.heap TI (.ref i1) (.ref i2)) (hTO : IsPair s.heap TO a b) (h1 : St1 n1 s.heap)
    (hE : ∀ h' e, (∀ c o, c ≠ z → c ≠ TO → c ≠ i1 → c ≠ i2 → s.heap.get? c = some o → h'.get? c = some o) → (∃ o, h'.get? e = some o ∧ o.cls = .type "StopIteration") → E (.ref e) { s with heap := h' }) :
    wpAny (model prog w) A (Builtin.«zip.__next__» ⟨[.ref z], []⟩) Q E s := by
  show wpAny _ _ (field (.ref z) 2 >>= _) _ _ _
  refine wpAny_bind (wpAny_field hz rfl (x := .bool false) rfl ?_)
  show wpAny _ _ (field (.ref z) 3 >>= _) _ _ _
  refine wpAny_bind (wpAny_field hz rfl (x := .ref TI) rfl ?_)
  refine wpAny_bind (wpAny_seqItems hTI rfl ?_)
  show wpAny _ _ (Builtin.SmallTypes.ownedTupleIsFree (.ref z) >>= _) _ _ _
  refine wpAny_bind ?_
  unfold Builtin.SmallTypes.ownedTupleIsFree
  refine wpAny_bind (wpAny_field hz rfl (x := .none) rfl (wpAny_pure ?_))
  simp only [if_true]
  refine wpAny_bind (wpAny_rule ?_)
  refine wpAny_bind (wpAny_field hz rfl (x := .ref TO) rfl ?_)
  refine wpAny_bind (wpAny_setField_rec hz (by simp) fun g₁ hz₁ hs₁ => ?_)
  replace hz₁ : IsZip g₁ z TI TO .ellipsis := hz₁
  refine wpAny_bind ?_
  simp only [List.zipIdx_cons, List.zipIdx_nil, List.forIn_cons, List.forIn_nil]
  refine wpAny_bind (wpAny_bind (wpAny_onRaise ?_))
  show wpAny _ _ (Builtin.SmallTypes.nextOf (.ref i1) >>= _) _ _ _
  have h1a : St1 n1 g₁ := D1.frame _ _ _ h1 fun c hc o e => hs₁.extBut _ _ (Z.z1 c hc) e
  refine wpAny_bind (D1.done _ _ _ h1a fun g₂ e hs₂ he => ?_)
  obtain ⟨oe, hoe, hce⟩ := he
  have hz₂ : IsZip g₂ z TI TO .ellipsis := hs₂ _ _ Z.i1z.symm hz₁
  have hez : e ≠ z := fun x => by subst x; rw [hz₂] at hoe; cases hoe; simp at hce
  refine wpAny_setField_rec hz₂ (by simp) fun g₃ _ hs₃ => hE g₃ e (fun c o c1 _ c3 _ x => hs₃.extBut _ _ c1 (hs₂ _ _ c3 (hs₁.extBut _ _ c1 x))) ⟨oe, hs₃.extBut _ _ hez hoe, hce⟩
end

section
variable {prog : Program} {w : World} {A : Around} {E : Value → Shared → Prop} {s : Shared}
variable {z TI TO i1 i2 : Addr} {fp1 fp2 : List Addr} {n1 n2 : Nat} {P1 P2 : Nat → Value → Prop} {St1 St2 : Nat → Heap → Prop}

theorem WalksT_zipD (Z : ZA z TI TO i1 i2 fp1 fp2) (D1 : Draws prog w A.in1 i1 fp1 n1 P1 St1) (D2 : Draws prog w A.in1 i2 fp2 n2 P2 St2) (hn : n1 ≤ n2) :
    WalksT prog w A z ([z, TI, TO, i1, i2] ++ fp1 ++ fp2) [z, TO, i1, i2] n1
      (fun i vals => ∃ x y, P1 i x ∧ P2 i y ∧ vals = #[x, y])
      (fun i h => IsZip h z TI TO .none ∧ IsPair h TI (.ref i1) (.ref i2) ∧ (∃ a b, IsPair h TO a b) ∧ St1 i h ∧ St2 i h)
      (fun i T h => IsZip h z TI TO (rawInt T) ∧ IsPair h TI (.ref i1) (.ref i2) ∧ (∃ a b, IsPair h TO a b) ∧ St1 (i + 1) h ∧ St2 (i + 1) h ∧ T ≠ z ∧ T ≠ TO ∧ T ≠ i1 ∧ T ≠ i2) where
  sub := fun c hc => by simp at hc ⊢; rcases hc with rfl | rfl | rfl | rfl <;> simp
  frame := fun i h h' hst hk => by
    obtain ⟨hz, hTI, ⟨a, b, hTO⟩, h1, h2⟩ := hst
    exact ⟨hk z (by simp) _ hz, hk TI (by simp) _ hTI, ⟨a, b, hk TO (by simp) _ hTO⟩, D1.frame _ _ _ h1 fun c hc o e => hk c (by simp [hc]) o e, D2.frame _ _ _ h2 fun c hc o e => hk c (by simp [hc]) o e⟩
  item := fun i s Q E hi hst hQ => by
    obtain ⟨hz, hTI, ⟨a, b, hTO⟩, h1, h2⟩ := hst
    have hT : s.TypeIs (.ref z) "zip" := ⟨_, hz, rfl⟩
    unfold pyNext
    refine wpAny_bind (wpAny_attempt (wpAny_callSpecial?_slot (name := Str.ofString "__next__") hT F.slot_zip_next
      (wpAny_call_entry F.slot_zip_next hT F.entry_zip_next
        (zipD_item Z D1 D2 hz hTI hTO h1 h2 hi (Nat.lt_of_lt_of_le hi hn) fun x y h' tk hx hy a1 a2 a3 a4 a5 a6 hk => wpAny_pure ?_) (F.args_zip_next_1 _))))
    have lt : ∀ {c o}, s.heap.get? c = some o → s.heap.objs.size ≠ c := fun e => Nat.ne_of_gt (Heap.lt_size e)
    obtain ⟨o1, e1⟩ := D1.live _ _ h1
    obtain ⟨o2, e2⟩ := D2.live _ _ h2
    exact hQ s.heap.objs.size #[x, y] h' tk ⟨x, y, hx, hy, rfl⟩ (Nat.le_refl _) ⟨_, a5, rfl, _, rfl⟩
      ⟨a1, hk _ _ Z.TIz Z.TITO Z.TIi1 Z.TIi2 hTI, ⟨_, _, a2⟩, a3, a4, lt hz, lt hTO, lt e1, lt e2⟩
      fun c o hc e => hk c o (fun x => hc (by simp [x])) (fun x => hc (by simp [x])) (fun x => hc (by simp [x])) (fun x => hc (by simp [x])) e
  go := fun elts k pos i T s Q E hm hQ => by
    obtain ⟨hz, hTI, ⟨a, b, hTO⟩, h1, h2, _⟩ := hm
    refine wpAny_letOwnedTupleGo_zip hz fun h' hz' hs' => hQ h' ⟨hz', hs'.extBut _ _ Z.TIz hTI, ⟨a, b, hs'.extBut _ _ Z.TOz hTO⟩,
      D1.frame _ _ _ h1 fun c hc o e => hs'.extBut _ _ (Z.z1 c hc) e, D2.frame _ _ _ h2 fun c hc o e => hs'.extBut _ _ (Z.z2 c hc) e⟩ fun c o hc e => hs'.extBut _ _ (fun x => hc (by simp [x])) e
  apart := fun i T h hm hT => by
    obtain ⟨_, _, _, _, _, t1, t2, t3, t4⟩ := hm
    simp at hT
    rcases hT with rfl | rfl | rfl | rfl
    · exact t1 rfl
    · exact t2 rfl
    · exact t3 rfl
    · exact t4 rfl
  done := fun s Q E hst hQ => by
    obtain ⟨hz, hTI, ⟨a, b, hTO⟩, h1, h2⟩ := hst
    have hT : s.TypeIs (.ref z) "zip" := ⟨_, hz, rfl⟩
    unfold pyNext
    refine wpAny_bind (wpAny_attempt (wpAny_callSpecial?_slot (name := Str.ofString "__next__") hT F.slot_zip_next
      (wpAny_call_entry F.slot_zip_next hT F.entry_zip_next (zipD_end Z D1 hz hTI hTO h1 fun h' e hk he => ?_) (F.args_zip_next_1 _))))
    obtain ⟨o, ho, hc⟩ := he
    refine wpAny_bind (wpAny_isInstance (T := "StopIteration") (b := true) ⟨o, ho, hc⟩ isSubtype_stop ?_)
    exact wpAny_pure (hQ _ _ fun c o hc e => hk c o (fun x => hc (by simp [x])) (fun x => hc (by simp [x])) (fun x => hc (by simp [x])) (fun x => hc (by simp [x])) e)
  self := fun i s Q E hst hQ => wpAny_pyIter_zip hst.1 hQ

/-- zip of a list and of a text -/
abbrev zH (h : Heap) (l : Addr) (x : Str) (t : Tok) : Heap :=
  ((((h.push { cls := .type "list_iterator", data := .fields #[.ref l, .int 0 0] }).push { cls := .type "str_ascii_iterator", data := .fields #[.str x t, .int 0 0] }).push { cls := .type "tuple", data := .seq #[.ref h.objs.size, .ref (h.objs.size + 1)] }).push { cls := .type "tuple", data := .seq #[.none, .none] }).push { cls := .type "zip", data := .fields #[.none, .bool false, .bool false, .ref (h.objs.size + 2), .ref (h.objs.size + 3)] }

set_option maxHeartbeats 4000000 in
theorem meets_zip_ls (l : Addr) (x : Str) (t : Tok) (xs : Array Value) (ha : x.cps.all (· < 128) = true) :
    Meets (Builtin.«zip.__new__» ⟨[.type "zip", .ref l, .str x t], []⟩) (fun _ R s => s.heap.IsList l xs ∧ R (.ok (.ret (.ref (s.heap.objs.size + 4)))) { s with heap := zH s.heap l x t }) :=
  .of_wp fun prog w A R s h => by
    obtain ⟨hp, g, d, tk, os⟩ := s; obtain ⟨hl1, h⟩ := h
    have hsub := sub_zip
    have hL1 : Heap.IsList (Shared.heap ⟨hp, g, d, tk, os⟩) l xs := hl1
    wp_walk using wpAny_pyIter_list hL1, wpAny_pyIter_ascii ha
    simp only [zH, Heap.size_push, Nat.add_assoc] at h ⊢
    exact ⟨_, rfl, h⟩

theorem call_zip_ls {l : Addr} {x : Str} {t : Tok} {xs : Array Value} {Q : Value → Shared → Prop} (hl : s.heap.IsList l xs) (ha : x.cps.all (· < 128) = true)
    (h : ∀ h', IsZip h' (s.heap.objs.size + 4) (s.heap.objs.size + 2) (s.heap.objs.size + 3) .none → IsPair h' (s.heap.objs.size + 2) (.ref s.heap.objs.size) (.ref (s.heap.objs.size + 1)) →
      IsPair h' (s.heap.objs.size + 3) .none .none → h'.IsListIter s.heap.objs.size l 0 → h'.IsStrIter (s.heap.objs.size + 1) "str_ascii_iterator" x t 0 → h'.objs.size = s.heap.objs.size + 5 →
      (∀ c o, s.heap.get? c = some o → h'.get? c = some o) → Q (.ref (s.heap.objs.size + 4)) { s with heap := h' }) :
    wpAny (model prog w) A (call (.type "zip") [.ref l, .str x t]) Q E s := by
  refine callType_new F.called_zip (by decide) (F.typeCall_zip_2 _ _) (F.newCall_zip_2 _ _) (fun obj => F.args_object_init_3 obj _ _) F.entry_zip_new
    (meets_zip_ls l x t xs ha) ⟨hl, ?_⟩
  have g5 : IsZip (zH s.heap l x t) (s.heap.objs.size + 4) (s.heap.objs.size + 2) (s.heap.objs.size + 3) .none := by
    show (zH s.heap l x t).get? _ = _
    have e : s.heap.objs.size + 4 = ((((s.heap.push { cls := .type "list_iterator", data := .fields #[.ref l, .int 0 0] }).push { cls := .type "str_ascii_iterator", data := .fields #[.str x t, .int 0 0] }).push { cls := .type "tuple", data := .seq #[.ref s.heap.objs.size, .ref (s.heap.objs.size + 1)] }).push { cls := .type "tuple", data := .seq #[.none, .none] }).objs.size := by simp only [Heap.size_push]
    rw [e]; exact Heap.get?_push_size _ rfl
  have g4 : IsPair (zH s.heap l x t) (s.heap.objs.size + 3) .none .none := by
    refine Heap.get?_push_of_some _ ?_
    have e : s.heap.objs.size + 3 = (((s.heap.push { cls := .type "list_iterator", data := .fields #[.ref l, .int 0 0] }).push { cls := .type "str_ascii_iterator", data := .fields #[.str x t, .int 0 0] }).push { cls := .type "tuple", data := .seq #[.ref s.heap.objs.size, .ref (s.heap.objs.size + 1)] }).objs.size := by simp only [Heap.size_push]
    rw [e]; exact Heap.get?_push_size _ rfl
  have g3 : IsPair (zH s.heap l x t) (s.heap.objs.size + 2) (.ref s.heap.objs.size) (.ref (s.heap.objs.size + 1)) := by
    refine Heap.get?_push_of_some _ (Heap.get?_push_of_some _ ?_)
    have e : s.heap.objs.size + 2 = ((s.heap.push { cls := .type "list_iterator", data := .fields #[.ref l, .int 0 0] }).push { cls := .type "str_ascii_iterator", data := .fields #[.str x t, .int 0 0] }).objs.size := by simp only [Heap.size_push]
    rw [e]; exact Heap.get?_push_size _ rfl
  have g2 : (zH s.heap l x t).get? (s.heap.objs.size + 1) = some { cls := .type "str_ascii_iterator", data := .fields #[.str x t, .int 0 0] } := by
    refine Heap.get?_push_of_some _ (Heap.get?_push_of_some _ (Heap.get?_push_of_some _ ?_))
    have e : s.heap.objs.size + 1 = (s.heap.push { cls := .type "list_iterator", data := .fields #[.ref l, .int 0 0] }).objs.size := by simp only [Heap.size_push]
    rw [e]; exact Heap.get?_push_size _ rfl
  have g1 : (zH s.heap l x t).get? s.heap.objs.size = some { cls := .type "list_iterator", data := .fields #[.ref l, .int 0 0] } := Heap.get?_push_of_some _ (Heap.get?_push_of_some _ (Heap.get?_push_of_some _ (Heap.get?_push_of_some _ (Heap.get?_push_size _ rfl))))
  have z5 : (zH s.heap l x t).objs.size = s.heap.objs.size + 5 := by simp only [zH, Heap.size_push]
  exact ⟨⟨_, g5, rfl⟩, h _ g5 g3 g4 ⟨_, g1, rfl, rfl⟩ ⟨_, g2, rfl, rfl⟩ z5 fun c o x =>
    Heap.get?_push_of_some _ (Heap.get?_push_of_some _ (Heap.get?_push_of_some _ (Heap.get?_push_of_some _ (Heap.get?_push_of_some _ x))))⟩
end
end
end Mine

namespace Mine
section
set_option maxRecDepth 100000
open PySem PyProof.Rows PySem.W PySem.Spec PySem.Calls

theorem nf {n p k : Nat} (h : p < n) (e : p = n + k) : False := by omega
theorem nf0 {n p : Nat} (h : p < n) (e : p = n) : False := by omega
theorem ZA_new {n l : Nat} (hb : l < n) : ZA (n + 4) (n + 2) (n + 3) n (n + 1) [n, l] [n + 1] where
  TIz := by show (_ : Nat) ≠ (_ : Nat); omega
  TOz := by show (_ : Nat) ≠ (_ : Nat); omega
  i1z := by show (_ : Nat) ≠ (_ : Nat); omega
  i2z := by show (_ : Nat) ≠ (_ : Nat); omega
  TITO := by show (_ : Nat) ≠ (_ : Nat); omega
  TIi1 := by show (_ : Nat) ≠ (_ : Nat); omega
  TIi2 := by show (_ : Nat) ≠ (_ : Nat); omega
  TOi1 := by show (_ : Nat) ≠ (_ : Nat); omega
  TOi2 := by show (_ : Nat) ≠ (_ : Nat); omega
  i12 := by show (_ : Nat) ≠ (_ : Nat); omega
  z1 := by
    intro b h
    rcases List.mem_cons.mp h with h | h
    · subst h; show (_ : Nat) ≠ (_ : Nat); omega
    · rw [List.mem_singleton.mp h]; show (_ : Nat) ≠ (_ : Nat); omega
  z2 := by intro b h; rw [List.mem_singleton.mp h]; show (_ : Nat) ≠ (_ : Nat); omega
  t1 := by
    intro b h
    rcases List.mem_cons.mp h with h | h
    · subst h; show (_ : Nat) ≠ (_ : Nat); omega
    · rw [List.mem_singleton.mp h]; show (_ : Nat) ≠ (_ : Nat); omega
  t2 := by intro b h; rw [List.mem_singleton.mp h]; show (_ : Nat) ≠ (_ : Nat); omega
  o1 := by
    intro b h
    rcases List.mem_cons.mp h with h | h
    · subst h; show (_ : Nat) ≠ (_ : Nat); omega
    · rw [List.mem_singleton.mp h]; show (_ : Nat) ≠ (_ : Nat); omega
  o2 := by intro b h; rw [List.mem_singleton.mp h]; show (_ : Nat) ≠ (_ : Nat); omega

section
variable {prog : Program} {w : World} {A : Around} {E : Value → Shared → Prop} {s : Shared} {env : Env} {h₀ : Heap} {xi xc : Str} {body : List Stmt} {Q : Flow → Shared → Prop}

theorem kst_zipls {σ : Type} {l : Addr} {vs : List Value} {ns : List Int} {nn : Nat} {x : Str} {xt : Tok} {m₀ : Str → Option Value} (Led : σ → List (Addr × Obj)) (ps : σ → List (Str × Value)) (Facts : σ → Prop) (stored : List Str) (P : List Int → σ → Prop) (c₀ : σ)
    (hh : A.handled = none) (hl : ∀ c : σ, (l, listOf vs.toArray nn) ∈ Led c) (hi : IntsAre vs ns) (ha : x.cps.all (· < 128) = true) (hx : ns.length = x.cps.size) (hxi : stored.contains xi = true) (hne : xi ≠ xc) (hpi : ∀ c, ∀ p ∈ ps c, p.1 ≠ xi ∧ p.1 ≠ xc)
    (F : Fr h₀ env.locals s.heap m₀) (N : News h₀ env.locals s.heap (Led c₀)) (hf : Facts c₀) (hk : ∀ p ∈ ps c₀, m₀ p.1 = some p.2) (hp : P [] c₀)
    (turn : ∀ (c : σ) (pre : List Int) n t ch (cu : Tok) (u : Str → Option Value) h tk own, ns[pre.length]? = some n → x.cps[pre.length]? = some ch → n ∈ ns → pre = ns.take pre.length → OwnOff own ((Led c₀).map (·.1)) → Facts c → P pre c →
      Fr h₀ env.locals h (fun y => if y = xc then some (.str ⟨#[ch]⟩ cu) else if y = xi then some (.int n t) else kstB (fun z => if stored.contains z then u z else m₀ z) (ps c) y) → News h₀ env.locals h (Led c ++ own) →
      wpAny (model prog w) A (execs body env) (InvPostN h₀ env.locals (KstS Led ps Facts xc stored m₀ P (pre ++ [n])) own ((Led c₀).map (·.1)) { s with heap := h, toks := tk } Q) E { s with heap := h, toks := tk })
    (done : ∀ (c : σ) (u : Str → Option Value) h tk, Facts c → P ns c → Fr h₀ env.locals h (fun y => if y = xc then u y else kstB (fun z => if stored.contains z then u z else m₀ z) (ps c) y) → News h₀ env.locals h (Led c) → Q .next { s with heap := h, toks := tk }) :
    wpAny (model prog w) A (call (.type "zip") [.ref l, .str x xt]) (fun xv s₁ => wpAny (model prog w) A (pyIter xv) (fun it s₂ => PairAt3 prog w A h₀ env xi xc body Q E it s₂) E s₁) E s := by
  have hL : s.heap.IsList l vs.toArray := ⟨_, (N _ (hl c₀)).1, rfl, _, rfl⟩
  refine call_zip_ls hL ha fun h' hz hTI hTO hi1 hi2 hsz hk' => ?_
  have Fk : Fr h₀ env.locals h' m₀ := F.keeps hk'
  have Nk : News h₀ env.locals h' (Led c₀) := fun p hp => ⟨hk' _ _ (N p hp).1, (N p hp).2⟩
  have hb : l < s.heap.objs.size := by obtain ⟨_, e, _⟩ := hL; exact Heap.lt_size e
  have hLs : env.locals < s.heap.objs.size := F.ns.lt
  have hledger : ∀ p ∈ Led c₀, p.1 < s.heap.objs.size := fun p hp => Heap.lt_size (N p hp).1
  have fresh : ∀ b, s.heap.objs.size ≤ b → h₀.get? b = none := fun b hb' => Heap.get?_none_of_le (Nat.le_trans (Nat.le_of_lt (Nat.lt_of_le_of_lt F.above hLs)) hb')
  have Z : ZA (s.heap.objs.size + 4) (s.heap.objs.size + 2) (s.heap.objs.size + 3) s.heap.objs.size (s.heap.objs.size + 1) [s.heap.objs.size, l] [s.heap.objs.size + 1] := ZA_new hb
  have hA : A.in1.handled = none := hh
  have D1 := Draws.list (prog := prog) (w := w) hA s.heap.objs.size l (Nat.ne_of_lt hb) vs.toArray
  have D2 := Draws.strAscii (prog := prog) (w := w) hA (s.heap.objs.size + 1) x xt
  have hlen : vs.toArray.size = ns.length := by simp [hi.length]
  have W := WalksT_zipD (A := A) Z D1 D2 (by rw [hlen, hx]; exact Nat.le_refl _)
  refine wpAny_pyIter_zip hz ?_
  refine ⟨_, _, _, _, _, _, _, (fun i v0 v1 => (∃ n t, ns[i]? = some n ∧ v0 = .int n t) ∧ ∃ ch u, x.cps[i]? = some ch ∧ v1 = .str ⟨#[ch]⟩ u), m₀, Led c₀,
    (fun i m nx => KstS Led ps Facts xc stored m₀ P (ns.take i) m nx), rfl, W, ?_, ?_, ?_, ?_, ⟨hz, hTI, ⟨_, _, hTO⟩, ⟨hi1, ?_⟩, hi2⟩, Fk, Nk, ⟨c₀, rfl, hf, hk, fun _ _ _ _ => rfl, by simpa using hp⟩, ?_, ?_⟩
  · rintro i vals ⟨a, b, ha', hb', rfl⟩
    refine ⟨_, _, rfl, ?_, hb'⟩
    have hvi : i < vs.length := by
      have := (Array.getElem?_eq_some_iff.mp ha').1
      simpa using this
    have hni : i < ns.length := by rw [← hi.length]; exact hvi
    obtain ⟨t, e⟩ := hi.get i ns[i] (by simp [hni])
    have e' : vs[i]? = some a := by simpa using ha'
    rw [e'] at e
    cases e
    exact ⟨_, t, by simp [hni], rfl⟩
  · intro hm
    simp only [List.mem_append, List.mem_cons, List.not_mem_nil, or_false] at hm
    have hL0 : env.locals ≠ l := (N _ (hl c₀)).2.1.symm
    have hLs' : (env.locals : Nat) < s.heap.objs.size := hLs
    rcases hm with ((h | h | h | h | h) | h | h) | h <;> first | exact hL0 h | exact (nf hLs' h).elim | exact (nf0 hLs' h).elim
  · intro b hb'
    simp only [List.mem_cons, List.not_mem_nil, or_false] at hb'
    rcases hb' with rfl | rfl | rfl | rfl <;> first | exact fresh _ (Nat.le_refl _) | exact fresh _ (Nat.le_add_right _ _)
  · intro p hp' hb'
    have hq : (p.1 : Nat) < s.heap.objs.size := hledger p hp'
    simp only [List.mem_cons, List.not_mem_nil, or_false] at hb'
    rcases hb' with h | h | h | h <;> first | exact (nf hq h).elim | exact (nf0 hq h).elim
  · exact hL.at fun o e => hk' _ _ e
  · rintro i v0 v1 m₁ news₁ s₁ own ⟨hh₁, tk₁, rfl⟩ hlt ⟨⟨n, t, hn, rfl⟩, ch, cu, hch, rfl⟩ ⟨c, rfl, hfc, h1, h2, hpc⟩ hmap hsub F₁ N₁
    have hpl : (ns.take i).length = i := by
      have : i < ns.length := (List.getElem?_eq_some_iff.mp hn).1
      rw [List.length_take]; omega
    have hs' : ns.take (i + 1) = ns.take i ++ [n] := by simp [List.take_add_one, hn]
    have off : OwnOff (own.filter fun p => decide (p.1 ≠ l)) ((Led c₀).map (·.1)) := by
      intro p hp' b hb' e
      obtain ⟨q, hq, rfl⟩ := List.mem_map.mp hb'
      have hp1 := List.mem_filter.mp hp'
      have hne : p.1 ≠ l := of_decide_eq_true hp1.2
      have hq' : (q.1 : Nat) < s.heap.objs.size := hledger q hq
      have e' : (p.1 : Nat) = q.1 := e
      have hfp := hsub p hp1.1
      simp only [List.mem_append, List.mem_cons, List.not_mem_nil, or_false] at hfp
      rcases hfp with ((h | h | h | h | h) | h | h) | h <;> first | exact hne h | exact (nf hq' (e'.symm.trans h)).elim | exact (nf0 hq' (e'.symm.trans h)).elim
    have em : (fun y => if y = xc then some (Value.str ⟨#[ch]⟩ cu) else if y = xi then some (.int n t) else m₁ y) = fun y => if y = xc then some (Value.str ⟨#[ch]⟩ cu) else if y = xi then some (.int n t) else kstB (fun z => if stored.contains z then m₁ z else m₀ z) (ps c) y := by
      funext y
      by_cases hy : y = xc
      · rw [if_pos hy, if_pos hy]
      · rw [if_neg hy, if_neg hy]
        by_cases hy' : y = xi
        · rw [if_pos hy', if_pos hy']
        · rw [if_neg hy', if_neg hy']
          exact (kst_off h1 h2 hy).symm
    rw [em] at F₁
    have N₂ : News h₀ env.locals hh₁ (Led c ++ own.filter fun p => decide (p.1 ≠ l)) := fun p hp' => N₁ p ((List.mem_append.mp hp').elim (fun h => List.mem_append.mpr (.inr h)) fun h => List.mem_append.mpr (.inl (List.mem_filter.mp h).1))
    have main := turn c (ns.take i) n t ch cu m₁ hh₁ tk₁ (own.filter fun p => decide (p.1 ≠ l)) (by rw [hpl]; exact hn) (by rw [hpl]; exact hch) (List.mem_of_getElem? hn) (by rw [hpl]) off hfc hpc F₁ N₂
    refine wpAny_mono main (fun f s₂ hpost => ?_) fun _ _ e => e
    have fin : InvEndN h₀ env.locals (KstS Led ps Facts xc stored m₀ P (ns.take i ++ [n])) (own.filter fun p => decide (p.1 ≠ l)) ((Led c₀).map (·.1)) { s with heap := hh₁, toks := tk₁ } s₂ →
        LoopStep2 h₀ env.locals own (Led c) (fun m nx => KstS Led ps Facts xc stored m₀ P (ns.take (i + 1)) m nx) { s with heap := hh₁, toks := tk₁ } .next s₂ := by
      rintro ⟨g, tk, m', news', nx, e, F', N', hnx, how, hadr, hS⟩
      obtain ⟨c', rfl, hfc', h1', h2', hpc'⟩ := hS
      refine ⟨rfl, g, tk, m', Led c', e, F', fun p hp' => ?_, hadr.trans hmap.symm, ⟨c', rfl, hfc', h1', h2', by rw [hs']; exact hpc'⟩⟩
      rcases List.mem_append.mp hp' with ho | hl'
      · by_cases hpl' : p.1 = l
        · have z1 := (N₁ p (List.mem_append.mpr (.inl ho))).1
          have z2 := (N₁ _ (List.mem_append.mpr (.inr (hl c)))).1
          have : p = (l, listOf vs.toArray nn) := by
            obtain ⟨p1, p2⟩ := p
            dsimp only at hpl' z1
            subst hpl'
            rw [z1] at z2
            cases z2; rfl
          rw [this]
          exact N' _ (hnx _ (hl c'))
        · exact N' p (how p (List.mem_filter.mpr ⟨ho, decide_eq_true hpl'⟩))
      · exact N' p (hnx p hl')
    cases f with
    | ret v => exact hpost
    | brk => exact hpost
    | next => exact fin hpost
    | cont => exact fin hpost
  · rintro g tk m' news' F' N' _ ⟨c, rfl, hfc, h1, h2, hpc⟩
    have e : ns.take vs.toArray.size = ns := by rw [hlen, List.take_length]
    rw [e] at hpc
    exact done c m' g tk hfc hpc (kst_frOut h1 h2 F') N'
end
end
end Mine

namespace Mine
section
open PySem PySem.W PyProof.Rows PySem.Spec PySem.Calls
set_option maxRecDepth 100000
set_option maxHeartbeats 20000000

def addN (g1 g2 ws : List Int) (sg : Str) : Nat → List Int × Int
  | 0 => ([], 0)
  | k + 1 =>
    let p := addN g1 g2 ws sg k
    let up : Int := if (Txt.item sg (k : Int) == Str.ofString "+") = true then 1 else -1
    let both := g1.getD k 0 + g2.getD k 0 + up * p.2
    (p.1 ++ [Int.fmod both (2 ^ (ws.getD k 0).toNat)], up * Int.fdiv both (2 ^ (ws.getD k 0).toNat))
theorem add_start {g1 g2 ws : List Int} {sg : Str} : ([] : List Int).length = ([] : List Int).length ∧ (([] : List Int), (0 : Int)) = addN g1 g2 ws sg ([] : List Int).length := ⟨rfl, rfl⟩
theorem add_stepT {g1 g2 ws pre figs : List Int} {sg : Str} {c k : Int} (h1 : figs.length = pre.length) (h2 : (figs, c) = addN g1 g2 ws sg pre.length) (hk : k = 0 + (pre.length : Int)) (ht : (Txt.item sg k == Str.ofString "+") = true) :
    (figs ++ [Int.fmod (g1.getD k.toNat 0 + g2.getD k.toNat 0 + 1 * c) (2 ^ (ws.getD k.toNat 0).toNat)]).length = (pre ++ [k]).length ∧
    (figs ++ [Int.fmod (g1.getD k.toNat 0 + g2.getD k.toNat 0 + 1 * c) (2 ^ (ws.getD k.toNat 0).toNat)], 1 * Int.fdiv (g1.getD k.toNat 0 + g2.getD k.toNat 0 + 1 * c) (2 ^ (ws.getD k.toNat 0).toNat)) = addN g1 g2 ws sg (pre ++ [k]).length := by
  have e : k = (pre.length : Int) := by omega
  subst e
  refine ⟨by simp [h1], ?_⟩
  rw [List.length_append, List.length_singleton, addN, ← h2]
  simp only [ht, if_true, Int.toNat_natCast]
theorem add_stepF {g1 g2 ws pre figs : List Int} {sg : Str} {c k : Int} (h1 : figs.length = pre.length) (h2 : (figs, c) = addN g1 g2 ws sg pre.length) (hk : k = 0 + (pre.length : Int)) (ht : (Txt.item sg k == Str.ofString "+") = false) :
    (figs ++ [Int.fmod (g1.getD k.toNat 0 + g2.getD k.toNat 0 + -1 * c) (2 ^ (ws.getD k.toNat 0).toNat)]).length = (pre ++ [k]).length ∧
    (figs ++ [Int.fmod (g1.getD k.toNat 0 + g2.getD k.toNat 0 + -1 * c) (2 ^ (ws.getD k.toNat 0).toNat)], -1 * Int.fdiv (g1.getD k.toNat 0 + g2.getD k.toNat 0 + -1 * c) (2 ^ (ws.getD k.toNat 0).toNat)) = addN g1 g2 ws sg (pre ++ [k]).length := by
  have e : k = (pre.length : Int) := by omega
  subst e
  refine ⟨by simp [h1], ?_⟩
  rw [List.length_append, List.length_singleton, addN, ← h2]
  simp only [ht, Bool.false_eq_true, if_false, Int.toNat_natCast]

theorem add_end {g1 g2 ws figs : List Int} {sg : Str} {c : Int} (h : (figs, c) = addN g1 g2 ws sg (rangeKs 0 ((ws.length : Int) - 0).toNat).length) : figs = (addN g1 g2 ws sg ws.length).1 ∧ c = (addN g1 g2 ws sg ws.length).2 := by
  have e : (rangeKs 0 ((ws.length : Int) - 0).toNat).length = ws.length := by rw [rangeKs_length]; omega
  rw [e] at h
  rw [← h]; exact ⟨rfl, rfl⟩
theorem getD_bd {ws : List Int} (hw : ∀ x ∈ ws, 1 ≤ x ∧ x ≤ 3) (i : Nat) : 0 ≤ ws.getD i 0 ∧ ws.getD i 0 ≤ 3 := by
  rw [List.getD_eq_getElem?_getD]
  cases h : ws[i]? with
  | none => simp
  | some x => have := hw x (List.mem_of_getElem? h); simp; omega
theorem getD_lo {ws : List Int} (hw : ∀ x ∈ ws, 1 ≤ x ∧ x ≤ 3) (i : Nat) : 0 ≤ ws.getD i 0 := (getD_bd hw i).1
theorem getD_hi {ws : List Int} (hw : ∀ x ∈ ws, 1 ≤ x ∧ x ≤ 3) (i : Nat) : ws.getD i 0 ≤ 1000000 := by have := (getD_bd hw i).2; omega
theorem getD_9 {ws : List Int} (hw : ∀ x ∈ ws, 1 ≤ x ∧ x ≤ 3) (i : Nat) : ws.getD i 0 < 9000 := by have := (getD_bd hw i).2; omega
theorem pow2_neA (k : Nat) : (2 : Int) ^ k ≠ 0 := Int.ne_of_gt (Int.pow_pos (by decide))
local macro_rules | `(tactic| walk_at "binaryOp Pow int int") => `(tactic| (refine pow_int_small (getD_lo (by assumption) _) (getD_hi (by assumption) _) (by decide) ?_))
local macro_rules | `(tactic| walk_at "binaryOp FloorDiv int int") => `(tactic| (refine floordiv_int (pow2_neA _) ?_ (Or.inl (PyProof.noPylong_of_log2 (kbt_py (getD_9 (by assumption) _))))))
local macro_rules | `(tactic| walk_at "binaryOp Mod int int") => `(tactic| (refine mod_int' (pow2_neA _) ?_))

theorem added (trig : PySem.Challenge.rw_xg0044_01 = PySem.Challenge.rw_xg0044_01) (w : World) (mean : ExcName → Option Value) (mg mb : Str → Option Value)
    (dp un : Nat) (gd : Option (List Code)) (cn : Str) (cs : Scope) (a : Addr) (ccd : Value) (cl : List (Str × Addr)) (outer : List Env) (A₀ : Around) (base h₀ : Heap) (L : Addr) (m : Str → Option Value) (news : List (Addr × Obj)) (s : Shared) (Q E : Value → Shared → Prop)
    (B : Below A₀ base outer h₀) (F : Fr h₀ L s.heap m) (X : (KF w.params).In h₀)
    (l l1 l2 f1 f2 : Addr) (vs v1 v2 : List Value) (ws g1 g2 : List Int) (r1 r2 : Int) (t1 t2 t3 : Tok) (n n1 n2 n3 n4 : Nat) (sg : Str)
    (N : News h₀ L s.heap ((l, listOf vs.toArray n) :: (l1, listOf #[.ref f1, .int r1 t1] n1) :: (f1, listOf v1.toArray n2) :: (l2, listOf #[.ref f2, .int r2 t2] n3) :: (f2, listOf v2.toArray n4) :: news))
    (hi : IntsAre vs ws) (hi1 : IntsAre v1 g1) (hi2 : IntsAre v2 g2) (e1 : g1.length = ws.length) (e2 : g2.length = ws.length) (e3 : sg.length = ws.length) (hlen : ws.length ≤ 60)
    (hw : ∀ x ∈ ws, 1 ≤ x ∧ x ≤ 3)
    (T : Top VW LO mean mg mb h₀) (hk : cs.kind = .function) (hd' : dp + 1 < recursionLimit) (hu : un + 8 < cLine)
    (ret : ∀ (r f : Addr) (ys : List Value) (t : Tok) (n' n'' : Nat) (h' : Heap) (tk' : Nat), Fr h₀ L h' m → IntsAre ys (addN g1 g2 ws sg ws.length).1 →
      News h₀ L h' ((r, listOf #[.ref f, .int (r1 + r2 + (addN g1 g2 ws sg ws.length).2) t] n') :: (f, listOf ys.toArray n'') :: (l, listOf vs.toArray n) :: (l1, listOf #[.ref f1, .int r1 t1] n1) :: (f1, listOf v1.toArray n2) :: (l2, listOf #[.ref f2, .int r2 t2] n3) :: (f2, listOf v2.toArray n4) :: news) →
      Q (.ref r) { s with heap := h', toks := tk' }) :
    wpAny (model PG w) (ktrTop dp un gd cn cs L a ccd cl outer) (call (.ref 101) [.ref l1, .ref l2, .ref l, .str sg t3]) Q E s := by
  have : PySem.Challenge.rw_xg0044_01 = PySem.Challenge.rw_xg0044_01 ∧ (KF w.params).In h₀ := ⟨rfl, X⟩
  revert this
  w_top off
  k_with_none
  k_fill
  intro _
  clear trig
  refine wpAny_call ?_
  k_dflt cell_enter
  (k_with "pyIter ref" => k_state (fun pre figs carry => figs.length = pre.length ∧ (figs, carry) = addN g1 g2 ws sg pre.length) "figures" "carry")
  (k_with "state" => first | exact add_start | exact add_stepT (by assumption) (by assumption) (by assumption) (by assumption) | exact add_stepF (by assumption) (by assumption) (by assumption) (by assumption))
  k_steps
  obtain ⟨q1, q2⟩ := add_end (by assumption)
  subst q1 q2
  exact ret _ _ _ _ _ _ _ _ (by assumption) (by assumption) (by assumption)
end
end Mine

namespace Mine
section
open PySem PySem.W PyProof.Rows PySem.Spec PySem.Calls
set_option maxRecDepth 100000
set_option maxHeartbeats 20000000
local macro_rules | `(tactic| tb_rel) => `(tactic| first | (k_unfold; (try dsimp only)) | (k_end; wrow_close) | walk1 | (dsimp only; walk1) | (leave1; walk_say "STEP leave1"; try dsimp only) | fail "no step")

def partN (num : Int) (ws : List Int) (sg : Str) : Nat → List Int × Int
  | 0 => ([], num)
  | k + 1 =>
    let p := partN num ws sg k
    let b : Int := 2 ^ (ws.getD k 0).toNat
    if sg.cps[k]? = some 43 then (p.1 ++ [Int.fmod p.2 b], Int.fdiv (p.2 - Int.fmod p.2 b) b)
    else (p.1 ++ [Int.fmod (-p.2) b], Int.fdiv (p.2 + Int.fmod (-p.2) b) b)

theorem lastD (c : List Int) (v : Int) : (c ++ [v]).getD (-1 + ((c ++ [v]).length : Int)).toNat 0 = v := by
  have e : (-1 + ((c ++ [v]).length : Int)).toNat = c.length := by rw [List.length_append, List.length_singleton]; omega
  rw [e]; simp
theorem part_stepT {num : Int} {ws pre c2 : List Int} {sg : Str} {c4 kN : Int} {ch : Nat} (h1 : c2.length = pre.length) (h2 : (c2, c4) = partN num ws sg pre.length) (hn : ws[pre.length]? = some kN) (hc : sg.cps[pre.length]? = some ch) (ht : (Str.mk #[ch] == Str.ofString "+") = true) :
    (c2 ++ [Int.fmod c4 (2 ^ kN.toNat)]).length = (pre ++ [kN]).length ∧
    (c2 ++ [Int.fmod c4 (2 ^ kN.toNat)], Int.fdiv (c4 - (c2 ++ [Int.fmod c4 (2 ^ kN.toNat)]).getD (-1 + ((c2 ++ [Int.fmod c4 (2 ^ kN.toNat)]).length : Int)).toNat 0) (2 ^ kN.toNat)) = partN num ws sg (pre ++ [kN]).length := by
  have hch : ch = 43 := by
    have e : Str.ofString "+" = Str.mk #[43] := by decide +kernel
    rw [e] at ht
    have := eq_of_beq ht
    injection this with this
    simpa using this
  subst hch
  refine ⟨by simp [h1], ?_⟩
  have hd : ws.getD pre.length 0 = kN := by rw [List.getD_eq_getElem?_getD, hn]; rfl
  rw [lastD, List.length_append, List.length_singleton, partN, ← h2]
  simp only [hc, hd, if_true]
theorem part_stepF {num : Int} {ws pre c2 : List Int} {sg : Str} {c4 kN : Int} {ch : Nat} (h1 : c2.length = pre.length) (h2 : (c2, c4) = partN num ws sg pre.length) (hn : ws[pre.length]? = some kN) (hc : sg.cps[pre.length]? = some ch) (ht : (Str.mk #[ch] == Str.ofString "+") = false) :
    (c2 ++ [Int.fmod (-c4) (2 ^ kN.toNat)]).length = (pre ++ [kN]).length ∧
    (c2 ++ [Int.fmod (-c4) (2 ^ kN.toNat)], Int.fdiv (c4 + (c2 ++ [Int.fmod (-c4) (2 ^ kN.toNat)]).getD (-1 + ((c2 ++ [Int.fmod (-c4) (2 ^ kN.toNat)]).length : Int)).toNat 0) (2 ^ kN.toNat)) = partN num ws sg (pre ++ [kN]).length := by
  have hch : ch ≠ 43 := by
    have e : Str.ofString "+" = Str.mk #[43] := by decide +kernel
    intro h
    rw [e, h] at ht
    simp at ht
  refine ⟨by simp [h1], ?_⟩
  have hd : ws.getD pre.length 0 = kN := by rw [List.getD_eq_getElem?_getD, hn]; rfl
  have hne : ¬ (some ch = some 43) := fun h => hch (Option.some.inj h)
  rw [lastD, List.length_append, List.length_singleton, partN, ← h2]
  simp only [hc, hd, if_neg hne]
theorem part_end {num : Int} {ws c2 : List Int} {sg : Str} {c4 : Int} {k : Nat} (h : (c2, c4) = partN num ws sg k) : c2 = (partN num ws sg k).1 ∧ c4 = (partN num ws sg k).2 := by rw [← h]; exact ⟨rfl, rfl⟩

theorem mem_lo {ws : List Int} {n : Int} (hw : ∀ x ∈ ws, 1 ≤ x ∧ x ≤ 3) (h : n ∈ ws) : 0 ≤ n := by have := hw n h; omega
theorem mem_hi {ws : List Int} {n : Int} (hw : ∀ x ∈ ws, 1 ≤ x ∧ x ≤ 3) (h : n ∈ ws) : n ≤ 1000000 := by have := hw n h; omega
theorem mem_9 {ws : List Int} {n : Int} (hw : ∀ x ∈ ws, 1 ≤ x ∧ x ≤ 3) (h : n ∈ ws) : n < 9000 := by have := hw n h; omega
theorem pow2_ne (k : Nat) : (2 : Int) ^ k ≠ 0 := Int.ne_of_gt (Int.pow_pos (by decide))
local macro_rules | `(tactic| walk_at "binaryOp Pow int int") => `(tactic| (refine pow_int_small (mem_lo (by assumption) (by assumption)) (mem_hi (by assumption) (by assumption)) (by decide) ?_))
local macro_rules | `(tactic| walk_at "binaryOp FloorDiv int int") => `(tactic| (refine floordiv_int (pow2_ne _) ?_ (Or.inl (PyProof.noPylong_of_log2 (kbt_py (mem_9 (by assumption) (by assumption)))))))
local macro_rules | `(tactic| walk_at "binaryOp Mod int int") => `(tactic| (refine mod_int' (pow2_ne _) ?_))
local macro_rules | `(tactic| walk_at "exec For Tuple Call cons nil") => `(tactic| ((rename Fr _ _ _ _ => F'); (with_reducible apply For_pair3F); (case _F => with_unfolding_all exact F'); (case hh => with_unfolding_all rfl); (case hxi => with_unfolding_all rfl); (case hxc => with_unfolding_all rfl); (case hp => with_unfolding_all rfl); (case hs => (intro _; with_unfolding_all rfl))))

theorem parted (trig : PySem.Challenge.rw_xg0044_01 = PySem.Challenge.rw_xg0044_01) (w : World) (mean : ExcName → Option Value) (mg mb : Str → Option Value)
    (dp un : Nat) (gd : Option (List Code)) (cn : Str) (cs : Scope) (a : Addr) (ccd : Value) (cl : List (Str × Addr)) (outer : List Env) (A₀ : Around) (base h₀ : Heap) (L : Addr) (m : Str → Option Value) (news : List (Addr × Obj)) (s : Shared) (Q E : Value → Shared → Prop)
    (B : Below A₀ base outer h₀) (F : Fr h₀ L s.heap m) (X : (KF w.params).In h₀)
    (l : Addr) (vs : List Value) (ws : List Int) (num : Int) (t1 t3 : Tok) (n : Nat) (sg : Str)
    (N : News h₀ L s.heap ((l, listOf vs.toArray n) :: news))
    (hi : IntsAre vs ws) (e3 : ws.length = sg.cps.size) (hlen : ws.length ≤ 60) (hsg : sg.cps.all (· < 128) = true)
    (hw : ∀ x ∈ ws, 1 ≤ x ∧ x ≤ 3)
    (T : Top VW LO mean mg mb h₀) (hk : cs.kind = .function) (hd' : dp + 1 < recursionLimit) (hu : un + 8 < cLine)
    (ret : ∀ (r f : Addr) (ys : List Value) (t : Tok) (n' n'' : Nat) (h' : Heap) (tk' : Nat), Fr h₀ L h' m → IntsAre ys (partN num ws sg ws.length).1 →
      News h₀ L h' ((r, listOf #[.ref f, .int (partN num ws sg ws.length).2 t] n') :: (f, listOf ys.toArray n'') :: (l, listOf vs.toArray n) :: news) →
      Q (.ref r) { s with heap := h', toks := tk' }) :
    wpAny (model PG w) (ktrTop dp un gd cn cs L a ccd cl outer) (call (.ref 94) [.int num t1, .ref l, .str sg t3]) Q E s := by
  have : PySem.Challenge.rw_xg0044_01 = PySem.Challenge.rw_xg0044_01 ∧ (KF w.params).In h₀ := ⟨rfl, X⟩
  revert this
  w_top off
  k_with_none
  k_fill
  intro _
  clear trig
  refine wpAny_call ?_
  k_dflt cell_enter
  iterate 18 tb_rel
  case hE => passes_own
  (rename Fr _ _ _ _ => lF')
  (rename News _ _ _ _ => lN')
  rename_i fa _ hlt _
  refine kst_zipls (σ := List Value × List Int × Nat × Int × Nat) (l := l) (vs := vs) (ns := ws) (nn := n)
   (fun c => (fa, listOf c.1.toArray c.2.2.1) :: (l, listOf vs.toArray n) :: news) (fun c => [(Str.ofString "number", .int c.2.2.2.1 c.2.2.2.2)]) (fun c => IntsAre c.1 c.2.1) [Str.ofString "wide", Str.ofString "base"]
   (fun pre c => c.2.1.length = pre.length ∧ (c.2.1, c.2.2.2.1) = partN num ws sg pre.length) ([], [], 0, num, t1) rfl (by intro c; simp) hi hsg e3 (by decide) (by decide) ?hpi lF' lN' IntsAre.nil (by kst_all) ⟨rfl, rfl⟩ ?turn ?done
  case hpi => intro c p hp; rw [List.mem_singleton.mp hp]; exact ⟨by show Str.ofString "number" ≠ _; decide, by show Str.ofString "number" ≠ _; decide⟩
  case turn =>
    intro c pre kN kT ch cu kU kH kTk kOwn hn hch hmem hpre kOff kFacts kInv kFr kNews
    have kMark := kstMark
    obtain ⟨c1, c2, c3, c4, c5⟩ := c
    dsimp only [kstB] at kFr
    dsimp only at kNews kFacts kInv
    simp only [List.nil_append, List.cons_append, List.append_nil] at kNews
    simp only [List.map_cons, List.map_nil] at kOff
    have kLen := kFacts.length
    have kLen2 := hi.length
    obtain ⟨inv1, inv2⟩ := kInv
    have kLt : pre.length < ws.length := (List.getElem?_eq_some_iff.mp hn).1
    clear lF' lN' ret
    (try k_fold)
    (k_with "state" => first | exact part_stepT (by assumption) (by assumption) (by assumption) (by assumption) (by assumption) | exact part_stepF (by assumption) (by assumption) (by assumption) (by assumption) (by assumption))
    k_steps
  case done =>
    intro c kU kH kTk kFacts kInv kFr kNews
    have kMark := kstMark
    obtain ⟨c1, c2, c3, c4, c5⟩ := c
    dsimp only [kstB] at kFr
    dsimp only at kNews kFacts kInv
    have kLen := kFacts.length
    obtain ⟨inv1, inv2⟩ := kInv
    obtain ⟨q1, q2⟩ := part_end inv2
    subst q1 q2
    clear lF' lN'
    (try k_fold)
    k_steps
    exact ret _ _ _ _ _ _ _ _ (by assumption) (by assumption) (by assumption)
end
end Mine

namespace Mine
section
open PySem PySem.W PyProof.Rows PySem.Spec PySem.Calls
theorem join_cps : ∀ l : List Str, (Str.join (Str.ofString "") l).cps.toList = l.flatMap (fun x => x.cps.toList)
  | [] => rfl
  | [x] => by simp [Str.join]
  | x :: y :: r => by
    have ih := join_cps (y :: r)
    rw [Str.join, Str.cps_append, Str.cps_append, Array.toList_append, Array.toList_append, ih]
    have e : (Str.ofString "").cps.toList = [] := by decide +kernel
    rw [e]; simp
    intro h; cases h
theorem tjoin_cps (l : List Str) : (Txt.join (Str.ofString "") l).cps.toList = l.flatMap (fun x => x.cps.toList) := by
  show (Builtin.Str.glued (Str.ofString "") l).cps.toList = _
  rw [StrLaws.glued_eq_join]; exact join_cps l
noncomputable def ltxt (sg : Str) (figs : List Int) (k : Int) : Str := ⟨#[sg.cps.getD k.toNat 0, 48 + (figs.getD k.toNat 0).toNat]⟩
theorem pairs_len {f g : Nat → Nat} : ∀ n, ((List.range n).flatMap fun j => [f j, g j]).length = 2 * n
  | 0 => rfl
  | n + 1 => by rw [List.range_succ, List.flatMap_append, List.length_append, pairs_len n]; simp; omega
theorem pairs_at {f g : Nat → Nat} : ∀ n i v, ((List.range n).flatMap fun j => [f j, g j])[i]? = some v → i / 2 < n ∧ (i % 2 = 0 → v = f (i / 2)) ∧ (i % 2 ≠ 0 → v = g (i / 2))
  | 0, i, v, h => by simp at h
  | n + 1, i, v, h => by
    rw [List.range_succ, List.flatMap_append] at h
    by_cases hi : i < 2 * n
    · rw [List.getElem?_append_left (by rw [pairs_len]; exact hi)] at h
      obtain ⟨a, b⟩ := pairs_at n i v h
      exact ⟨by omega, b⟩
    · rw [List.getElem?_append_right (by rw [pairs_len]; omega), pairs_len] at h
      obtain ⟨k, rfl⟩ : ∃ k, i = 2 * n + k := ⟨i - 2 * n, by omega⟩
      have e : 2 * n + k - 2 * n = k := by omega
      rw [e] at h
      match k, h with
      | 0, h =>
        have : f n = v := by simpa using h
        have e2 : (2 * n + 0) / 2 = n := by omega
        rw [e2]
        exact ⟨by omega, fun _ => this.symm, fun h => absurd (by omega) h⟩
      | 1, h =>
        have : g n = v := by simpa using h
        have e2 : (2 * n + 1) / 2 = n := by omega
        rw [e2]
        exact ⟨by omega, fun h => absurd h (by omega), fun _ => this.symm⟩
      | k + 2, h => simp at h
theorem codes_ltxt {sg : Str} {figs : List Int} (n : Nat) : KStt.codes (Txt.join (Str.ofString "") (List.map (ltxt sg figs) (rangeKs 0 n))) = ((List.range n).flatMap fun j => [sg.cps.getD j 0, 48 + (figs.getD j 0).toNat]).map (fun c : Nat => (c : Int)) := by
  unfold KStt.codes
  rw [tjoin_cps, rangeKs, List.map_map, List.flatMap_map]
  congr 1
  congr 1
  funext j
  simp [ltxt, Function.comp]
theorem text_len {sg : Str} {figs : List Int} (n : Nat) : (KStt.codes (Txt.join (Str.ofString "") (List.map (ltxt sg figs) (rangeKs 0 n)))).length = 2 * n := by
  rw [codes_ltxt, List.length_map, pairs_len]
theorem text_at {sg : Str} {figs : List Int} {n : Nat} {pre post : List Int} {v : Nat} (hn : n ≤ sg.cps.size) (h : KStt.codes (Txt.join (Str.ofString "") (List.map (ltxt sg figs) (rangeKs 0 n))) = pre ++ (v : Int) :: post) :
   pre.length / 2 < n ∧ (pre.length % 2 = 0 → v = sg.cps.getD (pre.length / 2) 0) ∧ (pre.length % 2 ≠ 0 → v = 48 + (figs.getD (pre.length / 2) 0).toNat) := by
  have h1 : (KStt.codes (Txt.join (Str.ofString "") (List.map (ltxt sg figs) (rangeKs 0 n))))[pre.length]? = some (v : Int) := by rw [h]; simp
  rw [codes_ltxt, List.getElem?_map] at h1
  obtain ⟨u, hu, e⟩ := Option.map_eq_some_iff.mp h1
  have : u = v := by omega
  subst this
  exact pairs_at n _ _ hu
abbrev LSt := Int × Int × Int × Int × Bool
/-- state after i signs of the text: bits, mask, place, k, down -/
def laidS (ws figs : List Int) (sg : Str) : Nat → LSt
  | 0 => (0, 0, 0, 0, false)
  | i + 1 =>
    let c := laidS ws figs sg i
    if i % 2 = 0 then (c.1, c.2.1, c.2.2.1, c.2.2.2.1, decide (sg.cps.getD (i / 2) 0 = 45))
    else (Builtin.bitOr c.1 (figs.getD (i / 2) 0 * 2 ^ c.2.2.1.toNat),
      (if c.2.2.2.2 then Builtin.bitOr c.2.1 ((2 ^ (ws.getD (i / 2) 0).toNat - 1) * 2 ^ c.2.2.1.toNat) else c.2.1),
      c.2.2.1 + ws.getD (i / 2) 0, c.2.2.2.1 + 1, c.2.2.2.2)
theorem laid_e1 {ws figs : List Int} {sg : Str} {b1 b2 b3 : Int} {b5 : Bool} {pre : List Int} {v : Nat} {d : Int} (h : (b1, b2, b3, ((pre.length / 2 : Nat) : Int), b5) = laidS ws figs sg pre.length) (h2 : ¬ pre.length % 2 = 0) (hd : figs.getD (pre.length / 2) 0 = d) (hb : b5 = true) :
    (Builtin.bitOr b1 ((256 + d - 256) * 2 ^ b3.toNat), Builtin.bitOr b2 ((1 * 2 ^ (ws.getD ((pre.length / 2 : Nat) : Int).toNat 0).toNat - 1) * 2 ^ b3.toNat), b3 + ws.getD ((pre.length / 2 : Nat) : Int).toNat 0, ((pre.length / 2 : Nat) : Int) + 1, b5) = laidS ws figs sg (pre ++ [(v : Int)]).length := by
  rw [List.length_append, List.length_singleton, laidS, ← h]
  have e : 256 + d - 256 = d := by omega
  simp only [h2, if_false, hd, hb, if_true, e, Int.toNat_natCast, Int.one_mul]
theorem laid_e0 {ws figs : List Int} {sg : Str} {b1 b2 b3 : Int} {b5 : Bool} {pre : List Int} {v : Nat} {d : Int} (h : (b1, b2, b3, ((pre.length / 2 : Nat) : Int), b5) = laidS ws figs sg pre.length) (h2 : ¬ pre.length % 2 = 0) (hd : figs.getD (pre.length / 2) 0 = d) (hb : b5 = false) :
    (Builtin.bitOr b1 ((256 + d - 256) * 2 ^ b3.toNat), b2, b3 + ws.getD ((pre.length / 2 : Nat) : Int).toNat 0, ((pre.length / 2 : Nat) : Int) + 1, b5) = laidS ws figs sg (pre ++ [(v : Int)]).length := by
  rw [List.length_append, List.length_singleton, laidS, ← h]
  have e : 256 + d - 256 = d := by omega
  simp only [h2, if_false, hd, hb, e, Int.toNat_natCast, Bool.false_eq_true]
end
end Mine

namespace Mine
section
open PySem PySem.W PyProof.Rows PySem.Spec PySem.Calls
set_option maxRecDepth 100000
set_option maxHeartbeats 20000000
/-- a fact that omega shall not see -/
structure Hid (p : Prop) : Prop where
  out : p
local macro_rules | `(tactic| walk_at "binaryOp LShift int int") => `(tactic| (refine lshift_int_small (by assumption) (by assumption) (Hid.out (by assumption)) ?_))
theorem op_add (trig : PySem.Challenge.rw_xg0044_01 = PySem.Challenge.rw_xg0044_01) (w : World) (mean : ExcName → Option Value) (mg mb : Str → Option Value)
    (dp un : Nat) (gd : Option (List Code)) (cn : Str) (cs : Scope) (a : Addr) (ccd : Value) (cl : List (Str × Addr)) (outer : List Env) (A₀ : Around) (base h₀ : Heap) (L : Addr) (m : Str → Option Value) (news : List (Addr × Obj)) (s : Shared) (Q E : Value → Shared → Prop)
    (B : Below A₀ base outer h₀) (F : Fr h₀ L s.heap m) (X : (KF w.params).In h₀) (N : News h₀ L s.heap news)
    (T : Top VW LO mean mg mb h₀) (hk : cs.kind = .function) (hd' : dp + 1 < recursionLimit) (hu : un + 8 < cLine) (x y : Int) (t1 t2 : Tok)
    (ret : ∀ (t : Tok) (h' : Heap) (tk' : Nat), Fr h₀ L h' m → News h₀ L h' news → Q (.int (x + y) t) { s with heap := h', toks := tk' }) :
    wpAny (model PG w) (ktrTop dp un gd cn cs L a ccd cl outer) (call (.ref 21) [.int x t1, .int y t2]) Q E s := by
  have : PySem.Challenge.rw_xg0044_01 = PySem.Challenge.rw_xg0044_01 ∧ (KF w.params).In h₀ := ⟨rfl, X⟩
  revert this
  w_top off
  k_with_none
  k_fill
  intro _
  clear trig
  refine wpAny_call ?_
  k_dflt cell_enter
  k_steps
  exact ret _ _ _ (by assumption) (by assumption)
theorem op_lshift (trig : PySem.Challenge.rw_xg0044_01 = PySem.Challenge.rw_xg0044_01) (w : World) (mean : ExcName → Option Value) (mg mb : Str → Option Value)
    (dp un : Nat) (gd : Option (List Code)) (cn : Str) (cs : Scope) (a : Addr) (ccd : Value) (cl : List (Str × Addr)) (outer : List Env) (A₀ : Around) (base h₀ : Heap) (L : Addr) (m : Str → Option Value) (news : List (Addr × Obj)) (s : Shared) (Q E : Value → Shared → Prop)
    (B : Below A₀ base outer h₀) (F : Fr h₀ L s.heap m) (X : (KF w.params).In h₀) (N : News h₀ L s.heap news)
    (T : Top VW LO mean mg mb h₀) (hk : cs.kind = .function) (hd' : dp + 1 < recursionLimit) (hu : un + 8 < cLine) (x y : Int) (t1 t2 : Tok) (hy0 : 0 ≤ y) (hy1 : y ≤ 1000000) (hx : Hid (x.natAbs < 2 ^ 64))
    (ret : ∀ (t : Tok) (h' : Heap) (tk' : Nat), Fr h₀ L h' m → News h₀ L h' news → Q (.int (x * 2 ^ y.toNat) t) { s with heap := h', toks := tk' }) :
    wpAny (model PG w) (ktrTop dp un gd cn cs L a ccd cl outer) (call (.ref 28) [.int x t1, .int y t2]) Q E s := by
  have : PySem.Challenge.rw_xg0044_01 = PySem.Challenge.rw_xg0044_01 ∧ (KF w.params).In h₀ := ⟨rfl, X⟩
  revert this
  w_top off
  k_with_none
  k_fill
  intro _
  clear trig
  refine wpAny_call ?_
  k_dflt cell_enter
  k_steps
  exact ret _ _ _ (by assumption) (by assumption)
theorem op_neg (trig : PySem.Challenge.rw_xg0044_01 = PySem.Challenge.rw_xg0044_01) (w : World) (mean : ExcName → Option Value) (mg mb : Str → Option Value)
    (dp un : Nat) (gd : Option (List Code)) (cn : Str) (cs : Scope) (a : Addr) (ccd : Value) (cl : List (Str × Addr)) (outer : List Env) (A₀ : Around) (base h₀ : Heap) (L : Addr) (m : Str → Option Value) (news : List (Addr × Obj)) (s : Shared) (Q E : Value → Shared → Prop)
    (B : Below A₀ base outer h₀) (F : Fr h₀ L s.heap m) (X : (KF w.params).In h₀) (N : News h₀ L s.heap news)
    (T : Top VW LO mean mg mb h₀) (hk : cs.kind = .function) (hd' : dp + 1 < recursionLimit) (hu : un + 8 < cLine) (x : Int) (t1 : Tok)
    (ret : ∀ (t : Tok) (h' : Heap) (tk' : Nat), Fr h₀ L h' m → News h₀ L h' news → Q (.int (-x) t) { s with heap := h', toks := tk' }) :
    wpAny (model PG w) (ktrTop dp un gd cn cs L a ccd cl outer) (call (.ref 35) [.int x t1]) Q E s := by
  have : PySem.Challenge.rw_xg0044_01 = PySem.Challenge.rw_xg0044_01 ∧ (KF w.params).In h₀ := ⟨rfl, X⟩
  revert this
  w_top off
  k_with_none
  k_fill
  intro _
  clear trig
  refine wpAny_call ?_
  k_dflt cell_enter
  k_steps
  exact ret _ _ _ (by assumption) (by assumption)
theorem op_or_ (trig : PySem.Challenge.rw_xg0044_01 = PySem.Challenge.rw_xg0044_01) (w : World) (mean : ExcName → Option Value) (mg mb : Str → Option Value)
    (dp un : Nat) (gd : Option (List Code)) (cn : Str) (cs : Scope) (a : Addr) (ccd : Value) (cl : List (Str × Addr)) (outer : List Env) (A₀ : Around) (base h₀ : Heap) (L : Addr) (m : Str → Option Value) (news : List (Addr × Obj)) (s : Shared) (Q E : Value → Shared → Prop)
    (B : Below A₀ base outer h₀) (F : Fr h₀ L s.heap m) (X : (KF w.params).In h₀) (N : News h₀ L s.heap news)
    (T : Top VW LO mean mg mb h₀) (hk : cs.kind = .function) (hd' : dp + 1 < recursionLimit) (hu : un + 8 < cLine) (x y : Int) (t1 t2 : Tok)
    (ret : ∀ (t : Tok) (h' : Heap) (tk' : Nat), Fr h₀ L h' m → News h₀ L h' news → Q (.int (Builtin.bitOr x y) t) { s with heap := h', toks := tk' }) :
    wpAny (model PG w) (ktrTop dp un gd cn cs L a ccd cl outer) (call (.ref 42) [.int x t1, .int y t2]) Q E s := by
  have : PySem.Challenge.rw_xg0044_01 = PySem.Challenge.rw_xg0044_01 ∧ (KF w.params).In h₀ := ⟨rfl, X⟩
  revert this
  w_top off
  k_with_none
  k_fill
  intro _
  clear trig
  refine wpAny_call ?_
  k_dflt cell_enter
  k_steps
  exact ret _ _ _ (by assumption) (by assumption)
theorem op_sub (trig : PySem.Challenge.rw_xg0044_01 = PySem.Challenge.rw_xg0044_01) (w : World) (mean : ExcName → Option Value) (mg mb : Str → Option Value)
    (dp un : Nat) (gd : Option (List Code)) (cn : Str) (cs : Scope) (a : Addr) (ccd : Value) (cl : List (Str × Addr)) (outer : List Env) (A₀ : Around) (base h₀ : Heap) (L : Addr) (m : Str → Option Value) (news : List (Addr × Obj)) (s : Shared) (Q E : Value → Shared → Prop)
    (B : Below A₀ base outer h₀) (F : Fr h₀ L s.heap m) (X : (KF w.params).In h₀) (N : News h₀ L s.heap news)
    (T : Top VW LO mean mg mb h₀) (hk : cs.kind = .function) (hd' : dp + 1 < recursionLimit) (hu : un + 8 < cLine) (x y : Int) (t1 t2 : Tok)
    (ret : ∀ (t : Tok) (h' : Heap) (tk' : Nat), Fr h₀ L h' m → News h₀ L h' news → Q (.int (x - y) t) { s with heap := h', toks := tk' }) :
    wpAny (model PG w) (ktrTop dp un gd cn cs L a ccd cl outer) (call (.ref 49) [.int x t1, .int y t2]) Q E s := by
  have : PySem.Challenge.rw_xg0044_01 = PySem.Challenge.rw_xg0044_01 ∧ (KF w.params).In h₀ := ⟨rfl, X⟩
  revert this
  w_top off
  k_with_none
  k_fill
  intro _
  clear trig
  refine wpAny_call ?_
  k_dflt cell_enter
  k_steps
  exact ret _ _ _ (by assumption) (by assumption)
theorem op_xor (trig : PySem.Challenge.rw_xg0044_01 = PySem.Challenge.rw_xg0044_01) (w : World) (mean : ExcName → Option Value) (mg mb : Str → Option Value)
    (dp un : Nat) (gd : Option (List Code)) (cn : Str) (cs : Scope) (a : Addr) (ccd : Value) (cl : List (Str × Addr)) (outer : List Env) (A₀ : Around) (base h₀ : Heap) (L : Addr) (m : Str → Option Value) (news : List (Addr × Obj)) (s : Shared) (Q E : Value → Shared → Prop)
    (B : Below A₀ base outer h₀) (F : Fr h₀ L s.heap m) (X : (KF w.params).In h₀) (N : News h₀ L s.heap news)
    (T : Top VW LO mean mg mb h₀) (hk : cs.kind = .function) (hd' : dp + 1 < recursionLimit) (hu : un + 8 < cLine) (x y : Int) (t1 t2 : Tok)
    (ret : ∀ (t : Tok) (h' : Heap) (tk' : Nat), Fr h₀ L h' m → News h₀ L h' news → Q (.int (Builtin.bitXor x y) t) { s with heap := h', toks := tk' }) :
    wpAny (model PG w) (ktrTop dp un gd cn cs L a ccd cl outer) (call (.ref 56) [.int x t1, .int y t2]) Q E s := by
  have : PySem.Challenge.rw_xg0044_01 = PySem.Challenge.rw_xg0044_01 ∧ (KF w.params).In h₀ := ⟨rfl, X⟩
  revert this
  w_top off
  k_with_none
  k_fill
  intro _
  clear trig
  refine wpAny_call ?_
  k_dflt cell_enter
  k_steps
  exact ret _ _ _ (by assumption) (by assumption)
end
end Mine

namespace Mine
section
open PySem PySem.W PyProof.Rows PySem.Spec PySem.Calls
set_option maxRecDepth 100000
set_option maxHeartbeats 20000000
local macro_rules | `(tactic| tb_rel) => `(tactic| first | (k_unfold; (try dsimp only)) | (k_end; wrow_close) | walk1 | (dsimp only; walk1) | (leave1; walk_say "STEP leave1"; try dsimp only) | fail "no step")

theorem subR_ints {prog : Program} {w : World} {A : Around} {E : Value → Shared → Prop} {s : Shared} {value slice : Expr} {a : Addr} {vs : List Value} {n : Nat} {ns : List Int} {k : Int} {u : Tok} {h₀ : Heap} {L : Addr} {news : List (Addr × Obj)} {Q : Value → Shared → Prop}
    (N : News h₀ L s.heap news) (hm : (a, listOf vs.toArray n) ∈ news) (hi : IntsAre vs ns) (h0 : 0 ≤ k) (hk : k < ns.length) (hfit : ns.length < 2 ^ 63) (h : ∀ t, Q (.int (ns.getD k.toNat 0) t) s)
    (hs : subscripted slice false (.ref a) (.int k u) = operate [.ref a, .int k u] (getItem (.ref a) (.int k u)) := by with_unfolding_all rfl) :
    wpAny (model prog w) A (subscriptTail value slice (.ref a) (.int k u)) Q E s :=
  item_list_intsR (News.isList N hm) hi h0 hk (by omega) h hs
local macro_rules | `(tactic| walk_at "subscriptTail") => `(tactic| ((with_reducible show wpAny _ _ (subscriptTail _ _ (Value.ref _) (Value.int _ _)) _ _ _); refine subR_ints (by k_asm) (by k_mem) (by assumption) (by omega) (by omega) (by omega) ?_; intro _))
local macro_rules | `(tactic| walk_at "call ref") => `(tactic| (refine wpAny_call ?_; k_dflt (refine' code_def ?k1 ?k2 ?k3 ?k4 ?k5 ?kA ?kF ?kK ?k6 ?k7 ?k8 ?k9 ?kB ?_ ?c2 ?c3 ?c4 ?c5; (case kA => exact rfl); (case kF => exact rfl); (case kK => first | assumption | exact rfl); (case k1 => k_asm); (case k2 => k_asm); (case k3 => k_asm); (case k4 => k_asm); (case k5 => k_asm); (case k6 => k_is); (case k7 => k_is); (case k8 => ktr_room); (case k9 => exact BindsTo.of_eq rfl); (case c5 => decide); (case kB => exact locs rfl); (case c2 => exact rfl); (case c3 => exact rfl); (case c4 => exact rfl); k_whole; intro g' L' h' FG' F' N' B' X' T'; (try dsimp only); (try k_lift B'); (try k_fold))))
theorem cutInt {prog : Program} {w : World} {A : Around} {h₀ : Heap} {L : Addr} {m : Str → Option Value} {news : List (Addr × Obj)} {s : Shared} {e : Sem Value} {Q E : Value → Shared → Prop} (k : Int) (F : Fr h₀ L s.heap m) (N : News h₀ L s.heap news)
    (h1 : ∀ Q' : Value → Shared → Prop, (∀ t h tk, Fr h₀ L h m → News h₀ L h news → Q' (.int k t) { s with heap := h, toks := tk }) → wpAny (model prog w) A e Q' E s)
    (h2 : ∀ t h tk, Fr h₀ L h m → News h₀ L h news → Q (.int k t) { s with heap := h, toks := tk }) : wpAny (model prog w) A e Q E s := h1 Q h2
theorem pw3 {w : Int} (h : 0 ≤ w) (h3 : w ≤ 3) : ((1 : Int) * 2 ^ w.toNat - 1).natAbs < 2 ^ 64 := by
  have : w = 0 ∨ w = 1 ∨ w = 2 ∨ w = 3 := by omega
  rcases this with h | h | h | h <;> (subst h; decide)
local macro_rules | `(tactic| walk_at "binaryOp LShift int int") => `(tactic| ((refine lshift_int_small ?ka ?kb ?kc ?_); (case ka => first | assumption | omega); (case kb => omega); (case kc => first | decide | omega | exact pw3 (by assumption) (by assumption))))
theorem wid_at {ws : List Int} (hw : ∀ x ∈ ws, 1 ≤ x ∧ x ≤ 3) (k : Nat) : 0 ≤ ws.getD k 0 ∧ ws.getD k 0 ≤ 3 := by
  rw [List.getD_eq_getElem?_getD]
  cases h : ws[k]? with
  | none => exact ⟨by decide, by decide⟩
  | some v => have := hw v (List.mem_of_getElem? h); exact ⟨by show (0:Int) ≤ v; omega, this.2⟩
local macro_rules | `(tactic| walk_at "InvEndN") => `(tactic| ((rename News _ _ _ _ => nE'); (refine' kst_end ((?_, ?_, ?_, ?_, ?_), ?_, ?_, ?_, ?_) ?eF ?eN ?eI ?eO ?eA ?eT ?eK ?eS ?eP); (case eF => assumption); (case eN => exact nE'); (case eK => kst_all); (case eA => rfl); (case eT => exact trivial); (case eI => first | kst_in | kst_inAny); (case eO => first | (intro p hp; kst_mem) | kst_anyIn); (case eS => kst_same); (case eP => k_extra "state")))
theorem digit_txt {d : Int} (h0 : 0 ≤ d) (h7 : d ≤ 7) : Str.ofString (toString d) = ⟨#[48 + d.toNat]⟩ := by
  have : d = 0 ∨ d = 1 ∨ d = 2 ∨ d = 3 ∨ d = 4 ∨ d = 5 ∨ d = 6 ∨ d = 7 := by omega
  rcases this with h | h | h | h | h | h | h | h <;> (subst h; decide +kernel)
theorem ltxt_eq {sg : Str} {figs : List Int} {k : Int} (h : 0 ≤ k) (h1 : k < sg.length) (hfig : ∀ x ∈ figs, 0 ≤ x ∧ x ≤ 7) (hf : 0 ≤ figs.getD k.toNat 0 ∧ figs.getD k.toNat 0 ≤ 7) :
    ltxt sg figs k = Txt.item sg k ++ Str.ofString (toString (figs.getD k.toNat 0)) := by
  rw [item_meets ⟨h, h1⟩, digit_txt hf.1 hf.2]
  refine Str.ext' ?_
  rw [Str.cps_append]
  rfl
theorem fig_at {figs : List Int} (hfig : ∀ x ∈ figs, 0 ≤ x ∧ x ≤ 7) (k : Nat) : 0 ≤ figs.getD k 0 ∧ figs.getD k 0 ≤ 7 := by
  rw [List.getD_eq_getElem?_getD]
  cases h : figs[k]? with
  | none => exact ⟨by decide, by decide⟩
  | some v => exact hfig v (List.mem_of_getElem? h)
theorem laid_stepE {ws figs : List Int} {sg : Str} {b1 b2 b3 b4 : Int} {b5 : Bool} {pre : List Int} {v : Nat} (h : (b1, b2, b3, b4, b5) = laidS ws figs sg pre.length) (h2 : pre.length % 2 = 0) (hv : v = sg.cps.getD (pre.length / 2) 0) : (b1, b2, b3, b4, decide (v = 45)) = laidS ws figs sg (pre ++ [(v : Int)]).length := by
  rw [List.length_append, List.length_singleton, laidS, ← h]
  simp only [h2, if_true, hv]
theorem laid_bnd {ws figs : List Int} {sg : Str} (hw : ∀ x ∈ ws, 1 ≤ x ∧ x ≤ 3) : ∀ i, 0 ≤ (laidS ws figs sg i).2.2.1 ∧ (laidS ws figs sg i).2.2.1 ≤ 3 * (i / 2 : Nat) ∧ (laidS ws figs sg i).2.2.2.1 = ((i / 2 : Nat) : Int)
  | 0 => by simp [laidS]
  | i + 1 => by
    have ih := laid_bnd (figs := figs) (sg := sg) hw i
    by_cases h : i % 2 = 0
    · have e : (i + 1) / 2 = i / 2 := by omega
      rw [e]
      simpa only [laidS, h, if_true] using ih
    · have e : (i + 1) / 2 = i / 2 + 1 := by omega
      have hx : 0 ≤ ws.getD (i / 2) 0 ∧ ws.getD (i / 2) 0 ≤ 3 := by
        rw [List.getD_eq_getElem?_getD]
        cases h : ws[i / 2]? with
        | none => exact ⟨by decide, by decide⟩
        | some v => have := hw v (List.mem_of_getElem? h); exact ⟨by show (0:Int) ≤ v; omega, this.2⟩
      simp only [laidS, h, if_false]
      rw [e]
      refine ⟨?_, ?_, ?_⟩ <;> push_cast <;> omega
theorem laid_facts {ws figs : List Int} {sg : Str} {b1 b2 b3 b4 : Int} {b5 : Bool} {i : Nat} (hw : ∀ x ∈ ws, 1 ≤ x ∧ x ≤ 3) (h : (b1, b2, b3, b4, b5) = laidS ws figs sg i) : 0 ≤ b3 ∧ b3 ≤ 3 * (i / 2 : Nat) ∧ b4 = ((i / 2 : Nat) : Int) := by
  have := laid_bnd (figs := figs) (sg := sg) hw i
  rw [← h] at this
  exact this
theorem laid_inj {b1 b2 b3 b4 : Int} {b5 : Bool} {x : LSt} (h : (b1, b2, b3, b4, b5) = x) : b1 = x.1 ∧ b2 = x.2.1 ∧ b3 = x.2.2.1 := by subst h; exact ⟨rfl, rfl, rfl⟩
local macro_rules | `(tactic| walk_at "call ref") => `(tactic| ((rename Fr _ _ _ _ => fE'); (rename News _ _ _ _ => nE'); k_dflt (first
  | refine' op_add rfl _ _ _ _ _ _ _ _ _ _ _ _ _ _ _ _ _ _ _ _ _ _ ?ob fE' ?ox nE' ?ot ?ok ?od ?ou _ _ _ _ ?_
  | refine' op_sub rfl _ _ _ _ _ _ _ _ _ _ _ _ _ _ _ _ _ _ _ _ _ _ ?ob fE' ?ox nE' ?ot ?ok ?od ?ou _ _ _ _ ?_
  | refine' op_xor rfl _ _ _ _ _ _ _ _ _ _ _ _ _ _ _ _ _ _ _ _ _ _ ?ob fE' ?ox nE' ?ot ?ok ?od ?ou _ _ _ _ ?_
  | refine' op_or_ rfl _ _ _ _ _ _ _ _ _ _ _ _ _ _ _ _ _ _ _ _ _ _ ?ob fE' ?ox nE' ?ot ?ok ?od ?ou _ _ _ _ ?_
  | refine' op_neg rfl _ _ _ _ _ _ _ _ _ _ _ _ _ _ _ _ _ _ _ _ _ _ ?ob fE' ?ox nE' ?ot ?ok ?od ?ou _ _ ?_); (case ob => assumption); (case ox => assumption); (case ot => assumption); (case ok => with_unfolding_all rfl); (case od => k_dflt (first | ktr_room | omega)); (case ou => k_dflt (first | ktr_units | omega)); clear fE' nE'; intro t' h' tk' F' N'))
local macro_rules | `(tactic| walk_at "call ref") => `(tactic| ((rename Fr _ _ _ _ => fE'); (rename News _ _ _ _ => nE'); k_dflt (refine' op_lshift rfl _ _ _ _ _ _ _ _ _ _ _ _ _ _ _ _ _ _ _ _ _ _ ?ob fE' ?ox nE' ?ot ?ok ?od ?ou _ _ _ _ ?oy ?oz ?ow ?_); (case ob => assumption); (case ox => assumption); (case ot => assumption); (case ok => with_unfolding_all rfl); (case od => k_dflt (first | ktr_room | omega)); (case ou => k_dflt (first | ktr_units | omega)); (case oy => first | assumption | omega); (case oz => first | assumption | omega); (case ow => k_dflt (first | assumption | exact ⟨by decide⟩ | exact ⟨by omega⟩)); clear fE' nE'; intro t' h' tk' F' N'))
theorem laid (trig : PySem.Challenge.rw_xg0044_01 = PySem.Challenge.rw_xg0044_01) (w : World) (mean : ExcName → Option Value) (mg mb : Str → Option Value)
    (dp un : Nat) (gd : Option (List Code)) (cn : Str) (cs : Scope) (a : Addr) (ccd : Value) (cl : List (Str × Addr)) (outer : List Env) (A₀ : Around) (base h₀ : Heap) (L : Addr) (m : Str → Option Value) (news : List (Addr × Obj)) (s : Shared) (Q E : Value → Shared → Prop)
    (B : Below A₀ base outer h₀) (F : Fr h₀ L s.heap m) (X : (KF w.params).In h₀)
    (l f : Addr) (vs ys : List Value) (ws figs : List Int) (t1 t3 : Tok) (n n1 : Nat) (sg : Str)
    (N : News h₀ L s.heap ((l, listOf vs.toArray n) :: (f, listOf ys.toArray n1) :: news))
    (hi : IntsAre vs ws) (hf : IntsAre ys figs) (e3 : ws.length = sg.cps.size) (e4 : ws.length = figs.length) (hlen : ws.length ≤ 60) (hpm : ∀ j, j < sg.cps.size → sg.cps.getD j 0 = 43 ∨ sg.cps.getD j 0 = 45)
    (hw : ∀ x ∈ ws, 1 ≤ x ∧ x ≤ 3) (hfig : ∀ x ∈ figs, 0 ≤ x ∧ x ≤ 7)
    (T : Top VW LO mean mg mb h₀) (hk : cs.kind = .function) (hd' : dp + 2 < recursionLimit) (hu : un + 16 < cLine)
    (ret : ∀ (r : Addr) (t t' t'' : Tok) (n' : Nat) (h' : Heap) (tk' : Nat), Fr h₀ L h' m →
      News h₀ L h' ((r, listOf #[.int (laidS ws figs sg (2 * ws.length)).1 t, .int (laidS ws figs sg (2 * ws.length)).2.1 t', .int (laidS ws figs sg (2 * ws.length)).2.2.1 t''] n') :: (l, listOf vs.toArray n) :: (f, listOf ys.toArray n1) :: news) →
      Q (.ref r) { s with heap := h', toks := tk' }) :
    wpAny (model PG w) (ktrTop dp un gd cn cs L a ccd cl outer) (call (.ref 106) [.ref f, .ref l, .str sg t3]) Q E s := by
  have : PySem.Challenge.rw_xg0044_01 = PySem.Challenge.rw_xg0044_01 ∧ (KF w.params).In h₀ := ⟨rfl, X⟩
  revert this
  w_top off
  k_with_none
  k_fill
  intro _
  clear trig
  refine wpAny_call ?_
  k_dflt (refine' code_defC ?k1 ?k2 ?k3 ?k4 ?k5 ?kA ?kF ?kK ?k6 ?k7 ?k8 ?k9 ?kB ?kD ?_ ?c2 ?c3 ?c4; (case kA => exact rfl); (case kF => exact rfl); (case kK => assumption); (case k1 => k_asm); (case k2 => k_asm); (case k3 => k_asm); (case k4 => k_asm); (case k5 => k_asm); (case k6 => k_is); (case k7 => k_is); (case k8 => ktr_room); (case k9 => exact BindsTo.of_eq rfl); (case kB => exact rfl); (case kD => decide +kernel); (case c2 => exact rfl); (case c3 => exact rfl); (case c4 => exact rfl); k_whole; intro g' L' h' tk' cells' FG' F' N' Y' B' X' T' l1; (try k_lt l1); k_cells Y'; (try simp only [List.cons_append, List.nil_append] at N'); (try dsimp only); (try k_lift B'); (try k_fold))
  have e3L : sg.length = ws.length := e3.symm
  have hlen1 := hi.length
  have hlen2 := hf.length
  iterate 41 tb_rel
  refine LCg.CompSrc.range (by rfl) (by k_asm) (by k_asm) (by assumption) (small_one (by omega) (by omega) (by omega) (by omega)) (rangeSize_nat _ _) (by rw [PySem.sizeLine_eq]; omega) ?_
  intro g'
  refine' kct_range (fun k => ltxt sg figs k) (fun k' t' I' oI' C' oC' D' m' ys' h' tk' E' hlo' hhi' hC' hx' F' N' off' ne' => ?elt) ?fin
  all_goals (try ((show KPfMark → _); intro hMark'))
  all_goals (try k_fold)
  case' elt => clear ne'
  case' elt => (have hfk := fig_at hfig k'.toNat; obtain ⟨hfk1, hfk2⟩ := hfk)
  iterate 17 tb_rel
  case elt =>
    refine LCg.CompEnd.intro F' N' _ (fun _ hp => hp) off' trivial ?_
    exact kct_el (ltxt_eq hlo' (by omega) hfig ⟨hfk1, hfk2⟩) rfl rfl
  case fin =>
    show ∀ ys, _ → _ → LCg.FinE _ _ _ _ _ _ _
    intro yj hc hn D hD tkD FD ND offD
    iterate 1 tb_rel
    refine KT.join_B 2 (News.isList ND List.mem_cons_self) hc (fun _ _ => Nat.le_refl 2) (by omega) (by decide) ?_
    intro jt jk
    refine' KStt.kst_text (σ := LSt × Tok × Tok × Tok × Tok) (fun _ => ?led) (fun c => [(Str.ofString "k", .int c.1.2.2.2.1 c.2.1), (Str.ofString "down", .bool c.1.2.2.2.2), (Str.ofString "place", .int c.1.2.2.1 c.2.2.1), (Str.ofString "mask", .int c.1.2.1 c.2.2.2.1), (Str.ofString "bits", .int c.1.1 c.2.2.2.2)])
      (fun _ => True) [Str.ofString "kind"] (fun pre c => c.1 = laidS ws figs sg pre.length) ((0, 0, 0, 0, false), ?ta, ?tb, ?tc, ?td) rfl FD ?kn trivial ?kk rfl ?turn ?done
    case kn => exact ND
    case kk => kst_all
    case turn =>
      intro c pre post kN kT ku kH kTk own hEq kOff kFacts kInv kFr kNews
      have kMark := kstMark
      obtain ⟨⟨b1, b2, b3, b4, b5⟩, t1, t2, t3, t4⟩ := c
      dsimp only [kstB] at kFr
      dsimp only at kNews kInv
      simp only [List.nil_append, List.cons_append, List.append_nil] at kNews
      simp only [List.map_cons, List.map_nil] at kOff
      obtain ⟨q1, q2, q3⟩ := text_at (by omega) hEq
      have q4 : pre.length / 2 < ws.length := by omega
      obtain ⟨p1, p2, p3⟩ := laid_facts hw kInv
      subst p3
      clear hEq
      by_cases hpar : pre.length % 2 = 0
      case pos =>
        have q5 := q2 hpar
        have q6 := hpm _ (by omega : pre.length / 2 < sg.cps.size)
        rw [← q5] at q6
        clear q2 q3
        rcases q6 with q6 | q6
        all_goals (subst q6)
        all_goals (k_with "state" => exact laid_stepE (by assumption) (by assumption) (by assumption))
        all_goals k_steps
      case neg =>
        have q5 := q3 hpar
        clear q2 q3
        obtain ⟨g1, g2⟩ := fig_at hfig (pre.length / 2)
        obtain ⟨d, hd0⟩ : ∃ d, figs.getD (pre.length / 2) 0 = d := ⟨_, rfl⟩
        obtain ⟨w1, w2⟩ := wid_at hw ((pre.length / 2 : Nat) : Int).toNat
        rw [hd0] at q5 g1 g2
        iterate 2 tb_rel
        refine cutInt (256 + d) (s := ⟨_, _, _, _, _⟩) kFr kNews ?dig ?rest
        case dig =>
          intro Q' hQ'
          have q6 : d = 0 ∨ d = 1 ∨ d = 2 ∨ d = 3 ∨ d = 4 ∨ d = 5 ∨ d = 6 ∨ d = 7 := by omega
          rcases q6 with q6 | q6 | q6 | q6 | q6 | q6 | q6 | q6
          all_goals (subst q6)
          all_goals (subst q5)
          all_goals k_steps
          all_goals (exact hQ' _ _ _ (by assumption) (by assumption))
        case rest =>
          clear kFr kNews
          intro kT2 kH2 kTk2 kFr kNews
          (try k_fold)
          (k_with "state" => first | exact laid_e1 (by assumption) (by assumption) (by assumption) (by assumption) | exact laid_e0 (by assumption) (by assumption) (by assumption) (by assumption))
          k_steps
    case done =>
      intro c kU kH kTk kFacts kInv kFr kNews
      have kMark := kstMark
      rw [text_len] at kInv
      have e6 : 2 * ((ws.length : Int) - 0).toNat = 2 * ws.length := by omega
      rw [e6] at kInv
      obtain ⟨⟨b1, b2, b3, b4, b5⟩, t1, t2, t3, t4⟩ := c
      obtain ⟨i1, i2, i3⟩ := laid_inj kInv
      subst i1 i2 i3
      dsimp only [kstB] at kFr
      (try dsimp only at kNews)
      clear kInv
      (try k_fold)
      k_steps
      (rename News _ _ _ _ => nE')
      (rename Fr _ _ _ _ => fE')
      exact ret _ _ _ _ _ _ _ fE' (cb_drop nE' (by kst_in))
end
end Mine

namespace Mine
section
open PySem PySem.W PyProof.Rows PySem.Spec PySem.Calls
set_option maxRecDepth 100000
set_option maxHeartbeats 20000000
/- a generator that a def makes: the segments of its body -/
abbrev backK (env : Env) (K : Flow → Sem Fin) (H : Value → Sem Fin) (gd : Bool → Bool) (lv : List Value → List Value) : Result → Sem Fin := fun r =>
  (((match r with | .ok f => (.pure f : Sem Flow) | .error e => .raise e).onRaise fun (x : Value) => do
    if (← field x 1) == Value.none then unsupported "frame.own-activation:exception-without-traceback"
    setFlight x env.frame) : Sem Flow).wrap K H gd lv
abbrev flowFor (target : Expr) (it : Value) (body orelse : List Stmt) (env : Env) : Flow → Sem Fin := fun f => match f with
  | .next | .cont => .pure (.again (.forLoop target it body orelse env))
  | .brk => .pure (.done .next)
  | .ret v => .pure (.done (.ret v))
abbrev noteK (env : Env) : Value → Sem Fin := fun e => ((do noteFrame e env; theTreesLotGoes e : Sem Unit).bind fun _ => .raise e)
section
variable {M : Model} {A : Around} {R : GenEnd} {Y : Protocol} {n : Nat} {s₀ : Shared} {c : Code} {fs : List Frame} {s : Shared} {env : Env}
  {K : Flow → Sem Fin} {H : Value → Sem Fin} {gd : Bool → Bool} {lv : List Value → List Value}
theorem sgIf {test : Expr} {body orelse : List Stmt} {pos : Pos}
    (h : wpAny M (A.over c fs) (isTrue test env (eval test env)) (fun b s' => if b = true then Seg M A R Y n s₀ c ((execs body env).wrap K H gd lv) fs s' else Seg M A R Y n s₀ c ((execs orelse env).wrap K H gd lv) fs s') (fun _ _ => False) s) :
    Seg M A R Y n s₀ c ((exec (.If test body orelse pos) env).wrap K H gd lv) fs s := by
  rw [exec_If]
  refine seg_bind_wrap (wpAny_standAt (seg_bind_wrap (wpAny_mono h (fun b s' hb => ?_) fun _ _ x => x.elim)))
  cases b <;> exact hb
theorem sgFor {target iter : Expr} {body orelse : List Stmt} {pos : Pos}
    (h : wpAny M (A.over c fs) (eval iter env) (fun x s₁ => wpAny M (A.over c fs) (pyIter x) (fun it s₂ => ∀ p, Seg M A R Y n s₀ (.forLoop target it body orelse env) (M.den (.forLoop target it body orelse env))
      (.ret (backK env K H gd lv) none (gd false) (lv []) c p [] :: fs) s₂) (fun _ _ => False) s₁) (fun _ _ => False) s)
    (hs : ∀ x, foldedSetIterable iter env x = pure x) :
    Seg M A R Y n s₀ c ((exec (.For target iter body orelse pos) env).wrap K H gd lv) fs s := by
  rw [exec_For]
  refine seg_bind_wrap (wpAny_standAt (seg_bind_wrap (wpAny_mono h (fun x s₁ h₁ => ?_) fun _ _ x => x.elim)))
  refine seg_bind_wrap (wpAny_of_eq (hs x) (seg_bind_wrap (wpAny_standAt (seg_bind_wrap (wpAny_holding (wpAny_mono h₁ (fun it s₂ h₂ => ?_) fun _ _ x => x.elim))))))
  exact seg_call h₂
end
section
variable {prog : Program} {w : World} {A : Around} {R : GenEnd} {Y : Protocol} {n : Nat} {s₀ : Shared} {fs : List Frame} {s : Shared} {env : Env}
theorem sgForLoop {target : Expr} {it : Value} {body orelse : List Stmt}
    (h : wpAny (model prog w) (A.over (.forLoop target it body orelse env) fs) (pyNext it) (fun r s₁ => match r with
      | none => Seg (model prog w) A R Y n s₀ (.forLoop target it body orelse env) (.pure (.again (.block orelse env))) fs s₁
      | some v => wpAny (model prog w) (A.over (.forLoop target it body orelse env) fs) (assign target env v) (fun _ s₂ =>
          Seg (model prog w) A R Y n s₀ (.forLoop target it body orelse env) ((execs body env).wrap (flowFor target it body orelse env) (noteK env) id id) fs s₂) (fun _ _ => False) s₁) (fun _ _ => False) s)
    (ht : ∀ v, letOwnedTupleGo target it v = pure ()) :
    Seg (model prog w) A R Y n s₀ (.forLoop target it body orelse env) ((model prog w).den (.forLoop target it body orelse env)) fs s := by
  show Seg _ A R Y n s₀ _ ((forTurn target it body orelse env).onRaise (fun x => do noteFrame x env; theTreesLotGoes x)) fs s
  rw [Sem.onRaise_eq_wrap]
  simp only [forTurn]
  refine seg_bind_wrap (wpAny_standAt (seg_bind_wrap (wpAny_onRaise (wpAny_mono h (fun r s₁ h₁ => ?_) fun _ _ x => x.elim))))
  cases r with
  | none => exact h₁
  | some v =>
    refine seg_bind_wrap (wpAny_of_eq (ht v) (seg_bind_wrap (wpAny_mono h₁ (fun _ s₂ h₂ => ?_) fun _ _ x => x.elim)))
    rw [Sem.bind_eq_wrap', Sem.wrap_wrap]
    refine Eq.mp (congrArg (fun t => Seg (model prog w) A R Y n s₀ (.forLoop target it body orelse env) t fs s₂) (Sem.wrap_congr (execs body env) (K := flowFor target it body orelse env) (H := noteK env) id id (fun f => ?_) (fun e => rfl))) h₂
    cases f <;> rfl
theorem sgBlockNil (h : Seg (model prog w) A R Y n s₀ (.block [] env) (leafOf (.ok .next)) fs s) : Seg (model prog w) A R Y n s₀ (.block [] env) ((model prog w).den (.block [] env)) fs s := h
/- the next of a generator that a def made; it leaves a bare state behind -/
theorem nextG {E : Value → Shared → Prop} {a : Addr} {g : Nat} {gs : GenState} {P : Nat → Shared → Shared → Prop} {Q : Option Value → Shared → Prop} (hh : A.handled = none)
    (hl : s.heap.NoLimit) (hroom : A.depth < recursionLimit)
    (hg : s.heap.IsGen a g) (hgs : s.gens[g]? = some gs)
    (hgo : gs.Goes (model prog w) A.in1 (fun n s₀ r s₁ => r = .ok (.ret .none) ∧ P n s₀ s₁) Y n (.send .none) (s.setGen g .running))
    (hY : ∀ v s₁ gs', gs'.bare = true → Y (n - 1) (s.setGen g .running) v s₁ (fun r' s'' => match n with
        | 0 => False
        | m + 1 => gs'.Goes (model prog w) A.in1 (fun n s₀ r s₁ => r = .ok (.ret .none) ∧ P n s₀ s₁) Y m r' s'') → Q (some v) (s₁.setGen g gs'))
    (hP : ∀ s₁, P n (s.setGen g .running) s₁ → ∀ h', (∀ b o, s₁.heap.get? b = some o → h'.get? b = some o) → Q none { s₁.setGen g .finished with heap := h' }) :
    wpAny (model prog w) A (pyNext (.ref a)) Q E s := by
  unfold pyNext
  refine wpAny_bind (wpAny_attempt (wpAny_callSpecial?_slot (name := Str.ofString "__next__") hg.typeIs slot_gen_next
    (wpAny_call_entry slot_gen_next hg.typeIs entry_gen_next ?_ (args_gen_next _))))
  show wpAny _ A.in1 (Builtin.Generator.genWake (.ref a) (.send .none)) _ _ s
  unfold Builtin.Generator.genWake
  refine wpAny_bind (wpAny_holding (wpAny_genNumber hg (wpAny_bind (wpAny_genState hgs ?_))))
  cases gs with
  | running => exact hgo.elim
  | finished => exact hgo.elim
  | _ =>
    refine wpAny_bind (wpAny_roomToWake hl hroom ?_)
    show wpAny _ A.in1 (.resume g (.send .none) [] _) _ _ s
    refine wpAny_resumeQ hgs hgo (fun x s₁ hx => ?_) (fun v s₁ gs' hb hv => ?_)
    · obtain ⟨rfl, hp⟩ := hx
      show wpAny _ A.in1 (newExc (.type "StopIteration") [] >>= _) _ _ _
      refine wpAny_bind ?_
      simp only [newExc, newTuple]
      refine wpAny_bind (wpAny_newObj_type ?_ (by size_fits))
      refine wpAny_bind (m := firstArgMember _ _) (wpAny_of_eq (a := Value.none) (by first | rfl | (simp only [firstArgMember]; rfl)) ?_)
      refine wpAny_newObj_type ?_ (by size_fits)
      simp only [raiseNew]
      refine wpAny_bind (wpAny_bind (wpAny_handled ?_))
      rw [show A.in1.handled = none from hh]
      refine wpAny_throw ?_
      refine wpAny_bind (wpAny_isInstance (T := "StopIteration") (b := true) ⟨_, Heap.get?_push_size _ rfl, rfl⟩ isSubtype_stop ?_)
      exact wpAny_pure (hP s₁ hp _ fun b o hb => Heap.get?_push_of_some _ (Heap.get?_push_of_some _ hb))
    · exact wpAny_pure ⟨v, rfl, wpAny_pure (hY v s₁ gs' hb hv)⟩
end
end
end Mine

namespace Mine
section
open PySem PySem.W PyProof.Rows PySem.Spec PySem.Calls
set_option maxRecDepth 100000
set_option maxHeartbeats 20000000
local macro_rules | `(tactic| tb_rel) => `(tactic| first | (k_unfold; (try dsimp only)) | (k_end; wrow_close) | walk1 | (dsimp only; walk1) | (leave1; walk_say "STEP leave1"; try dsimp only) | fail "no step")
noncomputable def gFd : FuncData := match ob70.data with | .func fd => fd | _ => default
noncomputable def gBody : List Stmt := match gFd.body with | .stmts b => b | _ => []
noncomputable def gTurn : List Stmt := match gBody.drop 1 with | .For _ _ b _ _ :: _ => b | _ => []
noncomputable def gTgt : Expr := match gBody.drop 1 with | .For t _ _ _ _ :: _ => t | _ => default
noncomputable def gWhile : List Stmt := match gTurn.drop 1 with | .If _ (_ :: .While _ b _ _ :: _) _ _ :: _ => b | _ => []
noncomputable def gTrue : Expr := match gTurn.drop 1 with | .If _ (_ :: .While t _ _ _ :: _) _ _ :: _ => t | _ => default
noncomputable abbrev gEnv (C : Addr) : Env := envOf (Str.ofString "_grouping_intervals") gFd.scope C 70 (.ref 69)
/- what the generator leaves as it was, what its caller leaves as it was, the protocol, the end -/
def gSince (C bd : Addr) (s₀ s : Shared) : Prop := ∃ h' tk, s = { s₀ with heap := h', toks := tk } ∧ ∀ b o, b ≠ C → b < bd → s₀.heap.get? b = some o → h'.get? b = some o
def gExt (b₀ : Heap) (C l bd : Addr) (s s' : Shared) : Prop := ∀ b o, (b = C ∨ b = l ∨ bd ≤ b + 1 ∨ ∃ o', b₀.get? b = some o') → s.heap.get? b = some o → s'.heap.get? b = some o
def gY (b₀ : Heap) (C l bd : Addr) (vals : List Value) (fin : Bool) : Protocol := fun m s₀ v s kap => vals[vals.length - 1 - m]? = some v ∧ gSince C bd s₀ s ∧ ((m = 0 → fin = true) → ∀ s', gExt b₀ C l bd s s' → kap (.send .none) s')
def gR (C bd : Addr) (fin : Bool) : GenEnd := fun n s₀ r s => r = .ok (.ret .none) ∧ (n = 0 ∧ fin = true ∧ gSince C bd s₀ s)
structure GI (b₀ : Heap) (C l it bd : Addr) (items : Array Value) (s : Shared) (k : Nat) (m : Str → Option Value) (last : Value) : Prop where
  fr : Fr b₀ C s.heap m
  li : s.heap.IsList l items
  itr : s.heap.IsListIter it l k
  lst : m (Str.ofString "last_interval") = some last
abbrev gK : Flow → Sem Fin := fun f => .pure (.done (.ret (match f with | .ret v => v | _ => .none)))
abbrev gH (env : Env) : Value → Sem Fin := fun e => (leaving env e).wrap (fun _ => .raise e) .raise id id
noncomputable abbrev gKF (C : Addr) : Flow → Sem Fin := fun f => match f with | .next => (execs [] (gEnv C)).wrap gK (gH (gEnv C)) id id | f => gK f
noncomputable abbrev gFr (C : Addr) (p : Pos) : Frame := .ret (backK (gEnv C) (gKF C) (gH (gEnv C)) id id) none (id false) (id []) (.func gBody (gEnv C)) p []
noncomputable abbrev gLoop (C it : Addr) : Code := .forLoop gTgt (.ref it) gTurn [] (gEnv C)
def GF (w : World) (A : Around) (b₀ : Heap) (C l it bd : Addr) (items : Array Value) (vals : List Value) (fin : Bool) (n k : Nat) (last : Value) : Prop :=
  ∀ s₀ s m p, GI b₀ C l it bd items s k m last → gSince C bd s₀ s → Seg (model PG w) A (gR C bd fin) (gY b₀ C l bd vals fin) n s₀ (gLoop C it) ((model PG w).den (gLoop C it)) [gFr C p] s
theorem gSince.step {C bd : Addr} {s₀ s : Shared} (x : gSince C bd s₀ s) {h' : Heap} {tk : Nat} (hk : ∀ b o, b ≠ C → b < bd → s.heap.get? b = some o → h'.get? b = some o) : gSince C bd s₀ { s with heap := h', toks := tk } := by
  obtain ⟨h₁, tk₁, rfl, hk₁⟩ := x
  exact ⟨h', tk, rfl, fun b o hC hb e => hk b o hC hb (hk₁ b o hC hb e)⟩
theorem gSince.refl (C bd : Addr) (s : Shared) : gSince C bd s s := ⟨s.heap, s.toks, rfl, fun _ _ _ _ e => e⟩
theorem sgLit {M : Model} {A : Around} {R : GenEnd} {Y : Protocol} {n : Nat} {s₀ : Shared} {c : Code} {fs : List Frame} {s : Shared} {env : Env} {K : Flow → Sem Fin} {H : Value → Sem Fin} {gd : Bool → Bool} {lv : List Value → List Value} {b : List Stmt} {st : Stmt} {r : List Stmt}
    (e : b = st :: r) (h : Seg M A R Y n s₀ c ((exec st env).wrap (fun f => match f with | .next => (execs r env).wrap K H gd lv | f => K f) H gd lv) fs s) : Seg M A R Y n s₀ c ((execs b env).wrap K H gd lv) fs s := by
  subst e; exact seg_execs_cons h
theorem turnY (trig : PySem.Challenge.rw_xg0044_01 = PySem.Challenge.rw_xg0044_01) (w : World) (A : Around) (mean : ExcName → Option Value) (mg mb : Str → Option Value) (b₀ : Heap) (C l it bd : Addr) (items : Array Value) (vals : List Value) (fin : Bool) (n k : Nat) (last : Value) (x : Int) (t : Tok)
    (hA : A.handled = none) (Y : (KF w.params).In b₀) (T : Top VW LO mean mg mb b₀) (hC : C ≠ l) (hCi : C ≠ it) (hli : l ≠ it) (hbd : bd ≤ it) (hit : b₀.get? it = none)
    (hx : items[k]? = some (.int x t)) (h1 : 1 ≤ x ∧ x ≤ 3) (hv : vals[vals.length - 1 - n]? = some (.int x t))
    (next : (n = 0 → fin = true) → GF w A b₀ C l it bd items vals fin n (k + 1) (.int x t)) : GF w A b₀ C l it bd items vals fin (n + 1) k last := by
  have : PySem.Challenge.rw_xg0044_01 = PySem.Challenge.rw_xg0044_01 ∧ (KF w.params).In b₀ := ⟨rfl, Y⟩
  revert this
  w_top off
  k_with_none
  k_fill
  intro _
  clear trig
  intro s₀ s m p G S
  have hit0 := G.itr
  refine sgForLoop (wpAny_pyNext_list_item G.itr G.li hx (fun h' hi' hs' => ?_)) (fun v => rfl)
  have F1 : Fr b₀ C h' m := ⟨G.fr.ns.at' fun o e => (hs'.2 _ hCi).trans e, fun b o e => (hs'.2 b (fun q => by subst q; rw [hit] at e; cases e)).trans (G.fr.keep b o e), G.fr.above⟩
  have L1 : h'.IsList l items := G.li.at fun o e => (hs'.2 _ hli).trans e
  have N1 : News b₀ C h' [] := News.nil
  have S1 : gSince C bd s₀ { s with heap := h' } := S.step fun b o hb hb' e => (hs'.2 b (fun q => by subst q; exact absurd hb' (Nat.not_lt.mpr hbd))).trans e
  dsimp only
  refine wpAny_assign_Name (wpAny_storeName_local (env := gEnv C) rfl F1.ns (fun h2 hn2 hs2 => ?_) rfl)
  have F2 := F1.set hn2 hs2
  have L2 : h2.IsList l items := L1.at fun o e => (hs2.2 _ (Ne.symm hC)).trans e
  have I2 : h2.IsListIter it l (k + 1) := hi'.at fun o e => (hs2.2 _ (Ne.symm hCi)).trans e
  have S2 : ∀ b o, b ≠ C → b < bd → s.heap.get? b = some o → h2.get? b = some o := fun b o hb hb' e => (hs2.2 b hb).trans ((hs'.2 b (fun q => by subst q; exact absurd hb' (Nat.not_lt.mpr hbd))).trans e)
  have N2 : News b₀ C h2 [] := News.nil
  clear F1 N1 S1 L1 hi'
  refine sgLit (by with_unfolding_all rfl) (seg_wrap ?_)
  iterate 7 tb_rel
  · exfalso; omega
  iterate 2 tb_rel
  dsimp only
  refine seg_execs_cons (seg_wrap ?_)
  iterate 7 tb_rel
  · exfalso; omega
  iterate 2 tb_rel
  dsimp only
  refine seg_execs_cons (seg_Expr_Yield rfl rfl rfl ?_)
  iterate 1 tb_rel
  intro kap hk
  refine ⟨hv, ?aS, fun hm s2 hext => hk .none s2 ?_⟩
  case aS => exact S.step S2
  dsimp only
  have n3 := F2.ns.at' fun o e => hext _ o (.inl rfl) e
  have F3 : Fr b₀ C s2.heap _ := ⟨n3, fun b o e => hext b o (.inr (.inr (.inr ⟨o, e⟩))) (F2.keep b o e), F2.above⟩
  have L3 : s2.heap.IsList l items := L2.at fun o e => hext _ o (.inr (.inl rfl)) e
  have I3 : s2.heap.IsListIter it l (k + 1) := I2.at fun o e => hext _ o (.inr (.inr (.inl (Nat.le_succ_of_le hbd)))) e
  have N3 : News b₀ C s2.heap [] := News.nil
  clear F2 N2 L2 I2 hext hk
  refine seg_execs_cons (seg_wrap ?_)
  iterate 2 tb_rel
  refine wpAny_storeName_local rfl F3.ns (fun h4 hn4 hs4 => ?_) rfl
  have F4 := F3.set hn4 hs4
  dsimp only
  refine seg_execs_nil (seg_again rfl (next hm s2 ⟨h4, _, _, _, _⟩ _ p ⟨F4, L3.at fun o e => (hs4.2 _ (Ne.symm hC)).trans e, I3.at fun o e => (hs4.2 _ (Ne.symm hCi)).trans e, if_pos rfl⟩ ?_))
  exact (gSince.refl C bd s2).step fun b o hb _ e => (hs4.2 b hb).trans e
theorem gTop {C : Addr} {p : Pos} {A : Around} {c : Code} (h : A.handled = none) : (A.over c [gFr C p]).handled = none := by
  show (marksOver [gFr C p] (A.handled, A.handled)).1 = none
  rw [h]; rfl
theorem endG (w : World) (A : Around) (b₀ : Heap) (C l it bd : Addr) (items : Array Value) (vals : List Value) (k : Nat) (last : Value)
    (hA : A.handled = none) (hbd : bd ≤ it) (hx : items[k]? = none) : GF w A b₀ C l it bd items vals true 0 k last := by
  intro s₀ s m p G S
  refine sgForLoop (wpAny_pyNext_list_end (gTop hA) G.itr G.li hx (fun h' hs' => ?_)) (fun v => rfl)
  dsimp only
  refine seg_again rfl (sgBlockNil (seg_leaf (.ok .next) ?_))
  exact seg_end (.ok (.ret .none)) ⟨rfl, rfl, rfl, S.step fun b o hb hb' e => hs' b o (fun q => by subst q; exact absurd hb' (Nat.not_lt.mpr hbd)) e⟩
theorem stopG (trig : PySem.Challenge.rw_xg0044_01 = PySem.Challenge.rw_xg0044_01) (w : World) (A : Around) (mean : ExcName → Option Value) (mg mb : Str → Option Value) (b₀ : Heap) (C l it bd : Addr) (items : Array Value) (vals : List Value) (k : Nat) (last : Value) (x : Int) (t : Tok)
    (hA : A.handled = none) (Y : (KF w.params).In b₀) (T : Top VW LO mean mg mb b₀) (hC : C ≠ l) (hCi : C ≠ it) (hli : l ≠ it) (hbd : bd ≤ it) (hit : b₀.get? it = none)
    (hx : items[k]? = some (.int x t)) (h1 : x = 127) : GF w A b₀ C l it bd items vals true 0 k last := by
  have : PySem.Challenge.rw_xg0044_01 = PySem.Challenge.rw_xg0044_01 ∧ (KF w.params).In b₀ := ⟨rfl, Y⟩
  revert this
  w_top off
  k_with_none
  k_fill
  intro _
  clear trig
  intro s₀ s m p G S
  have hit0 := G.itr
  refine sgForLoop (wpAny_pyNext_list_item G.itr G.li hx (fun h' hi' hs' => ?_)) (fun v => rfl)
  have F1 : Fr b₀ C h' m := ⟨G.fr.ns.at' fun o e => (hs'.2 _ hCi).trans e, fun b o e => (hs'.2 b (fun q => by subst q; rw [hit] at e; cases e)).trans (G.fr.keep b o e), G.fr.above⟩
  have L1 : h'.IsList l items := G.li.at fun o e => (hs'.2 _ hli).trans e
  have N1 : News b₀ C h' [] := News.nil
  have S1 : gSince C bd s₀ { s with heap := h' } := S.step fun b o hb hb' e => (hs'.2 b (fun q => by subst q; exact absurd hb' (Nat.not_lt.mpr hbd))).trans e
  dsimp only
  refine wpAny_assign_Name (wpAny_storeName_local (env := gEnv C) rfl F1.ns (fun h2 hn2 hs2 => ?_) rfl)
  have F2 := F1.set hn2 hs2
  have L2 : h2.IsList l items := L1.at fun o e => (hs2.2 _ (Ne.symm hC)).trans e
  have I2 : h2.IsListIter it l (k + 1) := hi'.at fun o e => (hs2.2 _ (Ne.symm hCi)).trans e
  have S2 : ∀ b o, b ≠ C → b < bd → s.heap.get? b = some o → h2.get? b = some o := fun b o hb hb' e => (hs2.2 b hb).trans ((hs'.2 b (fun q => by subst q; exact absurd hb' (Nat.not_lt.mpr hbd))).trans e)
  have N2 : News b₀ C h2 [] := News.nil
  clear F1 N1 S1 L1 hi'
  refine sgLit (by with_unfolding_all rfl) (seg_wrap ?_)
  iterate 7 tb_rel
  all_goals (try (exfalso; omega))
  iterate 3 tb_rel
  dsimp only
  refine seg_leaf (.ok (.ret .none)) ?_
  exact seg_end (.ok (.ret .none)) ⟨rfl, rfl, rfl, S.step S2⟩
noncomputable abbrev gWl (C : Addr) : Code := .whileLoop gTrue gWhile [] (gEnv C)
noncomputable abbrev gFr2 (C it : Addr) (q : Pos) (K2 : Flow → Sem Fin) (H2 : Value → Sem Fin) : Frame := .ret (backK (gEnv C) K2 H2 id id) none (id false) (id []) (gLoop C it) q []
structure GW (b₀ : Heap) (C : Addr) (s : Shared) (m : Str → Option Value) (last : Value) : Prop where
  fr : Fr b₀ C s.heap m
  lst : m (Str.ofString "last_interval") = some last
theorem evLit {M : Model} {A : Around} {e e' : Expr} {env : Env} {Q E : Value → Shared → Prop} {s : Shared} (h : e = e') (x : wpAny M A (eval e' env) Q E s) : wpAny M A (eval e env) Q E s := by subst h; exact x
def GWS (w : World) (A : Around) (b₀ : Heap) (C l it bd : Addr) (vals : List Value) (last : Value) (n : Nat) : Prop := ∀ s₀ s m p q K2 H2, GW b₀ C s m last → gSince C bd s₀ s →
  Seg (model PG w) A (gR C bd false) (gY b₀ C l bd vals false) n s₀ (gWl C) ((model PG w).den (gWl C)) [gFr2 C it q K2 H2, gFr C p] s
theorem whileY (trig : PySem.Challenge.rw_xg0044_01 = PySem.Challenge.rw_xg0044_01) (w : World) (A : Around) (mean : ExcName → Option Value) (mg mb : Str → Option Value) (b₀ : Heap) (C l it bd : Addr) (vals : List Value) (v : Int) (tv : Tok)
    (hA : A.handled = none) (Y : (KF w.params).In b₀) (T : Top VW LO mean mg mb b₀) (n : Nat) (hv : vals[vals.length - 1 - n]? = some (.int v tv)) (next : n ≠ 0 → GWS w A b₀ C l it bd vals (.int v tv) n) : GWS w A b₀ C l it bd vals (.int v tv) (n + 1) := by
  have : PySem.Challenge.rw_xg0044_01 = PySem.Challenge.rw_xg0044_01 ∧ (KF w.params).In b₀ := ⟨rfl, Y⟩
  revert this
  w_top off
  k_with_none
  k_fill
  intro _
  clear trig
  intro s₀ s m p q K2 H2 G S
  have F1 := G.fr
  have N1 : News b₀ C s.heap [] := News.nil
  have e1 := G.lst
  refine seg_whileLoop ?_
  iterate 1 tb_rel
  refine evLit (show gTrue = .Constant (.bool true) 0 _ from by with_unfolding_all rfl) ?_
  iterate 2 tb_rel
  refine sgLit (by with_unfolding_all rfl) (seg_Expr_Yield rfl rfl rfl ?_)
  refine ld F1 e1 ?_
  intro kap hk
  refine ⟨hv, S, fun hm s2 hext => hk .none s2 ?_⟩
  dsimp only
  have hn : n ≠ 0 := fun z => by have := hm z; cases this
  refine seg_execs_nil (seg_again rfl (next hn s2 s2 m p q K2 H2 ⟨⟨F1.ns.at' fun o e => hext _ o (.inl rfl) e, fun b o e => hext b o (.inr (.inr (.inr ⟨o, e⟩))) (F1.keep b o e), F1.above⟩, e1⟩ (gSince.refl C bd s2)))
theorem whileG (w : World) (A : Around) (mean : ExcName → Option Value) (mg mb : Str → Option Value) (b₀ : Heap) (C l it bd : Addr) (vals : List Value) (v : Int) (tv : Tok)
    (hA : A.handled = none) (Y : (KF w.params).In b₀) (T : Top VW LO mean mg mb b₀) : ∀ (n : Nat), (∀ m ≤ n, vals[vals.length - 1 - m]? = some (.int v tv)) → GWS w A b₀ C l it bd vals (.int v tv) (n + 1)
  | 0, hv => whileY rfl w A mean mg mb b₀ C l it bd vals v tv hA Y T 0 (hv 0 (Nat.le_refl _)) (fun z => absurd rfl z)
  | n + 1, hv => whileY rfl w A mean mg mb b₀ C l it bd vals v tv hA Y T (n + 1) (hv _ (Nat.le_refl _)) (fun _ => whileG w A mean mg mb b₀ C l it bd vals v tv hA Y T n fun m hm => hv m (Nat.le_succ_of_le hm))
theorem foreverG (trig : PySem.Challenge.rw_xg0044_01 = PySem.Challenge.rw_xg0044_01) (w : World) (A : Around) (mean : ExcName → Option Value) (mg mb : Str → Option Value) (b₀ : Heap) (C l it bd : Addr) (items : Array Value) (vals : List Value) (k : Nat) (x : Int) (t : Tok) (v : Int) (tv : Tok)
    (hA : A.handled = none) (Y : (KF w.params).In b₀) (T : Top VW LO mean mg mb b₀) (hC : C ≠ l) (hCi : C ≠ it) (hli : l ≠ it) (hbd : bd ≤ it) (hit : b₀.get? it = none)
    (hx : items[k]? = some (.int x t)) (h1 : x = 0) (n : Nat) (hv : ∀ m ≤ n, vals[vals.length - 1 - m]? = some (.int v tv)) : GF w A b₀ C l it bd items vals false (n + 1) k (.int v tv) := by
  have : PySem.Challenge.rw_xg0044_01 = PySem.Challenge.rw_xg0044_01 ∧ (KF w.params).In b₀ := ⟨rfl, Y⟩
  revert this
  w_top off
  k_with_none
  k_fill
  intro _
  clear trig
  intro s₀ s m p G S
  have hit0 := G.itr
  refine sgForLoop (wpAny_pyNext_list_item G.itr G.li hx (fun h' hi' hs' => ?_)) (fun v => rfl)
  have F1 : Fr b₀ C h' m := ⟨G.fr.ns.at' fun o e => (hs'.2 _ hCi).trans e, fun b o e => (hs'.2 b (fun q => by subst q; rw [hit] at e; cases e)).trans (G.fr.keep b o e), G.fr.above⟩
  have L1 : h'.IsList l items := G.li.at fun o e => (hs'.2 _ hli).trans e
  have N1 : News b₀ C h' [] := News.nil
  have S1 : gSince C bd s₀ { s with heap := h' } := S.step fun b o hb hb' e => (hs'.2 b (fun q => by subst q; exact absurd hb' (Nat.not_lt.mpr hbd))).trans e
  dsimp only
  refine wpAny_assign_Name (wpAny_storeName_local (env := gEnv C) rfl F1.ns (fun h2 hn2 hs2 => ?_) rfl)
  have F2 := F1.set hn2 hs2
  have L2 : h2.IsList l items := L1.at fun o e => (hs2.2 _ (Ne.symm hC)).trans e
  have I2 : h2.IsListIter it l (k + 1) := hi'.at fun o e => (hs2.2 _ (Ne.symm hCi)).trans e
  have S2 : ∀ b o, b ≠ C → b < bd → s.heap.get? b = some o → h2.get? b = some o := fun b o hb hb' e => (hs2.2 b hb).trans ((hs'.2 b (fun q => by subst q; exact absurd hb' (Nat.not_lt.mpr hbd))).trans e)
  have N2 : News b₀ C h2 [] := News.nil
  clear F1 N1 S1 L1 hi'
  refine sgLit (by with_unfolding_all rfl) (seg_wrap ?_)
  iterate 7 tb_rel
  · exfalso; omega
  iterate 2 tb_rel
  dsimp only
  refine seg_execs_cons (sgIf ?_)
  iterate 6 tb_rel
  rotate_left
  · exfalso; omega
  refine seg_execs_cons (seg_wrap ?_)
  have e1 := G.lst
  iterate 2 tb_rel
  refine ld F2 (show (if Str.ofString "last_interval" = Str.ofString "interval" then some (Value.int x t) else m (Str.ofString "last_interval")) = some (.int v tv) from by rw [if_neg (by decide +kernel), e1]) ?_
  iterate 6 tb_rel
  dsimp only
  refine seg_execs_cons (seg_While (fun q => ?_))
  exact whileG w A mean mg mb b₀ C l it bd vals v tv hA Y T n hv s₀ _ _ p q _ _ ⟨F2, by show (if Str.ofString "last_interval" = Str.ofString "interval" then some (Value.int x t) else m (Str.ofString "last_interval")) = some (.int v tv); rw [if_neg (by decide +kernel), e1]⟩ (S.step S2)
/- the generator from its start: its first segment runs to the loop -/
theorem startG (trig : PySem.Challenge.rw_xg0044_01 = PySem.Challenge.rw_xg0044_01) (w : World) (A : Around) (mean : ExcName → Option Value) (mg mb : Str → Option Value) (b₀ : Heap) (C l bd : Addr) (items : Array Value) (vals : List Value) (fin : Bool) (n : Nat) (m : Str → Option Value)
    (hA : A.handled = none) (Y : (KF w.params).In b₀) (T : Top VW LO mean mg mb b₀) (hC : C ≠ l) (hl0 : b₀.get? l = none)
    (loop : ∀ it, C ≠ it → l ≠ it → bd ≤ it → b₀.get? it = none → GF w A b₀ C l it bd items vals fin n 0 .none) (s : Shared) (F : Fr b₀ C s.heap m) (L : s.heap.IsList l items) (hm : m (Str.ofString "grouping") = some (.ref l)) (hsz : bd ≤ s.heap.objs.size) (hCs : C < s.heap.objs.size) :
    Seg (model PG w) A (gR C bd fin) (gY b₀ C l bd vals fin) n s (.func gBody (gEnv C)) ((model PG w).den (.func gBody (gEnv C))) [] s := by
  have : PySem.Challenge.rw_xg0044_01 = PySem.Challenge.rw_xg0044_01 ∧ (KF w.params).In b₀ := ⟨rfl, Y⟩
  revert this
  w_top off
  k_with_none
  k_fill
  intro _
  clear trig
  have N : News b₀ C s.heap [] := News.nil
  refine seg_func (sgLit (by with_unfolding_all rfl) (seg_wrap ?_))
  iterate 2 tb_rel
  refine wpAny_storeName_local rfl F.ns (fun h2 hn2 hs2 => ?_) rfl
  have F2 := F.set hn2 hs2
  have L2 : h2.IsList l items := L.at fun o e => (hs2.2 _ (Ne.symm hC)).trans e
  clear N F
  dsimp only
  refine seg_execs_cons (sgFor ?_ (fun _ => rfl))
  refine ld F2 (show (if Str.ofString "grouping" = Str.ofString "last_interval" then some Value.none else m (Str.ofString "grouping")) = some (.ref l) from by rw [if_neg (by decide +kernel), hm]) ?_
  refine wpAny_pyIter_list L2 (fun p => ?_)
  have hsz2 : s.heap.objs.size ≤ h2.objs.size := Nat.le_of_eq hs2.1.symm
  refine loop h2.objs.size (fun q => ?_) (fun q => ?_) (Nat.le_trans hsz hsz2) ?_ s ⟨_, _, _, _, _⟩ _ p ⟨⟨F2.ns.push _, fun b o e => Heap.get?_push_of_some _ (F2.keep b o e), F2.above⟩, L2.push _, ⟨_, Heap.get?_push_size _ rfl, rfl, rfl⟩, if_pos rfl⟩ ?_
  · exact absurd q (Nat.ne_of_lt (Nat.lt_of_lt_of_le hCs hsz2))
  · obtain ⟨o, ho, _⟩ := L2
    exact absurd q (Nat.ne_of_lt (Heap.lt_size ho))
  · cases e : b₀.get? h2.objs.size with
    | none => rfl
    | some o => exact absurd (Heap.lt_size (F2.keep _ _ e)) (Nat.lt_irrefl _)
  · exact (gSince.refl C bd s).step fun b o hb _ e => Heap.get?_push_of_some _ ((hs2.2 b hb).trans e)
end
end Mine

namespace Mine
section
open PySem PySem.W PyProof.Rows PySem.Spec PySem.Calls
set_option maxRecDepth 100000
set_option maxHeartbeats 20000000
local macro_rules | `(tactic| tb_rel) => `(tactic| first | (k_unfold; (try dsimp only)) | (k_end; wrow_close) | walk1 | (dsimp only; walk1) | (leave1; walk_say "STEP leave1"; try dsimp only) | fail "no step")
noncomputable def sFd : FuncData := match ob87.data with | .func fd => fd | _ => default
noncomputable def sBody : List Stmt := match sFd.body with | .stmts b => b | _ => []
noncomputable def sTurn : List Stmt := match sBody.drop 2 with | .For _ _ b _ _ :: _ => b | _ => []
noncomputable def sTgt : Expr := match sBody.drop 2 with | .For t _ _ _ _ :: _ => t | _ => default
noncomputable abbrev sEnv (L : Addr) : Env := envOf (Str.ofString "_law_sizes") sFd.scope L 87 (.ref 86)
abbrev tm (td : Addr) (m : Str → Option Value) : Str → Option Value := fun z => if z = Str.ofString "told" then some (.ref td) else m z
def gReady (w : World) (A : Around) (b₀ : Heap) (C l bd : Addr) (vals : List Value) (fin : Bool) (i : Nat) (gs : GenState) (h : Heap) : Prop :=
  ∀ s : Shared, (∀ b o, (b = C ∨ b = l ∨ bd ≤ b + 1 ∨ ∃ o', b₀.get? b = some o') → h.get? b = some o → s.heap.get? b = some o) → gs.Goes (model PG w) A.in1 (gR C bd fin) (gY b₀ C l bd vals fin) (vals.length - i) (.send .none) s
def LInv (w : World) (A : Around) (b : Heap) (L td C l bd : Addr) (vals : List Value) (fin : Bool) (s : Shared) (i : Nat) (s' : Shared) : Prop :=
  ∃ h tk gs m, s' = { s with heap := h, toks := tk, gens := #[gs] } ∧ gs.bare = true ∧ Fr b L h (tm td m) ∧ h.get? td = some (listOf (vals.take i).toArray i) ∧
    (∀ q o, q ≠ L → q ≠ td → q ≠ C → q < bd → s.heap.get? q = some o → h.get? q = some o) ∧ gReady w A b C l bd vals fin i gs h ∧ i ≤ vals.length ∧ i ≤ 6
theorem exLit {M : Model} {A : Around} {env : Env} {Q : Flow → Shared → Prop} {E : Value → Shared → Prop} {s : Shared} {b : List Stmt} {st : Stmt} {r : List Stmt} (h : b = st :: r) (x : wpAny M A (execs (st :: r) env) Q E s) : wpAny M A (execs b env) Q E s := by subst h; exact x
theorem asLit {M : Model} {A : Around} {env : Env} {Q : Unit → Shared → Prop} {E : Value → Shared → Prop} {s : Shared} {e : Expr} {x : Str} {p : Pos} {v : Value} (h : e = .Name x p) (y : wpAny M A (assign (.Name x p) env v) Q E s) : wpAny M A (assign e env v) Q E s := by subst h; exact y
theorem tm_wide (td : Addr) (m : Str → Option Value) (v : Option Value) : (fun z => if z = Str.ofString "wide" then v else tm td m z) = tm td (fun z => if z = Str.ofString "wide" then v else m z) := by
  funext z
  unfold tm
  by_cases h : z = Str.ofString "told"
  · subst h; rw [if_neg (by decide +kernel), if_pos rfl, if_pos rfl]
  · simp only [h, if_false]
theorem take_push {α : Type} {vals : List α} {i : Nat} {v : α} (h : vals[i]? = some v) : (vals.take i).toArray.push v = (vals.take (i + 1)).toArray := by
  rw [List.push_toArray, List.take_add_one, h]; rfl
theorem toldL (trig : PySem.Challenge.rw_xg0044_01 = PySem.Challenge.rw_xg0044_01) (w : World) (A : Around) (mean : ExcName → Option Value) (mg mb : Str → Option Value) (b : Heap) (L td a C l bd : Addr) (vals : List Value) (fin : Bool) (m : Str → Option Value) (s : Shared) (R : Result → Shared → Prop) (gs : GenState)
    (hA : A.handled = none) (hroom : A.depth < recursionLimit) (Y : (KF w.params).In b) (T : Top VW LO mean mg mb b)
    (hv1 : fin = true → vals.length ≤ 6) (hv2 : fin = false → vals.length = 7)
    (F : Fr b L s.heap (tm td m)) (ht : s.heap.get? td = some (listOf #[] 0)) (hg : s.gens = #[gs]) (hgb : gs.bare = true) (ha : s.heap.IsGen a 0)
    (hLC : L ≠ C) (hLl : L ≠ l) (hLt : L ≠ td) (hLa : a ≠ L) (htC : td ≠ C) (htl : td ≠ l) (hta : a ≠ td) (haC : a ≠ C) (hLb1 : L + 1 < bd) (htb1 : td + 1 < bd) (hab : a < bd) (bC : b.get? C = none) (bt : b.get? td = none)
    (G : gReady w A b C l bd vals fin 0 gs s.heap)
    (ret : ∀ (h : Heap) (tk : Nat) (gens : Array GenState) (m' : Str → Option Value) (n' : Nat), AllBare gens → Fr b L h (tm td m') → h.get? td = some (listOf (vals.take 6).toArray n') →
      (∀ q o, q ≠ L → q ≠ td → q ≠ C → q < bd → s.heap.get? q = some o → h.get? q = some o) → R (.ok .next) { s with heap := h, toks := tk, gens := gens }) :
    codeAny (model PG w) A (.forLoop sTgt (.ref a) sTurn [] (sEnv L)) R s := by
  have : PySem.Challenge.rw_xg0044_01 = PySem.Challenge.rw_xg0044_01 ∧ (KF w.params).In b := ⟨rfl, Y⟩
  revert this
  w_top off
  k_with_none
  k_fill
  intro _
  clear trig
  have hLb : L < bd := Nat.lt_of_succ_lt hLb1
  have htb : td < bd := Nat.lt_of_succ_lt htb1
  have hlow : ∀ q o, b.get? q = some o → q ≠ L ∧ q < bd := fun q o e => ⟨Nat.ne_of_lt (Nat.lt_of_lt_of_le (Heap.lt_size e) F.above), Nat.lt_trans (Nat.lt_of_lt_of_le (Heap.lt_size e) F.above) hLb⟩
  refine codeAny_forLoop (fun j s' => ∃ i, j = 7 - i ∧ LInv w A b L td C l bd vals fin s i s') (fun j s' hI => ?_) 7 ⟨0, rfl, s.heap, s.toks, gs, m, by rw [← hg], hgb, F, ht, fun _ _ _ _ _ _ e => e, G, Nat.zero_le _, Nat.zero_le _⟩ (fun v => rfl)
  obtain ⟨i, rfl, h, tk, gs0, m1, rfl, hb, F0, ht0, hk0, G0, hi, hi6⟩ := hI
  have hgen : h.IsGen a 0 := by
    obtain ⟨o, nm, qn, ho, r⟩ := ha
    exact ⟨o, nm, qn, hk0 a o hLa hta haC hab ho, r⟩
  by_cases hlt : i < vals.length
  · obtain ⟨k, hm⟩ : ∃ k, vals.length - i = k + 1 := ⟨vals.length - i - 1, by omega⟩
    have G1 := G0 { s with heap := h, toks := tk, gens := #[GenState.running] } (fun _ _ _ e => e)
    rw [hm] at G1
    refine nextG (P := fun n s₀ s => n = 0 ∧ fin = true ∧ gSince C bd s₀ s) hA (T.nolimit.keeps F0.keep) hroom hgen rfl G1 (fun v s₁ gs' hb' hy => ?_) (fun s₁ hp h' hk' => absurd hp.1 (Nat.succ_ne_zero _))
    obtain ⟨hidx, ⟨h₁, tk₁, rfl, hk₁⟩, hkap⟩ := hy
    have hidx : vals[i]? = some v := by
      have e : vals.length - 1 - (k + 1 - 1) = i := by omega
      rw [e] at hidx; exact hidx
    dsimp only
    have F1 : Fr b L h₁ (tm td m1) := ⟨F0.ns.at' fun o e => hk₁ L o hLC hLb e, fun q o e => hk₁ q o (fun z => by subst z; rw [bC] at e; cases e) (hlow q o e).2 (F0.keep q o e), F0.above⟩
    refine asLit (show sTgt = .Name (Str.ofString "wide") _ from by with_unfolding_all rfl) ?_
    refine wpAny_assign_Name (wpAny_storeName_local (env := sEnv L) rfl F1.ns (fun h2 hn2 hs2 => ?_) rfl)
    have F2 := F1.set hn2 hs2
    rw [tm_wide] at F2
    have t2 : h2.get? td = some (listOf (vals.take i).toArray i) := (hs2.2 td (Ne.symm hLt)).trans (hk₁ td _ htC htb ht0)
    have k2 : ∀ q o, q ≠ L → q ≠ td → q ≠ C → q < bd → s.heap.get? q = some o → h2.get? q = some o := fun q o x1 x2 x3 x4 e => (hs2.2 q x1).trans (hk₁ q o x3 x4 (hk0 q o x1 x2 x3 x4 e))
    have N2 : News b L h2 [(td, listOf (vals.take i).toArray i)] := fun p hp => by
      rw [List.mem_singleton] at hp
      subst hp
      exact ⟨t2, Ne.symm hLt, bt⟩
    have hk6 : (vals.take i).toArray.size = i := by rw [List.size_toArray, List.length_take]; omega
    have hLq : ∀ q, (q = C ∨ q = l ∨ bd ≤ q + 1 ∨ ∃ o', b.get? q = some o') → q ≠ L ∧ q ≠ td := fun q hq => by
      rcases hq with rfl | rfl | hq | ⟨o', ho⟩
      · exact ⟨Ne.symm hLC, Ne.symm htC⟩
      · exact ⟨Ne.symm hLl, Ne.symm htl⟩
      · exact ⟨fun z => by subst z; exact absurd hLb1 (Nat.not_lt.mpr hq), fun z => by subst z; exact absurd htb1 (Nat.not_lt.mpr hq)⟩
      · exact ⟨(hlow q _ ho).1, fun z => by subst z; rw [bt] at ho; cases ho⟩
    generalize hits : (vals.take i).toArray = its at *
    clear F1 F0 hgen G1 G0
    refine exLit (by with_unfolding_all rfl) ?_
    iterate 15 tb_rel
    · iterate 3 tb_rel
      dsimp only
      have e6 : i = 6 := by omega
      subst e6
      rw [← hits] at t2
      exact ret h2 _ #[gs'] _ 6 (fun y hy => by rw [List.mem_toArray, List.mem_singleton] at hy; subst hy; exact hb') F2 t2 k2
    iterate 2 tb_rel
    dsimp only
    iterate 9 tb_rel
    refine append_at t2 (fun h3 hs3 t3 => ?_) (hsz := by rw [hk6]; exact Nat.le_trans hi6 (by decide))
    iterate 2 tb_rel
    dsimp only
    refine ⟨7 - (i + 1), by omega, i + 1, rfl, h3, _, gs', _, rfl, hb', ⟨F2.ns.at' fun o e => (hs3.2 L hLt).trans e, fun q o e => (hs3.2 q (fun z => by subst z; rw [bt] at e; cases e)).trans (F2.keep q o e), F2.above⟩, ?_, fun q o x1 x2 x3 x4 e => (hs3.2 q x2).trans (k2 q o x1 x2 x3 x4 e), ?_, hlt, by omega⟩
    · subst hits
      rw [← take_push hidx]; exact t3
    · intro s5 ext
      have ek : vals.length - (i + 1) = k := by omega
      rw [ek]
      refine hkap (fun z => ?_) s5 (fun q o hq e => ext q o hq ((hs3.2 q (hLq q hq).2).trans ((hs2.2 q (hLq q hq).1).trans e)))
      cases hfin : fin with
      | true => rfl
      | false => have := hv2 hfin; omega
  · have e : vals.length - i = 0 := by omega
    have hf : fin = true := by
      cases hfin : fin with
      | true => rfl
      | false => have := hv2 hfin; omega
    have G1 := G0 { s with heap := h, toks := tk, gens := #[GenState.running] } (fun _ _ _ e => e)
    rw [e] at G1
    refine nextG (P := fun n s₀ s => n = 0 ∧ fin = true ∧ gSince C bd s₀ s) hA (T.nolimit.keeps F0.keep) hroom hgen rfl G1 (fun v s₁ gs' hb' hy => ?_) (fun s₁ hp h' hk' => ?_)
    · exact (hy.2.2 (fun _ => hf) s₁ (fun _ _ _ e => e)).elim
    · obtain ⟨_, _, h₁, tk₁, rfl, hk₁⟩ := hp
      refine wpAny_pure ?_
      have F1 : Fr b L h' (tm td m1) := ⟨F0.ns.at' fun o e => hk' _ _ (hk₁ L o hLC hLb e), fun q o e => hk' _ _ (hk₁ q o (fun z => by subst z; rw [bC] at e; cases e) (hlow q o e).2 (F0.keep q o e)), F0.above⟩
      refine ret h' tk₁ #[GenState.finished] m1 i (fun y hy => by rw [List.mem_toArray, List.mem_singleton] at hy; subst hy; rfl) F1 ?_ (fun q o x1 x2 x3 x4 e => hk' _ _ (hk₁ q o x3 x4 (hk0 q o x1 x2 x3 x4 e)))
      have ei : vals.take 6 = vals.take i := by rw [List.take_of_length_le (by have := hv1 hf; omega), List.take_of_length_le (by omega)]
      rw [ei]
      exact hk' _ _ (hk₁ td _ htC htb ht0)
end
end Mine

namespace Mine
section
open PySem PySem.W PyProof.Rows PySem.Spec PySem.Calls
set_option maxRecDepth 100000
set_option maxHeartbeats 20000000
local macro_rules | `(tactic| tb_rel) => `(tactic| first | (k_unfold; (try dsimp only)) | (k_end; wrow_close) | walk1 | (dsimp only; walk1) | (leave1; walk_say "STEP leave1"; try dsimp only) | fail "no step")
theorem makeG {w : World} {A : Around} {s : Shared} {Q E : Value → Shared → Prop} (l : Addr) (hroom : A.depth < recursionLimit) (X : (KF w.params).In s.heap) (hl : s.heap.NoLimit)
    (h : ∀ (h' : Heap) (tk : Nat) (nm qn : Value), h'.objs.size = s.heap.objs.size + 1 + 1 → h'.Ns s.heap.objs.size (fun x => [(Str.ofString "grouping", Value.ref l)].lookup x) →
      h'.get? (s.heap.objs.size + 1) = some { cls := .type "generator", data := .fields #[.int s.gens.size 0, nm, qn] } → (∀ b o, s.heap.get? b = some o → h'.get? b = some o) →
      Q (.ref (s.heap.objs.size + 1)) { s with heap := h', toks := tk, gens := s.gens.push (.fresh (.func gBody (gEnv s.heap.objs.size))) }) :
    wpAny (model PG w) A (call (.ref 70) [.ref l]) Q E s := by
  refine wpAny_call (codeAny_call_generator (fd := gFd) (body := gBody) hroom (X 70 ob70 (by with_unfolding_all rfl)) (by with_unfolding_all rfl) (by with_unfolding_all rfl) (by with_unfolding_all rfl) (by with_unfolding_all rfl) (codeRec_of X (by with_unfolding_all rfl)) ?_)
  refine wpAny_of_eq (a := [(Str.ofString "grouping", Value.ref l)]) (by with_unfolding_all rfl) ?_
  refine wpAny_newFunctionEnv (by with_unfolding_all decide) (locs (by with_unfolding_all rfl)) (fun h₁ hns hsb => ⟨hl.fresh _ hsb, ?_⟩) (by with_unfolding_all rfl)
  have e1 : h₁.objs.size = s.heap.objs.size + 1 := by rw [hsb.1, Heap.size_push]
  have hk : ∀ b o, s.heap.get? b = some o → h₁.get? b = some o := fun b o e => hsb.extBut b o (Nat.ne_of_lt (Heap.lt_size e)) (Heap.get?_push_of_some _ e)
  have z := h (h₁.push { cls := .type "generator", data := .fields #[.int s.gens.size 0, .str gFd.name (s.toks + 1), .str gFd.qualname (s.toks + 1 + 1)] }) (s.toks + 1 + 1 + 1) _ _ (by rw [Heap.size_push, e1]) (hns.push _) (by rw [← e1]; exact Heap.get?_push_size _ rfl) (fun b o e => Heap.get?_push_of_some _ (hk b o e))
  rw [← e1] at z
  exact z
section
variable (w : World) (A : Around) (mean : ExcName → Option Value) (mg mb : Str → Option Value) (b₀ : Heap) (C l it bd : Addr) (items : Array Value) (v1 v2 v3 : Int) (t1 t2 t3 : Tok) (hA : A.handled = none) (Y : (KF w.params).In b₀) (T : Top VW LO mean mg mb b₀) (hC : C ≠ l) (hCi : C ≠ it) (hli : l ≠ it) (hbd : bd ≤ it) (hit : b₀.get? it = none)
  (b1 : 1 ≤ v1 ∧ v1 ≤ 3) (b2 : 1 ≤ v2 ∧ v2 ≤ 3) (b3 : 1 ≤ v3 ∧ v3 ≤ 3) (h0 : items[0]? = some (.int v1 t1)) (h1 : items[1]? = some (.int v2 t2)) (h2 : items[2]? = some (.int v3 t3))
include hA Y T hC hCi hli hbd hit b1 b2 b3 h0 h1 h2
abbrev v7 (v1 v2 v3 : Int) (t1 t2 t3 : Tok) : List Value := [.int v1 t1, .int v2 t2, .int v3 t3, .int v3 t3, .int v3 t3, .int v3 t3, .int v3 t3]
abbrev v3s (v1 v2 v3 : Int) (t1 t2 t3 : Tok) : List Value := [.int v1 t1, .int v2 t2, .int v3 t3]
theorem supInf {t : Tok} (h3 : items[3]? = some (.int 0 t)) : GF w A b₀ C l it bd items (v7 v1 v2 v3 t1 t2 t3) false 7 0 .none :=
  turnY rfl w A mean mg mb b₀ C l it bd items _ false 6 0 _ v1 t1 hA Y T hC hCi hli hbd hit h0 b1 rfl fun _ =>
  turnY rfl w A mean mg mb b₀ C l it bd items _ false 5 1 _ v2 t2 hA Y T hC hCi hli hbd hit h1 b2 rfl fun _ =>
  turnY rfl w A mean mg mb b₀ C l it bd items _ false 4 2 _ v3 t3 hA Y T hC hCi hli hbd hit h2 b3 rfl fun _ =>
  foreverG rfl w A mean mg mb b₀ C l it bd items _ 3 0 t v3 t3 hA Y T hC hCi hli hbd hit h3 rfl 3 fun m hm => by
    match m, hm with
    | 0, _ => rfl
    | 1, _ => rfl
    | 2, _ => rfl
    | 3, _ => rfl
theorem supFin (rest : GF w A b₀ C l it bd items (v3s v1 v2 v3 t1 t2 t3) true 0 3 (.int v3 t3)) : GF w A b₀ C l it bd items (v3s v1 v2 v3 t1 t2 t3) true 3 0 .none :=
  turnY rfl w A mean mg mb b₀ C l it bd items _ true 2 0 _ v1 t1 hA Y T hC hCi hli hbd hit h0 b1 rfl fun _ =>
  turnY rfl w A mean mg mb b₀ C l it bd items _ true 1 1 _ v2 t2 hA Y T hC hCi hli hbd hit h1 b2 rfl fun _ =>
  turnY rfl w A mean mg mb b₀ C l it bd items _ true 0 2 _ v3 t3 hA Y T hC hCi hli hbd hit h2 b3 rfl fun _ => rest
theorem supStop {t : Tok} (h3 : items[3]? = some (.int 127 t)) : GF w A b₀ C l it bd items (v3s v1 v2 v3 t1 t2 t3) true 3 0 .none :=
  supFin w A mean mg mb b₀ C l it bd items v1 v2 v3 t1 t2 t3 hA Y T hC hCi hli hbd hit b1 b2 b3 h0 h1 h2 (stopG rfl w A mean mg mb b₀ C l it bd items _ 3 _ 127 t hA Y T hC hCi hli hbd hit h3 rfl)
theorem supEnd (h3 : items[3]? = none) : GF w A b₀ C l it bd items (v3s v1 v2 v3 t1 t2 t3) true 3 0 .none :=
  supFin w A mean mg mb b₀ C l it bd items v1 v2 v3 t1 t2 t3 hA Y T hC hCi hli hbd hit b1 b2 b3 h0 h1 h2 (endG w A b₀ C l it bd items _ 3 _ hA hbd h3)
end
theorem allLt_mem {d : Nat} (l : List (Addr × Obj)) (h : AllLt d l) (p : Addr × Obj) (hp : p ∈ l) : p.1 ≠ d := by
  induction l with
  | nil => cases hp
  | cons x r ih =>
    have h : @LT.lt Nat _ x.1 d ∧ AllLt d r := h
    rcases List.mem_cons.mp hp with rfl | hp
    · exact Nat.ne_of_lt h.1
    · exact ih h.2 hp
theorem told_news {b : Heap} {L td : Addr} {h h1 : Heap} {o o' : Obj} {x0 x1 x2 x3 x4 x5 : Addr × Obj} {tl : List (Addr × Obj)} (N : News b L h1 (x0 :: (td, o) :: x1 :: x2 :: x3 :: x4 :: x5 :: tl)) (e : h.get? td = some o')
    (k : ∀ q o, q ≠ L → q ≠ td → h1.get? q = some o → h.get? q = some o) (lt : AllLt td tl) : News b L h ((td, o') :: tl) := by
  intro p hp
  rcases List.mem_cons.mp hp with rfl | hp
  · exact ⟨e, (N _ (.tail _ (.head _))).2⟩
  · have z := N p (.tail _ (.tail _ (.tail _ (.tail _ (.tail _ (.tail _ (.tail _ hp)))))))
    exact ⟨k _ _ z.2.1 (allLt_mem _ lt p hp) z.1, z.2⟩
/- the call of the generator and the loop over it, the list being one of the four -/
theorem genLoop (w : World) (A : Around) (mean : ExcName → Option Value) (mg mb : Str → Option Value) (b : Heap) (L td l : Addr) (items : Array Value) (vals : List Value) (fin : Bool) (m : Str → Option Value) (s : Shared) (R : Result → Shared → Prop) (E : Value → Shared → Prop)
    (hA : A.handled = none) (hroom : A.depth + 1 < recursionLimit) (Y : (KF w.params).In b) (T : Top VW LO mean mg mb b)
    (hv1 : fin = true → vals.length ≤ 6) (hv2 : fin = false → vals.length = 7)
    (F : Fr b L s.heap (tm td m)) (N : News b L s.heap [(td, listOf #[] 0), (l, listOf items 0)]) (htl : td ≠ l) (hg : s.gens = #[])
    (sup : ∀ (C it bd : Addr), C ≠ l → C ≠ it → l ≠ it → bd ≤ it → b.get? it = none → GF w A.in1 b C l it bd items vals fin vals.length 0 .none)
    (ret : ∀ (h : Heap) (tk : Nat) (gens : Array GenState) (m' : Str → Option Value) (n' : Nat), AllBare gens → Fr b L h (tm td m') → h.get? td = some (listOf (vals.take 6).toArray n') →
      (∀ q o, q ≠ L → q ≠ td → s.heap.get? q = some o → h.get? q = some o) → R (.ok .next) { s with heap := h, toks := tk, gens := gens }) :
    wpAny (model PG w) A (call (.ref 70) [.ref l]) (fun xv s₁ => wpAny (model PG w) A (pyIter xv) (fun it s₂ => codeAny (model PG w) A (.forLoop sTgt it sTurn [] (sEnv L)) R s₂) E s₁) E s := by
  have ht := N (td, listOf #[] 0) (.head _)
  have hl := N (l, listOf items 0) (.tail _ (.head _))
  have htb := Heap.lt_size ht.1
  have hlb := Heap.lt_size hl.1
  obtain ⟨oL, es, ep, hoL, hrL⟩ := F.ns
  have hLb := Heap.lt_size hoL
  refine makeG l (Nat.lt_of_succ_lt hroom) (Y.keeps F.keep) (T.nolimit.keeps F.keep) (fun h' tk nm qn hsz hns hge hk => ?_)
  have hg0 : s.gens.size = 0 := by rw [hg]; rfl
  rw [hg0] at hge
  refine wpAny_pyIter_gen (g := 0) ⟨_, nm, qn, hge, rfl, rfl, rfl⟩ ?_
  have bC : ∀ q, s.heap.objs.size ≤ q → b.get? q = none := fun q hq => by
    cases e : b.get? q with
    | none => rfl
    | some o => exact absurd (Nat.lt_of_lt_of_le (Heap.lt_size (F.keep _ _ e)) hq) (Nat.lt_irrefl _)
  have ltn : ∀ {x : Addr}, x < s.heap.objs.size → x < s.heap.objs.size + 1 + 1 := fun h => Nat.lt_trans h (Nat.lt_trans (Nat.lt_succ_self _) (Nat.lt_succ_self _))
  have hl' : h'.IsList l items := ⟨_, hk _ _ hl.1, rfl, _, rfl⟩
  refine toldL rfl w A mean mg mb b L td (s.heap.objs.size + 1) s.heap.objs.size l (s.heap.objs.size + 1 + 1) vals fin m _ R (.fresh (.func gBody (gEnv s.heap.objs.size))) hA (Nat.lt_of_succ_lt hroom) Y T hv1 hv2
    ⟨F.ns.keeps hk, fun q o e => hk _ _ (F.keep q o e), F.above⟩ (hk _ _ ht.1) (by show s.gens.push _ = _; rw [hg]; rfl) rfl ⟨_, nm, qn, hge, rfl, rfl, rfl⟩
    (Nat.ne_of_lt hLb) (Ne.symm hl.2.1) (Ne.symm ht.2.1) (Ne.symm (Nat.ne_of_lt (Nat.lt_succ_of_lt hLb))) (Nat.ne_of_lt htb) htl (Ne.symm (Nat.ne_of_lt (Nat.lt_succ_of_lt htb))) (Ne.symm (Nat.ne_of_lt (Nat.lt_succ_self _))) (Nat.succ_lt_succ (Nat.lt_succ_of_lt hLb)) (Nat.succ_lt_succ (Nat.lt_succ_of_lt htb)) (Nat.lt_succ_self _) (bC _ (Nat.le_refl _)) ht.2.2 ?_ ?_
  · intro s5 ext
    refine ⟨rfl, ?_⟩
    have hn5 := hns.at' fun o e => ext _ o (.inl rfl) e
    have ha5 := Heap.lt_size (ext _ _ (.inr (.inr (.inl (Nat.le_refl _)))) hge)
    refine startG rfl w A.in1 mean mg mb b s.heap.objs.size l (s.heap.objs.size + 1 + 1) items vals fin vals.length _ hA Y T (Ne.symm (Nat.ne_of_lt hlb)) hl.2.2 (fun it i1 i2 i3 i4 => sup _ it _ (Ne.symm (Nat.ne_of_lt hlb)) i1 i2 i3 i4) s5 ⟨hn5, fun q o e => ext q o (.inr (.inr (.inr ⟨o, e⟩))) (hk _ _ (F.keep q o e)), ?_⟩ (hl'.at fun o e => ext _ o (.inr (.inl rfl)) e) (by with_unfolding_all rfl) ha5 (Nat.lt_trans (Nat.lt_succ_self _) ha5)
    exact Nat.le_trans F.above (Nat.le_of_lt hLb)
  · intro h tk2 gens m' n' hb F' ht' hk'
    exact ret h tk2 gens m' n' hb F' ht' (fun q o x1 x2 e => hk' q o x1 x2 (Nat.ne_of_lt (Heap.lt_size e)) (ltn (Heap.lt_size e)) (hk _ _ e))
theorem sizes0 (trig : PySem.Challenge.rw_xg0044_01 = PySem.Challenge.rw_xg0044_01) (w : World) (mean : ExcName → Option Value) (mg mb : Str → Option Value)
    (un : Nat) (gd : Option (List Code)) (cn : Str) (cs : Scope) (a : Addr) (ccd : Value) (cl : List (Str × Addr)) (outer : List Env) (A₀ : Around) (base h₀ : Heap) (L : Addr) (m : Str → Option Value) (news : List (Addr × Obj)) (s : Shared) (Q E : Value → Shared → Prop)
    (B : Below A₀ base outer h₀) (F : Fr h₀ L s.heap m) (Y : (KF w.params).In h₀)
    (l : Addr) (v1 v2 v3 : Int) (t1 t2 t3 tw : Tok) (n : Nat)
    (N : News h₀ L s.heap ((l, listOf #[.int v1 t1, .int v2 t2, .int v3 t3] n) :: news)) (T : Top VW LO mean mg mb h₀) (hk : cs.kind = .function)
    (b1 : 1 ≤ v1 ∧ v1 ≤ 3) (b2 : 1 ≤ v2 ∧ v2 ≤ 3) (b3 : 1 ≤ v3 ∧ v3 ≤ 3)
    (hg : s.gens = #[])
    (ret : ∀ (r : Addr) (n' : Nat) (h' : Heap) (tk' : Nat) (gens' : Array GenState), Fr h₀ L h' m → News h₀ L h' ((r, listOf #[.int v1 t1, .int v2 t2, .int v3 t3, .int v3 t3, .int v3 t3, .int v3 t3] n') :: (l, listOf #[.int v1 t1, .int v2 t2, .int v3 t3] n) :: news) → AllBare gens' → Q (.ref r) { s with heap := h', toks := tk', gens := gens' }) :
    wpAny (model PG w) (ktrTop 302 un gd cn cs L a ccd cl outer) (call (.ref 87) [.ref l, .int 0 tw]) Q E s := by
  have : PySem.Challenge.rw_xg0044_01 = PySem.Challenge.rw_xg0044_01 ∧ (KF w.params).In h₀ := ⟨rfl, Y⟩
  revert this
  w_top off
  k_with_none
  k_fill
  intro ⟨_, Y2⟩
  clear trig Y2
  refine wpAny_call ?_
  k_dflt cell_enter
  iterate 42 tb_rel
  refine wpAny_For ?_ (fun _ => rfl)
  iterate 13 tb_rel
  (rename Fr _ _ _ _ => fE)
  (rename News _ _ _ _ => nE)
  (rename Top _ _ _ _ _ _ => tE)
  (rename Frag.In _ _ => yE)
  refine' genLoop w _ mean mg mb _ _ _ _ _ (v7 v1 v2 v3 t1 t2 t3) false _ _ _ _ rfl (Nat.le_of_ble_eq_true rfl) yE tE ?sv1 ?sv2 fE ?sN ?sne hg ?ssup ?sret
  case sv1 => exact fun z => by cases z
  case sv2 => exact fun _ => rfl
  case sN => exact cb_drop nE (by kcf_all)
  case sne => (refine neN ?_; (try dsimp only); omega)
  case ssup =>
    intro C it bd c1 c2 c3 c4 c5
    exact supInf w _ mean mg mb _ C _ it bd _ v1 v2 v3 t1 t2 t3 rfl yE tE c1 c2 c3 c4 c5 b1 b2 b3 rfl rfl rfl rfl
  case sret =>
    intro h tk2 gens m2 n2 hb F2 tt k2
    have N3 := told_news nE tt k2 (by
      (with_reducible rename _ < _ ∧ _ < _ ∧ _ < _ ∧ _ < _ ∧ _ < _ ∧ _ < _ ∧ AllLt _ _ => hc)
      exact hc.2.2.2.2.2)
    clear nE fE k2 tt
    try (dsimp only)
    try (dsimp only [tm] at F2)
    iterate 4 tb_rel
    (rename Fr _ _ _ _ => fZ)
    (rename News _ _ _ _ => nZ)
    exact ret _ _ _ _ _ fZ nZ hb
theorem sizes1 (trig : PySem.Challenge.rw_xg0044_01 = PySem.Challenge.rw_xg0044_01) (w : World) (mean : ExcName → Option Value) (mg mb : Str → Option Value)
    (un : Nat) (gd : Option (List Code)) (cn : Str) (cs : Scope) (a : Addr) (ccd : Value) (cl : List (Str × Addr)) (outer : List Env) (A₀ : Around) (base h₀ : Heap) (L : Addr) (m : Str → Option Value) (news : List (Addr × Obj)) (s : Shared) (Q E : Value → Shared → Prop)
    (B : Below A₀ base outer h₀) (F : Fr h₀ L s.heap m) (Y : (KF w.params).In h₀)
    (l : Addr) (v1 v2 v3 : Int) (t1 t2 t3 tw : Tok) (n : Nat)
    (N : News h₀ L s.heap ((l, listOf #[.int v1 t1, .int v2 t2, .int v3 t3] n) :: news)) (T : Top VW LO mean mg mb h₀) (hk : cs.kind = .function)
    (b1 : 1 ≤ v1 ∧ v1 ≤ 3) (b2 : 1 ≤ v2 ∧ v2 ≤ 3) (b3 : 1 ≤ v3 ∧ v3 ≤ 3)
    (hg : s.gens = #[])
    (ret : ∀ (r : Addr) (n' : Nat) (h' : Heap) (tk' : Nat) (gens' : Array GenState), Fr h₀ L h' m → News h₀ L h' ((r, listOf #[.int v1 t1, .int v2 t2, .int v3 t3] n') :: (l, listOf #[.int v1 t1, .int v2 t2, .int v3 t3] n) :: news) → AllBare gens' → Q (.ref r) { s with heap := h', toks := tk', gens := gens' }) :
    wpAny (model PG w) (ktrTop 302 un gd cn cs L a ccd cl outer) (call (.ref 87) [.ref l, .int 1 tw]) Q E s := by
  have : PySem.Challenge.rw_xg0044_01 = PySem.Challenge.rw_xg0044_01 ∧ (KF w.params).In h₀ := ⟨rfl, Y⟩
  revert this
  w_top off
  k_with_none
  k_fill
  intro ⟨_, Y2⟩
  clear trig Y2
  refine wpAny_call ?_
  k_dflt cell_enter
  iterate 42 tb_rel
  refine wpAny_For ?_ (fun _ => rfl)
  iterate 13 tb_rel
  (rename Fr _ _ _ _ => fE)
  (rename News _ _ _ _ => nE)
  (rename Top _ _ _ _ _ _ => tE)
  (rename Frag.In _ _ => yE)
  refine' genLoop w _ mean mg mb _ _ _ _ _ (v3s v1 v2 v3 t1 t2 t3) true _ _ _ _ rfl (Nat.le_of_ble_eq_true rfl) yE tE ?sv1 ?sv2 fE ?sN ?sne hg ?ssup ?sret
  case sv1 => exact fun _ => Nat.le_of_ble_eq_true rfl
  case sv2 => exact fun z => by cases z
  case sN => exact cb_drop nE (by kcf_all)
  case sne => (refine neN ?_; (try dsimp only); omega)
  case ssup =>
    intro C it bd c1 c2 c3 c4 c5
    exact supStop w _ mean mg mb _ C _ it bd _ v1 v2 v3 t1 t2 t3 rfl yE tE c1 c2 c3 c4 c5 b1 b2 b3 rfl rfl rfl rfl
  case sret =>
    intro h tk2 gens m2 n2 hb F2 tt k2
    have N3 := told_news nE tt k2 (by
      (with_reducible rename _ < _ ∧ _ < _ ∧ _ < _ ∧ _ < _ ∧ _ < _ ∧ _ < _ ∧ AllLt _ _ => hc)
      exact hc.2.2.2.2.2)
    clear nE fE k2 tt
    try (dsimp only)
    try (dsimp only [tm] at F2)
    iterate 4 tb_rel
    (rename Fr _ _ _ _ => fZ)
    (rename News _ _ _ _ => nZ)
    exact ret _ _ _ _ _ fZ nZ hb
theorem sizes2 (trig : PySem.Challenge.rw_xg0044_01 = PySem.Challenge.rw_xg0044_01) (w : World) (mean : ExcName → Option Value) (mg mb : Str → Option Value)
    (un : Nat) (gd : Option (List Code)) (cn : Str) (cs : Scope) (a : Addr) (ccd : Value) (cl : List (Str × Addr)) (outer : List Env) (A₀ : Around) (base h₀ : Heap) (L : Addr) (m : Str → Option Value) (news : List (Addr × Obj)) (s : Shared) (Q E : Value → Shared → Prop)
    (B : Below A₀ base outer h₀) (F : Fr h₀ L s.heap m) (Y : (KF w.params).In h₀)
    (l : Addr) (v1 v2 v3 : Int) (t1 t2 t3 tw : Tok) (n : Nat)
    (N : News h₀ L s.heap ((l, listOf #[.int v1 t1, .int v2 t2, .int v3 t3] n) :: news)) (T : Top VW LO mean mg mb h₀) (hk : cs.kind = .function)
    (b1 : 1 ≤ v1 ∧ v1 ≤ 3) (b2 : 1 ≤ v2 ∧ v2 ≤ 3) (b3 : 1 ≤ v3 ∧ v3 ≤ 3)
    (hg : s.gens = #[])
    (ret : ∀ (r : Addr) (n' : Nat) (h' : Heap) (tk' : Nat) (gens' : Array GenState), Fr h₀ L h' m → News h₀ L h' ((r, listOf #[.int v1 t1, .int v2 t2, .int v3 t3] n') :: (l, listOf #[.int v1 t1, .int v2 t2, .int v3 t3] n) :: news) → AllBare gens' → Q (.ref r) { s with heap := h', toks := tk', gens := gens' }) :
    wpAny (model PG w) (ktrTop 302 un gd cn cs L a ccd cl outer) (call (.ref 87) [.ref l, .int 2 tw]) Q E s := by
  have : PySem.Challenge.rw_xg0044_01 = PySem.Challenge.rw_xg0044_01 ∧ (KF w.params).In h₀ := ⟨rfl, Y⟩
  revert this
  w_top off
  k_with_none
  k_fill
  intro ⟨_, Y2⟩
  clear trig Y2
  refine wpAny_call ?_
  k_dflt cell_enter
  iterate 42 tb_rel
  refine wpAny_For ?_ (fun _ => rfl)
  iterate 13 tb_rel
  (rename Fr _ _ _ _ => fE)
  (rename News _ _ _ _ => nE)
  (rename Top _ _ _ _ _ _ => tE)
  (rename Frag.In _ _ => yE)
  refine' genLoop w _ mean mg mb _ _ _ _ _ (v3s v1 v2 v3 t1 t2 t3) true _ _ _ _ rfl (Nat.le_of_ble_eq_true rfl) yE tE ?sv1 ?sv2 fE ?sN ?sne hg ?ssup ?sret
  case sv1 => exact fun _ => Nat.le_of_ble_eq_true rfl
  case sv2 => exact fun z => by cases z
  case sN => exact cb_drop nE (by kcf_all)
  case sne => (refine neN ?_; (try dsimp only); omega)
  case ssup =>
    intro C it bd c1 c2 c3 c4 c5
    exact supEnd w _ mean mg mb _ C _ it bd _ v1 v2 v3 t1 t2 t3 rfl yE tE c1 c2 c3 c4 c5 b1 b2 b3 rfl rfl rfl rfl
  case sret =>
    intro h tk2 gens m2 n2 hb F2 tt k2
    have N3 := told_news nE tt k2 (by
      (with_reducible rename _ < _ ∧ _ < _ ∧ _ < _ ∧ _ < _ ∧ _ < _ ∧ _ < _ ∧ AllLt _ _ => hc)
      exact hc.2.2.2.2.2)
    clear nE fE k2 tt
    try (dsimp only)
    try (dsimp only [tm] at F2)
    iterate 4 tb_rel
    (rename Fr _ _ _ _ => fZ)
    (rename News _ _ _ _ => nZ)
    exact ret _ _ _ _ _ fZ nZ hb
theorem sizes3 (trig : PySem.Challenge.rw_xg0044_01 = PySem.Challenge.rw_xg0044_01) (w : World) (mean : ExcName → Option Value) (mg mb : Str → Option Value)
    (un : Nat) (gd : Option (List Code)) (cn : Str) (cs : Scope) (a : Addr) (ccd : Value) (cl : List (Str × Addr)) (outer : List Env) (A₀ : Around) (base h₀ : Heap) (L : Addr) (m : Str → Option Value) (news : List (Addr × Obj)) (s : Shared) (Q E : Value → Shared → Prop)
    (B : Below A₀ base outer h₀) (F : Fr h₀ L s.heap m) (Y : (KF w.params).In h₀)
    (l : Addr) (v1 v2 v3 : Int) (t1 t2 t3 tw : Tok) (n : Nat)
    (N : News h₀ L s.heap ((l, listOf #[.int v1 t1, .int v2 t2, .int v3 t3] n) :: news)) (T : Top VW LO mean mg mb h₀) (hk : cs.kind = .function)
    (b1 : 1 ≤ v1 ∧ v1 ≤ 3) (b2 : 1 ≤ v2 ∧ v2 ≤ 3) (b3 : 1 ≤ v3 ∧ v3 ≤ 3)
    (hg : s.gens = #[])
    (ret : ∀ (r : Addr) (n' : Nat) (h' : Heap) (tk' : Nat) (gens' : Array GenState), Fr h₀ L h' m → News h₀ L h' ((r, listOf #[.int v1 t1, .int v2 t2, .int v3 t3, .int v3 t3, .int v3 t3, .int v3 t3] n') :: (l, listOf #[.int v1 t1, .int v2 t2, .int v3 t3] n) :: news) → AllBare gens' → Q (.ref r) { s with heap := h', toks := tk', gens := gens' }) :
    wpAny (model PG w) (ktrTop 302 un gd cn cs L a ccd cl outer) (call (.ref 87) [.ref l, .int 3 tw]) Q E s := by
  have : PySem.Challenge.rw_xg0044_01 = PySem.Challenge.rw_xg0044_01 ∧ (KF w.params).In h₀ := ⟨rfl, Y⟩
  revert this
  w_top off
  k_with_none
  k_fill
  intro ⟨_, Y2⟩
  clear trig Y2
  refine wpAny_call ?_
  k_dflt cell_enter
  iterate 42 tb_rel
  refine wpAny_For ?_ (fun _ => rfl)
  iterate 13 tb_rel
  (rename Fr _ _ _ _ => fE)
  (rename News _ _ _ _ => nE)
  (rename Top _ _ _ _ _ _ => tE)
  (rename Frag.In _ _ => yE)
  refine' genLoop w _ mean mg mb _ _ _ _ _ (v7 v1 v2 v3 t1 t2 t3) false _ _ _ _ rfl (Nat.le_of_ble_eq_true rfl) yE tE ?sv1 ?sv2 fE ?sN ?sne hg ?ssup ?sret
  case sv1 => exact fun z => by cases z
  case sv2 => exact fun _ => rfl
  case sN => exact cb_drop nE (by kcf_all)
  case sne => (refine neN ?_; (try dsimp only); omega)
  case ssup =>
    intro C it bd c1 c2 c3 c4 c5
    exact supInf w _ mean mg mb _ C _ it bd _ v1 v2 v3 t1 t2 t3 rfl yE tE c1 c2 c3 c4 c5 b1 b2 b3 rfl rfl rfl rfl
  case sret =>
    intro h tk2 gens m2 n2 hb F2 tt k2
    have N3 := told_news nE tt k2 (by
      (with_reducible rename _ < _ ∧ _ < _ ∧ _ < _ ∧ _ < _ ∧ _ < _ ∧ _ < _ ∧ AllLt _ _ => hc)
      exact hc.2.2.2.2.2)
    clear nE fE k2 tt
    try (dsimp only)
    try (dsimp only [tm] at F2)
    iterate 4 tb_rel
    (rename Fr _ _ _ _ => fZ)
    (rename News _ _ _ _ => nZ)
    exact ret _ _ _ _ _ fZ nZ hb
end
end Mine

namespace Mine
section
open PySem PySem.Spec PySem.Calls PyProof.Rows PyProof.Rows.LCg PyProof.Rows.LCp
set_option maxHeartbeats 4000000
section
variable {prog : Program} {w : World} {A : Around} {E : Value → Shared → Prop} {s : Shared} {h₀ : Heap} {L : Addr} {m : Str → Option Value} {env : Env}
/-- one turn of the comprehension over pairs: the element comes out as G i -/
def TurnT (prog : Program) (w : World) (A : Around) (h₀ : Heap) (L : Addr) (m : Str → Option Value) (env : Env) (elt : Expr) (x x₂ : Str) (scope : Scope) (cl : List (Str × Addr)) (s : Shared) (fp : List Addr) (n : Nat) (P2 : Nat → Value → Value → Prop) (G : Nat → Value → Prop) (news : List (Addr × Obj)) : Prop :=
  ∀ i v₁ v₂ C oC D m₂ ys h tk own (E' : Value → Shared → Prop), i < n → P2 i v₁ v₂ → NsObj oC m₂ → m₂ x = some v₁ → m₂ x₂ = some v₂ → Fr h₀ L h m → News h₀ L h ((C, oC) :: (D, lst ys) :: (own ++ news)) →
    wpAny (model prog w) A (eval elt (compEnvC scope cl C env)) (fun y s₄ => ∃ h' tk', s₄ = { s with heap := h', toks := tk' } ∧ Fr h₀ L h' m ∧ News h₀ L h' ((C, oC) :: (D, lst ys) :: (own ++ news)) ∧ G i y) E' { s with heap := h, toks := tk }

theorem block_T {elt iter : Expr} {x x₂ : Str} {px px₂ tp : Pos} {tk} {scope : Scope} {cl : List (Str × Addr)} {pos : Pos} {s₂ : Shared} {I : Addr} {fp wr : List Addr} {n : Nat} {Pt : Nat → Array Value → Prop} {St : Nat → Heap → Prop} {Mid : Nat → Addr → Heap → Prop} {P2 : Nat → Value → Value → Prop} {G : Nat → Value → Prop} {news : List (Addr × Obj)}
    {RR : Value → Addr → Result → Shared → Prop}
    (W : WalksT prog w A I fp wr n Pt St Mid) (h2 : ∀ i vals, Pt i vals → ∃ v0 v1, vals = #[v0, v1] ∧ P2 i v0 v1) (hsz : n ≤ sizeLine)
    (hcell : ∀ y ∈ scope.names, y.2 ≠ .cell) (hkind : scope.kind = .function) (hx : scope.names.lookup x = some .local) (hx₂ : scope.names.lookup x₂ = some .local) (hxx : x ≠ x₂) (hh : A.handled = none) (hst : St 0 s₂.heap) (hfp : ∀ b ∈ fp, b < s₂.heap.objs.size)
    (F : Fr h₀ L s₂.heap m) (N : News h₀ L s₂.heap news) (hLf : L ∉ fp) (hwr : ∀ b ∈ wr, h₀.get? b = none) (off : ∀ p ∈ news, p.1 ∉ wr)
    (R : TurnT prog w A h₀ L m env elt x x₂ scope cl s₂ fp n P2 G news)
    (hRR : ∀ D C h tk m' ys, Fr h₀ L h m → News h₀ L h ((D, lst ys) :: news) → h.Ns C m' → h₀.get? C = none → h₀.get? D = none → C ≠ L → D ≠ L → C ≠ D → (∀ p ∈ news, p.1 ≠ C) → ys.length = n → (∀ i y, ys[i]? = some y → G i y) → RR (.ref D) C (.ok .next) { s₂ with heap := h, toks := tk }) :
    wpAny (model prog w) A (newList []) (fun acc s₃ => wpAny (model prog w) A (newFunctionEnv scope env.globals cl [] env.qual none .none (some env)) (fun cenv s₄ =>
      codeAny (model prog w) A (.compStart (.ListComp elt [⟨.Tuple [.Name x px, .Name x₂ px₂] tk tp, iter, [], 0⟩] scope pos) 0 (.ref I) acc { cenv with scope := relabel scope env }) (RR acc cenv.locals) s₄) E s₃) E s₂ := by
  refine wpAny_newObj_type (wpAny_newFunctionEnv hcell (by intro y hy; simp at hy) (fun h₁ hns₁ hsb₁ => ?_) hkind)
  dsimp only at hns₁ hsb₁ ⊢
  generalize hH2 : s₂.heap.push { cls := .type "list", dict := none, data := .seq ([] : List Value).toArray } = H2 at hns₁ hsb₁ ⊢
  have hC : H2.objs.size = s₂.heap.objs.size + 1 := by rw [← hH2, Heap.size_push]
  have hDC : s₂.heap.objs.size ≠ H2.objs.size := by rw [hC]; exact Nat.ne_of_lt (Nat.lt_succ_self _)
  have below : ∀ b, b < s₂.heap.objs.size → b ≠ H2.objs.size ∧ b ≠ s₂.heap.objs.size := fun b hb => ⟨by rw [hC]; exact Nat.ne_of_lt (Nat.lt_succ_of_lt hb), Nat.ne_of_lt hb⟩
  have hDf : s₂.heap.objs.size ∉ fp := fun hm => Nat.lt_irrefl _ (hfp _ hm)
  have hCf : H2.objs.size ∉ fp := fun hm => by have := hfp _ hm; rw [hC] at this; exact Nat.lt_irrefl _ (Nat.lt_of_succ_lt this)
  have hLw : L ∉ wr := fun h => hLf (W.sub _ h)
  have hDw : s₂.heap.objs.size ∉ wr := fun h => hDf (W.sub _ h)
  have hCw : H2.objs.size ∉ wr := fun h => hCf (W.sub _ h)
  have old : ∀ b o, s₂.heap.get? b = some o → h₁.get? b = some o := fun b o e => hsb₁.extBut b o (below b (Heap.lt_size e)).1 (Heap.get?_push_of_some _ (hH2 ▸ Heap.get?_push_of_some _ e))
  have hacc : h₁.get? s₂.heap.objs.size = some (lst []) := hsb₁.extBut _ _ hDC (Heap.get?_push_of_some _ (hH2 ▸ Heap.get?_push_size _ rfl))
  have hst₁ : St 0 h₁ := W.frame _ _ _ hst fun b _ o e => old b o e
  have fresh : ∀ a, s₂.heap.objs.size ≤ a → s₂.heap.get? a = none := fun a ha => by
    cases e : s₂.heap.get? a with
    | none => rfl
    | some o' => exact absurd (Heap.lt_size e) (Nat.not_lt.mpr ha)
  have fresh₀ : ∀ a, s₂.heap.objs.size ≤ a → h₀.get? a = none := fun a ha => by
    cases e : h₀.get? a with
    | none => rfl
    | some o' => have := F.keep a o' e; rw [fresh a ha] at this; cases this
  have hD₀ : h₀.get? s₂.heap.objs.size = none := fresh₀ _ (Nat.le_refl _)
  have hC₀ : h₀.get? H2.objs.size = none := fresh₀ _ (by rw [hC]; exact Nat.le_succ _)
  have hLlt : L < s₂.heap.objs.size := F.ns.lt
  have hDL : s₂.heap.objs.size ≠ L := Ne.symm (below L hLlt).2
  have hCL : H2.objs.size ≠ L := Ne.symm (below L hLlt).1
  have offN : ∀ p ∈ news, p.1 ≠ H2.objs.size ∧ p.1 ≠ s₂.heap.objs.size := fun p hp => below _ (Heap.lt_size (N p hp).1)
  have olds : ∀ b o, h₀.get? b = some o → b ∉ wr := fun b o e hb => by rw [hwr b hb] at e; cases e
  have stepFr : ∀ {H H' : Heap}, (∀ b o, b ∉ wr → H.get? b = some o → H'.get? b = some o) → Fr h₀ L H m → Fr h₀ L H' m := fun hk F' =>
    ⟨F'.ns.at' fun o e => hk _ o hLw e, fun b o e => hk b o (olds b o e) (F'.keep b o e), F'.above⟩
  have stepNews : ∀ {H H' : Heap} {nw : List (Addr × Obj)}, (∀ b o, b ∉ wr → H.get? b = some o → H'.get? b = some o) → (∀ p ∈ nw, p.1 ∉ wr) → News h₀ L H nw → News h₀ L H' nw := fun hk ho N' p hp =>
    ⟨hk _ _ (ho p hp) (N' p hp).1, (N' p hp).2⟩
  have loop : ∀ s₃ : Shared, s₃ = { s₂ with heap := h₁, toks := s₂.toks + ([] : List (Str × Value)).length } →
      codeAny (model prog w) A (.compLoop (.ListComp elt [⟨.Tuple [.Name x px, .Name x₂ px₂] tk tp, iter, [], 0⟩] scope pos) 0 (.ref I) (.ref s₂.heap.objs.size) (compEnvC scope cl H2.objs.size env))
        (RR (.ref s₂.heap.objs.size) H2.objs.size) s₃ := by
    rintro s₃ rfl
    refine codeAny_compLoop_pair
      (fun k s' => ∃ h' tk i ys m', s' = { s₂ with heap := h', toks := tk } ∧ i ≤ n ∧ k = n + 1 - i ∧ ys.length = i ∧ St i h' ∧ Fr h₀ L h' m ∧ h'.Ns H2.objs.size m' ∧ News h₀ L h' ((s₂.heap.objs.size, lst ys) :: news) ∧ (∀ i y, ys[i]? = some y → G i y)) ?_ (n + 1)
      ⟨h₁, _, 0, [], _, rfl, Nat.zero_le _, rfl, rfl, hst₁, F.keeps old, hns₁, fun p hp => ?_, fun i y h => by simp at h⟩
    · rintro k s' ⟨h', tk, i, ys, m', rfl, hi, rfl, hyl, hst', F', hn', N', hG⟩
      have offw : ∀ p ∈ (s₂.heap.objs.size, lst ys) :: news, p.1 ∉ wr := fun p hp => by
        rcases List.mem_cons.mp hp with rfl | hp
        · exact hDw
        · exact off p hp
      by_cases hlt : i < n
      · refine W.item i _ _ _ hlt hst' fun T vals h₂ tk₂ hPt _ hT hMid hk₂ => ?_
        obtain ⟨v₁, v₂, rfl, hP2⟩ := h2 i vals hPt
        refine W.go _ _ _ i T _ _ _ hMid fun h₄ hst₄ hk₄ => ?_
        have ht₄ : h₄.IsTuple T #[v₁, v₂] := hT.at fun o e => hk₄ T o (W.apart i T h₂ hMid) e
        refine wpAny_assign_Tuple hh ht₄ rfl rfl fun h₅ hx₅ => ?_
        replace hx₅ : Heap.ExtBut h₄.objs.size h₄ h₅ := hx₅
        have up₅ : ∀ b o, h₄.get? b = some o → h₅.get? b = some o := fun b o x => hx₅ b o (Nat.ne_of_lt (Heap.lt_size x)) x
        have hk : ∀ b o, b ∉ wr → h'.get? b = some o → h₅.get? b = some o := fun b o hb e => up₅ b o (hk₄ b o hb (hk₂ b o hb e))
        refine assignInOrder_cons (wpAny_assign_Name (wpAny_storeName_local (lookup_relabel_local hx) (hn'.at' fun o e => hk _ o hCw e) (fun h₆ hn₆ hs₆ => ?_) (by simp [compEnvC, relabel, hkind])))
        refine assignInOrder_cons (wpAny_assign_Name (wpAny_storeName_local (lookup_relabel_local hx₂) hn₆ (fun h₃ hn₃ hs₃ => ?_) (by simp [compEnvC, relabel, hkind])))
        refine assignInOrder_nil ?_
        have old3 : ∀ b o, b ≠ H2.objs.size → h₅.get? b = some o → h₃.get? b = some o := fun b o hb e => hs₃.extBut b o hb (hs₆.extBut b o hb e)
        have hst₃ : St (i + 1) h₃ := W.frame _ _ _ hst₄ fun b hb o e => old3 b o (fun q => hCf (by rw [← q]; exact hb)) (up₅ b o e)
        obtain ⟨oC, heC, hoC⟩ := ns_obj hn₃
        have F₃ : Fr h₀ L h₃ m := ((stepFr hk F').change hs₆ hCL hC₀).change hs₃ hCL hC₀
        have N₅ := stepNews hk offw N'
        have N₃ : News h₀ L h₃ ((s₂.heap.objs.size, lst ys) :: news) := fun p hp => ⟨old3 _ _ (by
          rcases List.mem_cons.mp hp with rfl | hp
          · exact hDC
          · exact (offN p hp).1) (N₅ p hp).1, (N₅ p hp).2⟩
        have N₃' : News h₀ L h₃ ((H2.objs.size, oC) :: (s₂.heap.objs.size, lst ys) :: (ownOf h₀ fp h₃ ++ news)) := fun p hp => by
          rcases List.mem_cons.mp hp with rfl | hp
          · exact ⟨heC, hCL, hC₀⟩
          · rcases List.mem_cons.mp hp with rfl | hp
            · exact N₃ _ List.mem_cons_self
            · rcases List.mem_append.mp hp with hp | hp
              · exact news_ownOf hLf p hp
              · exact N₃ p (List.mem_cons_of_mem _ hp)
        refine wpAny_mono (R i v₁ v₂ H2.objs.size oC s₂.heap.objs.size _ ys h₃ _ (ownOf h₀ fp h₃) _ hlt hP2 hoC (by simp [hxx]) (by simp) F₃ N₃') (fun y s₄ h₄ => ?_) fun _ _ e => e
        obtain ⟨h₇, tk₇, rfl, F₇, N₇, hGy⟩ := h₄
        have zC := (N₇ (H2.objs.size, oC) List.mem_cons_self).1
        have zD := (N₇ (s₂.heap.objs.size, lst ys) (List.mem_cons_of_mem _ List.mem_cons_self)).1
        have hst₇ : St (i + 1) h₇ := W.frame _ _ _ hst₃ fun b hb o e => by
          cases hn : h₀.get? b with
          | some o₀ =>
            have : o₀ = o := by have q := F₃.keep b o₀ hn; rw [e] at q; exact (Option.some.inj q).symm
            exact this ▸ F₇.keep b o₀ hn
          | none => exact (N₇ _ (List.mem_cons_of_mem _ (List.mem_cons_of_mem _ (List.mem_append_left _ (mem_ownOf hb hn e))))).1
        refine append_at (hsz := by show ys.toArray.size ≤ sizeLine; rw [List.size_toArray, hyl]; exact Nat.le_trans hi hsz) zD fun h₈ hs₈ hD₈ => ?_
        refine ⟨n + 1 - (i + 1), by omega, h₈, tk₇, i + 1, ys ++ [y], _, rfl, hlt, rfl, by rw [List.length_append, List.length_singleton, hyl], W.frame _ _ _ hst₇ fun b hb o e => hs₈.extBut b o (fun q => hDf (q ▸ hb)) e, F₇.change hs₈ hDL hD₀,
          (hoC.ns zC).sameBut hs₈ (Ne.symm hDC), fun p hp => ?_, fun j z hj => ?_⟩
        · rcases List.mem_cons.mp hp with rfl | hp
          · exact ⟨hD₈.trans (congrArg some (lst_snoc ys y)), hDL, hD₀⟩
          · have z := N₇ p (List.mem_cons_of_mem _ (List.mem_cons_of_mem _ (List.mem_append_right _ hp)))
            exact ⟨hs₈.extBut _ _ (offN p hp).2 z.1, z.2⟩
        · by_cases hjl : j < ys.length
          · rw [List.getElem?_append_left hjl] at hj
            exact hG j z hj
          · have hj' : j = i := by
              have := (List.getElem?_eq_some_iff.mp hj).1
              rw [List.length_append, List.length_singleton] at this
              omega
            subst hj'
            rw [List.getElem?_append_right (by omega), hyl, Nat.sub_self] at hj
            have : y = z := by simpa using hj
            exact this ▸ hGy
      · obtain rfl : i = n := Nat.le_antisymm hi (Nat.not_lt.mp hlt)
        refine W.done _ _ _ hst' fun h₂ tk₂ hk₂ => ?_
        exact hRR _ _ h₂ tk₂ _ ys (stepFr hk₂ F') (stepNews hk₂ offw N') (hn'.at' fun o e => hk₂ _ o hCw e) hC₀ hD₀ hCL hDL (Ne.symm hDC) (fun p hp => (offN p hp).1) hyl hG
    · rcases List.mem_cons.mp hp with rfl | hp
      · exact ⟨hacc, hDL, hD₀⟩
      · exact ⟨old _ _ (N p hp).1, (N p hp).2⟩
  exact codeAny_compStart_list (loop _ rfl) (W.self 0 _ _ _ hst₁ (loop _ rfl))

def FinT (h₀ : Heap) (L : Addr) (m : Str → Option Value) (s : Shared) (y : Str) (n : Nat) (G : Nat → Value → Prop) (Q : Flow → Shared → Prop) (news : List (Addr × Obj)) : Prop :=
  ∀ D h tk ys, Fr h₀ L h (fun z => if z = y then some (.ref D) else m z) → News h₀ L h ((D, lst ys) :: news) → ys.length = n → (∀ i v, ys[i]? = some v → G i v) → Q .next { s with heap := h, toks := tk }
def EnP2 (items : Array Value) (i : Nat) (v₁ v₂ : Value) : Prop := (∃ t, v₁ = .int i t) ∧ items[i]? = some v₂
def SrcEn (prog : Program) (w : World) (A : Around) (h₀ : Heap) (L : Addr) (m : Str → Option Value) (env : Env) (elt : Expr) (x x₂ y : Str) (scope : Scope) (cl : List (Str × Addr)) (Q : Flow → Shared → Prop) (xv : Value) (s₁ : Shared) : Prop :=
  ∃ e it l items news G, xv = .ref e ∧ A.handled = none ∧ IsEnum s₁.heap e it 0 .none ∧ s₁.heap.IsListIter it l 0 ∧ s₁.heap.IsList l items ∧ e ≠ it ∧ e ≠ l ∧ l ≠ it ∧ L ≠ e ∧ L ≠ it ∧ L ≠ l ∧
    h₀.get? e = none ∧ h₀.get? it = none ∧ (∀ p ∈ news, p.1 ≠ e ∧ p.1 ≠ it) ∧ items.size ≤ sizeLine ∧ Fr h₀ L s₁.heap m ∧ News h₀ L s₁.heap news ∧
    (∀ g, TurnT prog w A h₀ L m env elt x x₂ scope cl { s₁ with heap := g } [e, it, l] items.size (EnP2 items) G news) ∧ FinT h₀ L m s₁ y items.size G Q news

theorem call_en {elt : Expr} {x x₂ y : Str} {scope : Scope} {cl : List (Str × Addr)} {Q : Flow → Shared → Prop} {l : Addr} {items : Array Value} {k : Nat} {news : List (Addr × Obj)} (G : Nat → Value → Prop) (hh : A.handled = none)
    (F : Fr h₀ L s.heap m) (N : News h₀ L s.heap news) (hm : (l, PySem.W.listOf items k) ∈ news) (hsz : items.size ≤ sizeLine)
    (turn : ∀ g e it, TurnT prog w A h₀ L m env elt x x₂ scope cl { s with heap := g } [e, it, l] items.size (EnP2 items) G news)
    (fin : ∀ g, FinT h₀ L m { s with heap := g } y items.size G Q news) :
    wpAny (model prog w) A (call (.type "enumerate") [.ref l]) (SrcEn prog w A h₀ L m env elt x x₂ y scope cl Q) E s := by
  have hls : s.heap.IsList l items := N.isList hm
  have hlt : l < s.heap.objs.size := Heap.lt_size (N _ hm).1
  have hLs : L < s.heap.objs.size := F.ns.lt
  have hab : h₀.objs.size ≤ L := F.above
  refine call_enumerate_list hls fun h' he hit hsz' hk => ?_
  have F' : Fr h₀ L h' m := ⟨F.ns.keeps hk, fun b o e => hk b o (F.keep b o e), F.above⟩
  have N' : News h₀ L h' news := fun p hp => ⟨hk _ _ (N p hp).1, (N p hp).2⟩
  refine ⟨_, _, l, items, news, G, rfl, hh, he, hit, hls.at fun o e => hk l o e, Nat.succ_ne_self _, Nat.ne_of_gt (Nat.lt_succ_of_lt hlt), Nat.ne_of_lt hlt, Nat.ne_of_lt (Nat.lt_succ_of_lt hLs), Nat.ne_of_lt hLs, Ne.symm (N _ hm).2.1,
    Heap.get?_none_of_le (Nat.le_trans hab (Nat.le_of_lt (Nat.lt_succ_of_lt hLs))), Heap.get?_none_of_le (Nat.le_trans hab (Nat.le_of_lt hLs)), fun p hp => ?_, hsz, F', N', fun g => turn g _ _, fin _⟩
  have hq1 : p.1 < s.heap.objs.size := Heap.lt_size (N p hp).1
  exact ⟨Nat.ne_of_lt (Nat.lt_succ_of_lt hq1), Nat.ne_of_lt hq1⟩

theorem Assign_En {elt iter : Expr} {x x₂ y : Str} {px px₂ tp py : Pos} {tk} {scope : Scope} {cl : List (Str × Addr)} {pos spos : Pos} {Q : Flow → Shared → Prop} (F₀ : Fr h₀ L s.heap m) (hLe : env.locals = L)
    (hsw : swapsWith (.ListComp elt [⟨.Tuple [.Name x px, .Name x₂ px₂] tk tp, iter, [], 0⟩] scope pos) (some (.Name y py)) spos.line env = pure true)
    (hclos : closureFor scope env = pure cl) (hcell : ∀ z ∈ scope.names, z.2 ≠ .cell) (hkind : scope.kind = .function)
    (hnames : ∀ z ∈ scope.names, z.2 = .local → scope.names.lookup z.1 = some .local) (hx : scope.names.lookup x = some .local) (hx₂ : scope.names.lookup x₂ = some .local) (hxx : x ≠ x₂)
    (hy : env.kindOf y = some .local) (hp : (env.scope.kind == .class || (env.scope.kind == .module && env.locals != env.globals)) = false)
    (h : wpAny (model prog w) A (eval iter env) (SrcEn prog w A h₀ L m env elt x x₂ y scope cl Q) E s)
    (hs : ∀ x, foldedSetIterable iter env x = pure x := by intro _; rfl) :
    wpAny (model prog w) A (exec (.Assign [.Name y py] (.ListComp elt [⟨.Tuple [.Name x px, .Name x₂ px₂] tk tp, iter, [], 0⟩] scope pos) spos) env) Q E s := by
  subst hLe
  rw [exec_Assign_Name_used _ _ _ _ hsw]
  refine wpAny_bind (wpAny_standAt (wpAny_bind ?_))
  show wpAny _ A (do let _ ← comprehension (.ListComp elt [⟨.Tuple [.Name x px, .Name x₂ px₂] tk tp, iter, [], 0⟩] scope pos) scope env _ (newList []) false (eval iter env) (some (assign (.Name y py) env))) _ _ s
  refine wpAny_bind (wpAny_mono (wpAny_comprehension_free (use := some (assign (.Name y py) env)) (Q := fun _ s' => Q .next s') rfl hs hclos hkind hnames
    (wpAny_mono h (fun xv s₁ h₁ => ?_) fun _ _ e => e)) (fun _ s' hq => wpAny_pure (wpAny_pure hq)) fun _ _ e => e)
  obtain ⟨e, it, l, items, news, G, rfl, hh, he, hit, hl, hei, hel, hli, hLe, hLi, hLl, h0e, h0i, off, hsz, F, N, turn, fin⟩ := h₁
  have hlte : e < s₁.heap.objs.size := Heap.lt_size he
  have hlti : it < s₁.heap.objs.size := by obtain ⟨_, y, _⟩ := hit; exact Heap.lt_size y
  have hltl : l < s₁.heap.objs.size := by obtain ⟨_, y, _⟩ := hl; exact Heap.lt_size y
  refine wpAny_pyIter_enum he ?_
  refine block_T (WalksT.enumerateD (Draws.list (A := A.in1) hh it l hli items) e hei (by simp [hei, hel]) (by simp)) (P2 := EnP2 items) (G := G) ?_ hsz hcell hkind hx hx₂ hxx hh ⟨⟨_, by simpa using he⟩, hit, hl⟩ ?_ F N ?_ ?_ ?_ (turn s₁.heap) ?_
  · rintro i vals ⟨t, x, hPx, rfl⟩
    exact ⟨_, _, rfl, ⟨t, rfl⟩, hPx⟩
  · intro b hb
    simp only [List.mem_cons, List.not_mem_nil, or_false] at hb
    rcases hb with rfl | rfl | rfl <;> assumption
  · simp [hLe, hLi, hLl]
  · intro b hb
    simp only [List.mem_cons, List.not_mem_nil, or_false] at hb
    rcases hb with rfl | rfl <;> assumption
  · intro p hp hb
    simp only [List.mem_cons, List.not_mem_nil, or_false] at hb
    rcases hb with hb | hb
    · exact (off p hp).1 hb
    · exact (off p hp).2 hb
  · intro D C h' tk m' ys F' N' hn hC₀ hD₀ hCL hDL hCD offC hlen hG
    show wpAny _ A (assign (.Name y py) env (.ref D)) _ _ _
    refine wpAny_assign_Name (wpAny_storeName_local hy F'.ns (fun h₂ hn₂ hs₂ => ?_) hp)
    have hL₀ : h₀.get? env.locals = none := Heap.get?_none_of_le F'.above
    have F₂ : Fr h₀ env.locals h₂ (fun z => if z = y then some (.ref D) else m z) := ⟨hn₂, fun b o e => hs₂.extBut b o (fun q => by rw [q, hL₀] at e; cases e) (F'.keep b o e), F'.above⟩
    refine ⟨m', hn.sameBut hs₂ hCL, fun h'' hs'' => fin D h'' _ ys (F₂.change hs'' hCL hC₀) (fun p hp => ?_) hlen hG⟩
    have z : h₂.get? p.1 = some p.2 := hs₂.extBut _ _ (N' p hp).2.1 (N' p hp).1
    refine ⟨hs''.extBut _ _ ?_ z, (N' p hp).2⟩
    rcases List.mem_cons.mp hp with rfl | hp
    · exact Ne.symm hCD
    · exact offC p hp
end
end
end Mine

namespace Mine
section
open PySem PySem.W PyProof.Rows PySem.Spec PySem.Calls
theorem pickNums_mem {ns : List Int} {lo hi st : Option Int} : ∀ x ∈ pickNums ns lo hi st, x ∈ ns := by
  intro x hx
  unfold pickNums at hx
  obtain ⟨j, _, e⟩ := List.mem_filterMap.mp hx
  exact List.mem_of_getElem? e
theorem step_ints {prog : Program} {w : World} {A : Around} {E : Value → Shared → Prop} {s : Shared} {h₀ : Heap} {L l : Addr} {m : Str → Option Value} {news : List (Addr × Obj)} {value slice : PySem.Expr} {vs : List Value} {ns : List Int} {n : Nat} {vl vu vk : Value} {lo hi st : Option Int} {ops : List Value} {Q : Value → Shared → Prop}
    (F : Fr h₀ L s.heap m) (N : News h₀ L s.heap news) (hl : (l, listOf vs.toArray n) ∈ news) (hi' : IntsAre vs ns) (hlen : ns.length ≤ 60) (pl : IsPart vl lo) (pu : IsPart vu hi) (pk : IsPart vk st) (h0 : st ≠ some 0)
    (h : ∀ D ws ms h', Fr h₀ L h' m → News h₀ L h' ((D, listOf (List.toArray ws) 0) :: news) → IntsAre ws ms → ms.length ≤ ns.length → (∀ x ∈ ms, x ∈ ns) → Q (.ref D) { s with heap := h' })
    (hs : subscripted slice false (.ref l) (.ref s.heap.objs.size) = operate ops (getItem (.ref l) (.ref s.heap.objs.size))) (ht : ∀ r, letTemporaryGo value (.ref l) r = pure ()) :
    wpAny (model prog w) A (subscriptTail value slice (.ref l) (.ref s.heap.objs.size)) Q E { s with heap := s.heap.push { cls := .type "slice", data := .fields #[vl, vu, vk] } } := by
  refine slice_list3 F N (News.isList N hl) pl pu pk h0 (fun h' F' N' => h _ (slicePick vs.toArray lo hi st).toList (pickNums ns lo hi st) h' F' ?_ (hi'.pick lo hi st) (length_pickNums_le hi' lo hi st) pickNums_mem) hs ht (by rw [List.size_toArray, hi'.length, sizeLine_eq]; omega)
  rw [Array.toArray_toList]
  exact N'
theorem sum_bd {c : Int} : ∀ {ms : List Int} {k : Nat}, (∀ x ∈ ms, -c ≤ x ∧ x ≤ c) → ms.length ≤ k → 0 ≤ c → -(c * k) ≤ ms.sum ∧ ms.sum ≤ c * k
  | [], k, _, _, hc => by
    have : 0 ≤ c * (k : Int) := Int.mul_nonneg hc (by omega)
    simp; omega
  | x :: r, 0, _, h, _ => by simp at h
  | x :: r, k + 1, h, hl, hc => by
    have ih := sum_bd (ms := r) (k := k) (fun y hy => h y (List.mem_cons_of_mem _ hy)) (by simpa using hl) hc
    have hx := h x List.mem_cons_self
    rw [List.sum_cons]
    have e : c * ((k + 1 : Nat) : Int) = c * k + c := by push_cast; rw [Int.mul_add, Int.mul_one]
    rw [e]
    omega
end
end Mine

namespace Mine
section
open PySem PySem.W PyProof.Rows PySem.Spec PySem.Calls
set_option maxRecDepth 100000
set_option maxHeartbeats 20000000
local macro_rules | `(tactic| tb_rel) => `(tactic| first | (k_unfold; (try dsimp only)) | (k_end; wrow_close) | walk1 | (dsimp only; walk1) | (leave1; walk_say "STEP leave1"; try dsimp only) | fail "no step")
noncomputable def lawFd (P : Params) : FuncData := match (KF P).lookup 111 with | some ⟨_, _, .func fd, _⟩ => fd | _ => default
noncomputable def lawBody (P : Params) : List Stmt := match (lawFd P).body with | .stmts b => b | _ => []
noncomputable abbrev lawEnv (P : Params) (L a : Addr) (cd : Value) : Env := envOfC (Str.ofString "law") (lawFd P).scope L a cd
theorem lit {prog : Program} {w : World} {Q : Flow → Shared → Prop} {E : Value → Shared → Prop} {s : Shared} {b : List Stmt} {sc : Scope} {st : Stmt} {r : List Stmt} {q : Str} {L a : Addr} {cd : Value} {fs : Scope}
  (e1 : b = st :: r) (e2 : fs = sc) (h : wpAny (model prog w) (callerA.deeper (envOfC q sc L a cd)) (execs (st :: r) (envOfC q sc L a cd)) Q E s) : wpAny (model prog w) (callerA.deeper (envOfC q fs L a cd)) (execs b (envOfC q fs L a cd)) Q E s := by subst e1 e2; exact h
local macro_rules | `(tactic| walk_at "subscriptTail Name Slice ref ref") => `(tactic| ((rename Fr _ _ _ _ => fE'); (rename News _ _ _ _ => nE'); (refine' step_ints (n := ?nn) (vs := ?vv) (ns := ?ns) fE' nE' ?l ?i ?z ?p ?q ?k ?o ?_ ?s ?t); (case l => kcf_m); (case i => assumption); (case z => omega); (case p => kmk_part); (case q => kmk_part); (case k => kmk_part); (case o => decide); (case s => with_unfolding_all rfl); (case t => kmk_pure); intro D' ws' ms' h' F' N' hI' hL' hM'))
local macro_rules | `(tactic| walk_at "call builtin:sum") => `(tactic| ((rename Fr _ _ _ _ => fE'); (rename News _ _ _ _ => nE'); (refine sumK (by with_unfolding_all rfl) fE' nE' (News.isList nE' (by kcf_m)) (by assumption) ?_); intro h' tk' t' F' N'))
theorem lit2 {prog : Program} {w : World} {Q : Flow → Shared → Prop} {E : Value → Shared → Prop} {s : Shared} {b r : List Stmt} {q : Str} {L a : Addr} {cd : Value} {fs : FuncData} 
  (e1 : b = r) (h : wpAny (model prog w) (callerA.deeper (envOfC q fs.scope L a cd)) (execs b (envOfC q fs.scope L a cd)) Q E s) : wpAny (model prog w) (callerA.deeper (envOfC q fs.scope L a cd)) (execs r (envOfC q fs.scope L a cd)) Q E s := by subst e1; exact h
theorem md3 (x : Int) : 1 ≤ 1 + Int.fmod x 3 ∧ 1 + Int.fmod x 3 ≤ 3 := by
  have h1 := Int.fmod_nonneg_of_pos x (show (0 : Int) < 3 by decide)
  have h2 := Int.fmod_lt_of_pos x (show (0 : Int) < 3 by decide)
  omega
theorem three {ys : List Value} (hl : ys.length = 3) (hG : ∀ (i : Nat) (v : Value), ys[i]? = some v → ∃ x t, v = Value.int x t ∧ 1 ≤ x ∧ x ≤ 3) : ∃ v1 v2 v3 t1 t2 t3, ys = [.int v1 t1, .int v2 t2, .int v3 t3] ∧ (1 ≤ v1 ∧ v1 ≤ 3) ∧ (1 ≤ v2 ∧ v2 ≤ 3) ∧ (1 ≤ v3 ∧ v3 ≤ 3) := by
  match ys, hl with
  | [a, b, c], _ =>
    obtain ⟨x1, t1, rfl, h1⟩ := hG 0 a rfl
    obtain ⟨x2, t2, rfl, h2⟩ := hG 1 b rfl
    obtain ⟨x3, t3, rfl, h3⟩ := hG 2 c rfl
    exact ⟨_, _, _, _, _, _, rfl, h1, h2, h3⟩
theorem law1 (trig : PySem.Challenge.rw_xg0044_01 = PySem.Challenge.rw_xg0044_01) (w : World) (mean : ExcName → Option Value) (mg mb : Str → Option Value) (a : Addr) (cd : Value) (h₀ : Heap) (L : Addr) (s : Shared) (m : Str → Option Value) (Q : Flow → Shared → Prop) (E : Value → Shared → Prop)
    (B : Below callerA h₀ [] h₀) (F : Fr h₀ L s.heap m) (X : (KF w.params).In h₀)
    (o1 o2 o3 o4 o5 : Obj) (vc : Addr) (d1 : o1.data = .cell (some (.ref vc)))
    (cvs : List Value) (cs : List Int) (nc : Nat) (hcs : IntsAre cvs cs) (hcl : cs.length ≤ 60)
    (N : News h₀ L s.heap [(vc, listOf cvs.toArray nc), (L + 1 + 1 + 1 + 1 + 1, o5), (L + 1 + 1 + 1 + 1, o4), (L + 1 + 1 + 1, o3), (L + 1 + 1, o2), (L + 1, o1)])
    (T : Top VW LO mean mg mb h₀)
    (ret : ∀ (D : Addr) (v1 v2 v3 : Int) (t1 t2 t3 : Tok) (n : Nat) (h : Heap) (tk : Nat), (1 ≤ v1 ∧ v1 ≤ 3) → (1 ≤ v2 ∧ v2 ≤ 3) → (1 ≤ v3 ∧ v3 ≤ 3) → Fr h₀ L h (fun z => if z = Str.ofString "sizes" then some (.ref D) else m z) →
      News h₀ L h [(D, listOf #[.int v1 t1, .int v2 t2, .int v3 t3] n), (vc, listOf cvs.toArray nc), (L + 1 + 1 + 1 + 1 + 1, o5), (L + 1 + 1 + 1 + 1, o4), (L + 1 + 1 + 1, o3), (L + 1 + 1, o2), (L + 1, o1)] →
      wpAny (model PG w) (callerA.deeper (lawEnv w.params L a cd)) (execs ((lawBody w.params).drop 2) (lawEnv w.params L a cd)) Q E { s with heap := h, toks := tk }) :
    wpAny (model PG w) (callerA.deeper (lawEnv w.params L a cd)) (execs ((lawBody w.params).drop 1) (lawEnv w.params L a cd)) Q E s := by
  have : PySem.Challenge.rw_xg0044_01 = PySem.Challenge.rw_xg0044_01 ∧ (KF w.params).In h₀ := ⟨rfl, X⟩
  revert this
  w_top off
  k_with_none
  k_fill
  intro _
  clear trig
  refine lit (by with_unfolding_all rfl) (by with_unfolding_all rfl) ?_
  tb_rel
  refine Assign_En (F₀ := F) (by rfl) (by with_unfolding_all rfl) (by with_unfolding_all rfl) (by decide) (by rfl) (by decide) (by rfl) (by rfl) (by decide) (by rfl) (by rfl) ?_
  iterate 14 tb_rel
  (rename News _ _ _ _ => nE)
  (rename Fr _ _ _ _ => fE)
  refine call_en (fun i v => ∃ x t, v = .int x t ∧ 1 ≤ x ∧ x ≤ 3) rfl fE nE List.mem_cons_self (Nat.le_of_ble_eq_true rfl) ?turn ?fin
  case turn =>
    intro g e it i v1 v2 C oC D m2 ys h tk own E' hi hP hC hx hy hF hN
    obtain ⟨⟨tj, rfl⟩, hv⟩ := hP
    have hv2 : ∃ c t, v2 = .int c t := by
      rcases i with _ | _ | _ | i
      · exact ⟨_, _, (Option.some.inj hv).symm⟩
      · exact ⟨_, _, (Option.some.inj hv).symm⟩
      · exact ⟨_, _, (Option.some.inj hv).symm⟩
      · cases hv
    obtain ⟨c, t2, rfl⟩ := hv2
    clear hv hi
    (try simp only [List.nil_append, List.cons_append] at hN)
    clear fE nE
    (try k_fold)
    iterate 10 tb_rel
    refine kcf_cell hN (by rfl) (by kcf_m) d1 ?_
    iterate 14 tb_rel
    refine ⟨by assumption, by first | assumption | (intro p hp; (rename News _ _ _ _ => nE''); exact nE'' p (List.mem_cons_of_mem _ hp)), _, _, rfl, md3 _⟩
  case fin =>
    intro g D h tk ys F' N' hl hG
    obtain ⟨v1, v2, v3, t1, t2, t3, rfl, b1, b2, b3⟩ := three hl hG
    refine lit2 (by with_unfolding_all rfl) (ret D v1 v2 v3 t1 t2 t3 3 h tk b1 b2 b3 F' ?_)
    exact cb_drop N' (by first | kst_in | (intro p hp; kst_mem) | kcf_all)
end
end Mine

namespace Mine
section
open PySem PySem.W PyProof.Rows PySem.Spec PySem.Calls
set_option maxRecDepth 100000
set_option maxHeartbeats 20000000
local macro_rules | `(tactic| tb_rel) => `(tactic| first | (k_unfold; (try dsimp only)) | (k_end; wrow_close) | walk1 | (dsimp only; walk1) | (leave1; walk_say "STEP leave1"; try dsimp only) | fail "no step")
local macro_rules | `(tactic| walk_at "call builtin:sum") => `(tactic| ((rename Fr _ _ _ _ => fE'); (rename News _ _ _ _ => nE'); (refine sumK (by with_unfolding_all rfl) fE' nE' (News.isList nE' (by kcf_m)) (by assumption) ?_); intro h' tk' t' F' N'))
theorem ne_cell {h₀ h : Heap} {L : Addr} {news : List (Addr × Obj)} {p : Addr × Obj} {c : Addr} {o : Obj} {v : Option Value} (N : News h₀ L h news) (hp : p ∈ news) (hc : (c, o) ∈ news) (hd : o.data = Data.cell v) (hx : (match p.2.data with | .cell _ => true | _ => false) = false) : p.1 ≠ c := by
  intro e
  have h1 := (N p hp).1
  have h2 := (N _ hc).1
  rw [e] at h1
  have h3 : p.2 = o := Option.some.inj (h1.symm.trans h2)
  rw [h3, hd] at hx
  cases hx
local macro_rules | `(tactic| tb_start) => `(tactic| ((rename Fr _ _ _ _ => fE'); (rename News _ _ _ _ => nE'); (refine' storeX_C fE' nE' ?c ?U ?d ?_ ?a ?b); (case c => rfl); (case a => rfl); (case b => rfl); (case U => repeat' (first | apply UpdF.head | apply UpdF.tail | exact List.forall_mem_nil _ | refine List.forall_mem_cons.mpr ⟨?_, ?_⟩ | (refine ne_cell nE' (by kcf_m) (by kcf_m) (by assumption) rfl; done) | (refine neN ?_; (try dsimp only); omega))); (case d => assumption); intro h' o' F' N' d'; (try dsimp only at N'); clear fE' nE'))
theorem mem3 {v1 v2 v3 : Int} (b1 : 1 ≤ v1 ∧ v1 ≤ 3) (b2 : 1 ≤ v2 ∧ v2 ≤ 3) (b3 : 1 ≤ v3 ∧ v3 ≤ 3) : ∀ x ∈ [v1, v2, v3], 1 ≤ x ∧ x ≤ 3 := by
  intro x hx
  simp only [List.mem_cons, List.not_mem_nil, or_false] at hx
  rcases hx with rfl | rfl | rfl <;> assumption
theorem mem6 {v1 v2 v3 : Int} (b1 : 1 ≤ v1 ∧ v1 ≤ 3) (b2 : 1 ≤ v2 ∧ v2 ≤ 3) (b3 : 1 ≤ v3 ∧ v3 ≤ 3) : ∀ x ∈ [v1, v2, v3, v3, v3, v3], 1 ≤ x ∧ x ≤ 3 := by
  intro x hx
  simp only [List.mem_cons, List.not_mem_nil, or_false] at hx
  rcases hx with rfl | rfl | rfl | rfl | rfl | rfl <;> assumption
theorem law2 (trig : PySem.Challenge.rw_xg0044_01 = PySem.Challenge.rw_xg0044_01) (w : World) (mean : ExcName → Option Value) (mg mb : Str → Option Value) (a : Addr) (cd : Value) (h₀ : Heap) (L : Addr) (s : Shared) (m : Str → Option Value) (Q : Flow → Shared → Prop) (E : Value → Shared → Prop)
    (B : Below callerA h₀ [] h₀) (Y : (KF w.params).In h₀)
    (o1 o2 o3 o4 o5 : Obj) (vc : Addr) (d1 : o1.data = Data.cell (some (.ref vc))) (d2 : o2.data = Data.cell none) (d3 : o3.data = Data.cell none) (d4 : o4.data = Data.cell none) (d5 : o5.data = Data.cell none)
    (cvs : List Value) (cs : List Int) (nc : Nat) (hcs : IntsAre cvs cs) (hcl : cs.length ≤ 60)
    (D : Addr) (v1 v2 v3 : Int) (t1 t2 t3 : Tok) (n : Nat) (b1 : 1 ≤ v1 ∧ v1 ≤ 3) (b2 : 1 ≤ v2 ∧ v2 ≤ 3) (b3 : 1 ≤ v3 ∧ v3 ≤ 3) (F : Fr h₀ L s.heap (fun z => if z = Str.ofString "sizes" then some (.ref D) else m z))
    (N : News h₀ L s.heap [(D, listOf #[.int v1 t1, .int v2 t2, .int v3 t3] n), (vc, listOf cvs.toArray nc), (L + 1 + 1 + 1 + 1 + 1, o5), (L + 1 + 1 + 1 + 1, o4), (L + 1 + 1 + 1, o3), (L + 1 + 1, o2), (L + 1, o1)])
    (T : Top VW LO mean mg mb h₀) (hg : s.gens = #[])
    (ret : ∀ (r : Addr) (tvs : List Value) (ws : List Int) (nt : Nat) (o2' : Obj) (h : Heap) (tk : Nat) (gens : Array GenState) (m' : Str → Option Value), IntsAre tvs ws → (ws.length = 3 ∨ ws.length = 6) → (∀ x ∈ ws, 1 ≤ x ∧ x ≤ 3) → o2'.data = Data.cell (some (.ref r)) → Fr h₀ L h m' →
      News h₀ L h [(r, listOf tvs.toArray nt), (vc, listOf cvs.toArray nc), (L + 1 + 1 + 1 + 1 + 1, o5), (L + 1 + 1 + 1 + 1, o4), (L + 1 + 1 + 1, o3), (L + 1 + 1, o2'), (L + 1, o1)] → AllBare gens →
      wpAny (model PG w) (callerA.deeper (lawEnv w.params L a cd)) (execs ((lawBody w.params).drop 5) (lawEnv w.params L a cd)) Q E { s with heap := h, toks := tk, gens := gens })
    : wpAny (model PG w) (callerA.deeper (lawEnv w.params L a cd)) (execs ((lawBody w.params).drop 2) (lawEnv w.params L a cd)) Q E s := by
  have : PySem.Challenge.rw_xg0044_01 = PySem.Challenge.rw_xg0044_01 ∧ (KF w.params).In h₀ := ⟨rfl, Y⟩
  revert this
  w_top off
  k_with_none
  k_fill
  intro ⟨_, Y2⟩
  clear trig
  refine lit (by with_unfolding_all rfl) (by with_unfolding_all rfl) ?_
  iterate 18 tb_rel
  have hw : Int.fmod cs.sum 4 = 0 ∨ Int.fmod cs.sum 4 = 1 ∨ Int.fmod cs.sum 4 = 2 ∨ Int.fmod cs.sum 4 = 3 := by
    have h1 := Int.fmod_nonneg_of_pos cs.sum (show (0 : Int) < 4 by decide)
    have h2 := Int.fmod_lt_of_pos cs.sum (show (0 : Int) < 4 by decide)
    omega
  generalize Int.fmod cs.sum 4 = way at *
  rcases hw with hw | hw | hw | hw
  all_goals (subst hw)
  all_goals (iterate 6 tb_rel)
  all_goals (rename Fr _ _ _ _ => fE)
  all_goals (rename News _ _ _ _ => nE)
  · refine ⟨fun b o e => fE.keep b o (Y b o e), ?_⟩
    refine' sizes0 rfl w mean mg mb _ _ _ _ _ _ _ _ callerA h₀ h₀ L _ _ ⟨_, _, _, _, _⟩ _ _ B ?sF Y D v1 v2 v3 t1 t2 t3 _ n ?sN T ?shk b1 b2 b3 ?sg ?_
    case shk => with_unfolding_all rfl
    case sF => exact fE
    case sN => exact nE
    case sg => exact hg
    intro r n' h' tk' gens' F' N' hb
    clear fE nE
    tb_start
    iterate 36 tb_rel
    all_goals (try (rename ¬ (_ : List Int) = _ => hne; exact absurd rfl hne))
    iterate 2 tb_rel
    (rename Fr _ _ _ _ => fE)
    (rename News _ _ _ _ => nE)
    refine lit2 (by with_unfolding_all rfl) (ret r [.int v1 t1, .int v2 t2, .int v3 t3, .int v3 t3, .int v3 t3, .int v3 t3] [v1, v2, v3, v3, v3, v3] n' _ _ _ gens' _ (by repeat' constructor) (by simp) (mem6 b1 b2 b3) (by assumption) fE ?_ hb)
    exact cb_drop nE (by kcf_all)
  · refine ⟨fun b o e => fE.keep b o (Y b o e), ?_⟩
    refine' sizes1 rfl w mean mg mb _ _ _ _ _ _ _ _ callerA h₀ h₀ L _ _ ⟨_, _, _, _, _⟩ _ _ B ?sF Y D v1 v2 v3 t1 t2 t3 _ n ?sN T ?shk b1 b2 b3 ?sg ?_
    case shk => with_unfolding_all rfl
    case sF => exact fE
    case sN => exact nE
    case sg => exact hg
    intro r n' h' tk' gens' F' N' hb
    clear fE nE
    tb_start
    iterate 22 tb_rel
    all_goals (try (rename ¬ (_ : List Int) = _ => hne; exact absurd rfl hne))
    iterate 2 tb_rel
    (rename Fr _ _ _ _ => fE)
    (rename News _ _ _ _ => nE)
    refine lit2 (by with_unfolding_all rfl) (ret r [.int v1 t1, .int v2 t2, .int v3 t3] [v1, v2, v3] n' _ _ _ gens' _ (by repeat' constructor) (by simp) (mem3 b1 b2 b3) (by assumption) fE ?_ hb)
    exact cb_drop nE (by kcf_all)
  · refine ⟨fun b o e => fE.keep b o (Y b o e), ?_⟩
    refine' sizes2 rfl w mean mg mb _ _ _ _ _ _ _ _ callerA h₀ h₀ L _ _ ⟨_, _, _, _, _⟩ _ _ B ?sF Y D v1 v2 v3 t1 t2 t3 _ n ?sN T ?shk b1 b2 b3 ?sg ?_
    case shk => with_unfolding_all rfl
    case sF => exact fE
    case sN => exact nE
    case sg => exact hg
    intro r n' h' tk' gens' F' N' hb
    clear fE nE
    tb_start
    iterate 22 tb_rel
    all_goals (try (rename ¬ (_ : List Int) = _ => hne; exact absurd rfl hne))
    iterate 2 tb_rel
    (rename Fr _ _ _ _ => fE)
    (rename News _ _ _ _ => nE)
    refine lit2 (by with_unfolding_all rfl) (ret r [.int v1 t1, .int v2 t2, .int v3 t3] [v1, v2, v3] n' _ _ _ gens' _ (by repeat' constructor) (by simp) (mem3 b1 b2 b3) (by assumption) fE ?_ hb)
    exact cb_drop nE (by kcf_all)
  · refine ⟨fun b o e => fE.keep b o (Y b o e), ?_⟩
    refine' sizes3 rfl w mean mg mb _ _ _ _ _ _ _ _ callerA h₀ h₀ L _ _ ⟨_, _, _, _, _⟩ _ _ B ?sF Y D v1 v2 v3 t1 t2 t3 _ n ?sN T ?shk b1 b2 b3 ?sg ?_
    case shk => with_unfolding_all rfl
    case sF => exact fE
    case sN => exact nE
    case sg => exact hg
    intro r n' h' tk' gens' F' N' hb
    clear fE nE
    tb_start
    iterate 36 tb_rel
    all_goals (try (rename ¬ (_ : List Int) = _ => hne; exact absurd rfl hne))
    iterate 2 tb_rel
    (rename Fr _ _ _ _ => fE)
    (rename News _ _ _ _ => nE)
    refine lit2 (by with_unfolding_all rfl) (ret r [.int v1 t1, .int v2 t2, .int v3 t3, .int v3 t3, .int v3 t3, .int v3 t3] [v1, v2, v3, v3, v3, v3] n' _ _ _ gens' _ (by repeat' constructor) (by simp) (mem6 b1 b2 b3) (by assumption) fE ?_ hb)
    exact cb_drop nE (by kcf_all)
end
end Mine

namespace Mine
section
open PySem PySem.W PyProof.Rows PySem.Spec PySem.Calls
set_option maxRecDepth 100000
set_option maxHeartbeats 20000000
local macro_rules | `(tactic| tb_rel) => `(tactic| first | (k_unfold; (try dsimp only)) | (k_end; wrow_close) | walk1 | (dsimp only; walk1) | (leave1; walk_say "STEP leave1"; try dsimp only) | fail "no step")
local macro_rules | `(tactic| walk_at "subscriptTail Name Slice ref ref") => `(tactic| ((rename Fr _ _ _ _ => fE'); (rename News _ _ _ _ => nE'); (refine' step_ints (n := ?nn) (vs := ?vv) (ns := ?ns) fE' nE' ?l ?i ?z ?p ?q ?k ?o ?_ ?s ?t); (case l => kcf_m); (case i => assumption); (case z => omega); (case p => kmk_part); (case q => kmk_part); (case k => kmk_part); (case o => decide); (case s => with_unfolding_all rfl); (case t => kmk_pure); intro D' ws' ms' h' F' N' hI' hL' hM'))
local macro_rules | `(tactic| walk_at "call builtin:sum") => `(tactic| ((rename Fr _ _ _ _ => fE'); (rename News _ _ _ _ => nE'); (refine sumK (by with_unfolding_all rfl) fE' nE' (News.isList nE' (by kcf_m)) (by assumption) ?_); intro h' tk' t' F' N'))
local macro_rules | `(tactic| tb_start) => `(tactic| ((rename Fr _ _ _ _ => fE'); (rename News _ _ _ _ => nE'); (refine' storeX_C fE' nE' ?c ?U ?d ?_ ?a ?b); (case c => rfl); (case a => rfl); (case b => rfl); (case U => repeat' (first | apply UpdF.head | apply UpdF.tail | exact List.forall_mem_nil _ | refine List.forall_mem_cons.mpr ⟨?_, ?_⟩ | (refine ne_cell nE' (by kcf_m) (by kcf_m) (by assumption) rfl; done) | (refine neN ?_; (try dsimp only); omega))); (case d => assumption); intro h' o' F' N' d'; (try dsimp only at N'); clear fE' nE'))
@[irreducible] def sgT (code : Int) (k : Int) : Str := ⟨#[if Int.fmod (Int.fdiv code (2 ^ k.toNat)) 2 = 0 then 43 else 45]⟩
theorem it0 : Txt.item (Str.ofString "+-") 0 = ⟨#[43]⟩ := by decide +kernel
theorem it1 : Txt.item (Str.ofString "+-") 1 = ⟨#[45]⟩ := by decide +kernel
theorem sgT_eq {x : Int} (k : Int) : sgT x k = Txt.item (Str.ofString "+-") (Int.fmod (Int.fdiv x (2 ^ k.toNat)) 2) := by
  unfold sgT
  generalize Int.fdiv x (2 ^ k.toNat) = y
  have h : Int.fmod y 2 = 0 ∨ Int.fmod y 2 = 1 := by
    have h1 := Int.fmod_nonneg_of_pos y (show (0 : Int) < 2 by decide)
    have h2 := Int.fmod_lt_of_pos y (show (0 : Int) < 2 by decide)
    omega
  rcases h with h | h
  · rw [h, it0]; rfl
  · rw [h, it1]; rfl
theorem sg_cps {code : Int} {n : Nat} : (Txt.join (Str.ofString "") (List.map (sgT code) (rangeKs 0 n))).cps.toList = (List.range n).map fun j => if Int.fmod (Int.fdiv code (2 ^ j)) 2 = 0 then 43 else 45 := by
  rw [tjoin_cps, rangeKs, List.map_map, List.flatMap_map]
  induction (List.range n) with
  | nil => rfl
  | cons j l ih => rw [List.flatMap_cons, ih]; simp [sgT]
theorem sg_size {code : Int} {n : Nat} : (Txt.join (Str.ofString "") (List.map (sgT code) (rangeKs 0 n))).cps.size = n := by
  rw [← Array.length_toList, sg_cps]; simp
theorem sg_pm {code : Int} {n : Nat} : ∀ j, j < (Txt.join (Str.ofString "") (List.map (sgT code) (rangeKs 0 n))).cps.size → (Txt.join (Str.ofString "") (List.map (sgT code) (rangeKs 0 n))).cps.getD j 0 = 43 ∨ (Txt.join (Str.ofString "") (List.map (sgT code) (rangeKs 0 n))).cps.getD j 0 = 45 := by
  intro j hj
  rw [sg_size] at hj
  have e : (Txt.join (Str.ofString "") (List.map (sgT code) (rangeKs 0 n))).cps.getD j 0 = (Txt.join (Str.ofString "") (List.map (sgT code) (rangeKs 0 n))).cps.toList.getD j 0 := by
    simp [Array.getD_eq_getD_getElem?, List.getD_eq_getElem?_getD]
  rw [e, sg_cps]
  simp only [List.getD_eq_getElem?_getD, List.getElem?_map, List.getElem?_range hj, Option.map_some, Option.getD_some]
  by_cases h : Int.fmod (Int.fdiv code (2 ^ j)) 2 = 0
  · left; rw [if_pos h]
  · right; rw [if_neg h]
theorem law3 (trig : PySem.Challenge.rw_xg0044_01 = PySem.Challenge.rw_xg0044_01) (w : World) (mean : ExcName → Option Value) (mg mb : Str → Option Value) (a : Addr) (cd : Value) (h₀ : Heap) (L : Addr) (s : Shared) (m : Str → Option Value) (Q : Flow → Shared → Prop) (E : Value → Shared → Prop)
    (B : Below callerA h₀ [] h₀) (Y : (KF w.params).In h₀)
    (o1 o2 o3 o4 o5 : Obj) (vc : Addr) (d1 : o1.data = Data.cell (some (.ref vc))) (d3 : o3.data = Data.cell none) (d4 : o4.data = Data.cell none) (d5 : o5.data = Data.cell none)
    (cvs : List Value) (cs : List Int) (nc : Nat) (hcs : IntsAre cvs cs) (hcl : cs.length ≤ 60)
    (r : Addr) (tvs : List Value) (ws : List Int) (nt : Nat) (hti : IntsAre tvs ws) (htl : ws.length = 3 ∨ ws.length = 6) (hw : ∀ x ∈ ws, 1 ≤ x ∧ x ≤ 3) (d2 : o2.data = Data.cell (some (.ref r))) (F : Fr h₀ L s.heap m)
    (N : News h₀ L s.heap [(r, listOf tvs.toArray nt), (vc, listOf cvs.toArray nc), (L + 1 + 1 + 1 + 1 + 1, o5), (L + 1 + 1 + 1 + 1, o4), (L + 1 + 1 + 1, o3), (L + 1 + 1, o2), (L + 1, o1)])
    (T : Top VW LO mean mg mb h₀)
    (ret : ∀ (sg : Str) (tg : Tok) (o3' o4' : Obj) (v3 : Option Value) (h : Heap) (tk : Nat), sg.cps.size = ws.length → (∀ j, j < sg.cps.size → sg.cps.getD j 0 = 43 ∨ sg.cps.getD j 0 = 45) → o3'.data = Data.cell v3 → o4'.data = Data.cell (some (.str sg tg)) → Fr h₀ L h m →
      News h₀ L h [(r, listOf tvs.toArray nt), (vc, listOf cvs.toArray nc), (L + 1 + 1 + 1 + 1 + 1, o5), (L + 1 + 1 + 1 + 1, o4'), (L + 1 + 1 + 1, o3'), (L + 1 + 1, o2), (L + 1, o1)] →
      wpAny (model PG w) (callerA.deeper (lawEnv w.params L a cd)) (execs ((lawBody w.params).drop 7) (lawEnv w.params L a cd)) Q E { s with heap := h, toks := tk })
    : wpAny (model PG w) (callerA.deeper (lawEnv w.params L a cd)) (execs ((lawBody w.params).drop 5) (lawEnv w.params L a cd)) Q E s := by
  have : PySem.Challenge.rw_xg0044_01 = PySem.Challenge.rw_xg0044_01 ∧ (KF w.params).In h₀ := ⟨rfl, Y⟩
  revert this
  w_top off
  k_with_none
  k_fill
  intro ⟨_, Y2⟩
  clear trig
  have hlen1 := hti.length
  refine lit (by with_unfolding_all rfl) (by with_unfolding_all rfl) ?_
  iterate 20 tb_rel
  (rename List Int => ms)
  generalize 11 + ms.sum = code
  tb_start
  iterate 22 tb_rel
  refine LCg.CompSrc.range (by rfl) (by k_asm) (by k_asm) (by assumption) (small_one (by omega) (by omega) (by omega) (by omega)) (rangeSize_nat _ _) (by rw [PySem.sizeLine_eq]; omega) ?_
  intro g'
  refine' kct_range (fun k => sgT code k) (fun k' t' I' oI' C' oC' D' m' ys' h' tk' E' hlo' hhi' hC' hx' F' N' off' ne' => ?elt) ?fin
  all_goals (try ((show KPfMark → _); intro hMark'))
  all_goals (try k_fold)
  case elt =>
    clear ne'
    iterate 14 tb_rel
    refine LCg.CompEnd.intro F' N' _ (fun _ hp => hp) off' trivial ?_
    exact kct_el (sgT_eq k') rfl rfl
  case fin =>
    show ∀ ys, _ → _ → LCg.FinE _ _ _ _ _ _ _
    intro yj hc hn D hD tkD FD ND offD
    iterate 2 tb_rel
    have e7 : ((ws.length : Int) - 0).toNat = ws.length := by omega
    rw [e7]
    tb_start
    iterate 1 tb_rel
    (rename Fr _ _ _ _ => fE)
    (rename News _ _ _ _ => nE)
    refine' lit2 (by with_unfolding_all rfl) (ret _ _ _ _ _ _ _ sg_size sg_pm ?dd3 (by assumption) fE ?drp)
    case drp => exact cb_drop nE (by kcf_all)
    case dd3 => assumption
end
end Mine

namespace Mine
section
open PySem PySem.W PyProof.Rows PySem.Spec PySem.Calls
set_option maxRecDepth 100000
set_option maxHeartbeats 20000000
local macro_rules | `(tactic| walk_at "no such key 0") => `(tactic| skip)
local macro_rules | `(tactic| tb_rel) => `(tactic| first | (k_unfold; (try dsimp only)) | (k_end; wrow_close) | walk1 | (dsimp only; walk1) | (leave1; walk_say "STEP leave1"; try dsimp only) | fail "no step")
local macro_rules | `(tactic| walk_at "subscriptTail Name Slice ref ref") => `(tactic| ((rename Fr _ _ _ _ => fE'); (rename News _ _ _ _ => nE'); (refine' step_ints (n := ?nn) (vs := ?vv) (ns := ?ns) fE' nE' ?l ?i ?z ?p ?q ?k ?o ?_ ?s ?t); (case l => kcf_m); (case i => assumption); (case z => omega); (case p => kmk_part); (case q => kmk_part); (case k => kmk_part); (case o => decide); (case s => with_unfolding_all rfl); (case t => kmk_pure); intro D' ws' ms' h' F' N' hI' hL' hM'))
local macro_rules | `(tactic| walk_at "call builtin:sum") => `(tactic| ((rename Fr _ _ _ _ => fE'); (rename News _ _ _ _ => nE'); (refine sumK (by with_unfolding_all rfl) fE' nE' (News.isList nE' (by kcf_m)) (by assumption) ?_); intro h' tk' t' F' N'))
theorem sg_ascii {sg : Str} (h : ∀ j, j < sg.cps.size → sg.cps.getD j 0 = 43 ∨ sg.cps.getD j 0 = 45) : sg.cps.all (· < 128) = true := by
  rw [Array.all_eq_true]
  intro i hi
  have := h i hi
  rw [Array.getD_eq_getD_getElem?, Array.getElem?_eq_getElem hi] at this
  simp only [Option.getD_some] at this
  rcases this with h | h <;> rw [h] <;> decide
theorem partN_len {num : Int} {ws : List Int} {sg : Str} : ∀ {k : Nat}, (partN num ws sg k).1.length = k
  | 0 => rfl
  | k + 1 => by
    have ih := partN_len (num := num) (ws := ws) (sg := sg) (k := k)
    rw [partN]
    split <;> simp [ih]
theorem addN_len {g1 g2 ws : List Int} {sg : Str} : ∀ {k : Nat}, (addN g1 g2 ws sg k).1.length = k
  | 0 => rfl
  | k + 1 => by
    have ih := addN_len (g1 := g1) (g2 := g2) (ws := ws) (sg := sg) (k := k)
    rw [addN]
    simp [ih]
theorem fr_fst {h₀ h : Heap} {L p : Addr} {x : Str} {m : Str → Option Value} (F : Fr h₀ L h (fun y => if y = x then some (.ref p) else m y)) : ∃ q, q = p := ⟨p, rfl⟩
theorem fr_snd {h₀ h : Heap} {L p : Addr} {x x' : Str} {v : Option Value} {m : Str → Option Value} (F : Fr h₀ L h (fun y => if y = x' then v else if y = x then some (.ref p) else m y)) : ∃ q, q = p := ⟨p, rfl⟩
theorem ne_data {h₀ h : Heap} {L : Addr} {news : List (Addr × Obj)} {p : Addr × Obj} {c : Addr} {o : Obj} (N : News h₀ L h news) (hp : p ∈ news) (hc : (c, o) ∈ news) (hx : p.2 ≠ o) : p.1 ≠ c := by
  intro e
  have h1 := (N p hp).1
  have h2 := (N _ hc).1
  rw [e] at h1
  exact hx (Option.some.inj (h1.symm.trans h2))
theorem ints_ne {vs : List Value} {ns : List Int} {n k : Nat} {p : Addr} {v : Value} (h : IntsAre vs ns) : listOf vs.toArray n ≠ listOf #[.ref p, v] k := by
  intro e
  have e2 : vs.toArray = #[.ref p, v] := by
    have := congrArg Obj.data e
    simp only [W.listOf] at this
    injection this
  have e3 : vs = [.ref p, v] := by simpa using congrArg Array.toList e2
  subst e3
  cases h
theorem law4 (trig : PySem.Challenge.rw_xg0044_01 = PySem.Challenge.rw_xg0044_01) (w : World) (mean : ExcName → Option Value) (mg mb : Str → Option Value) (a : Addr) (cd : Value) (h₀ : Heap) (L : Addr) (s : Shared) (m : Str → Option Value) (Q : Flow → Shared → Prop) (E : Value → Shared → Prop)
    (B : Below callerA h₀ [] h₀) (Y : (KF w.params).In h₀)
    (o1 o2 o3 o4 o5 : Obj) (vc : Addr) (d1 : o1.data = Data.cell (some (.ref vc)))
    (cvs : List Value) (cs : List Int) (nc : Nat) (hcs : IntsAre cvs cs) (hcl : cs.length ≤ 60) (hcb : ∀ x ∈ cs, -1000000000 ≤ x ∧ x ≤ 1000000000)
    (r : Addr) (tvs : List Value) (ws : List Int) (nt : Nat) (hti : IntsAre tvs ws) (htl : ws.length = 3 ∨ ws.length = 6) (hw : ∀ x ∈ ws, 1 ≤ x ∧ x ≤ 3) (d2 : o2.data = Data.cell (some (.ref r)))
    (sg : Str) (tg : Tok) (hs1 : sg.cps.size = ws.length) (hs2 : ∀ j, j < sg.cps.size → sg.cps.getD j 0 = 43 ∨ sg.cps.getD j 0 = 45) (d4 : o4.data = Data.cell (some (.str sg tg))) (F : Fr h₀ L s.heap m)
    (N : News h₀ L s.heap [(r, listOf tvs.toArray nt), (vc, listOf cvs.toArray nc), (L + 1 + 1 + 1 + 1 + 1, o5), (L + 1 + 1 + 1 + 1, o4), (L + 1 + 1 + 1, o3), (L + 1 + 1, o2), (L + 1, o1)])
    (T : Top VW LO mean mg mb h₀)
    (ret : ∀ (one two : Int) (ti1 ti2 tm : Tok) (p1 p2 p3 f1 f2 f3 : Addr) (y1 y2 y3 : List Value) (t1 t2 t3 : Tok) (n1 n2 n3 n1' n2' n3' : Nat) (lp wh sh : Addr) (np : Nat) (h : Heap) (tk : Nat),
      IntsAre y1 (partN one ws sg ws.length).1 → IntsAre y2 (partN two ws sg ws.length).1 → IntsAre y3 (addN (partN one ws sg ws.length).1 (partN two ws sg ws.length).1 ws sg ws.length).1 →
      (-100000000000 ≤ one ∧ one ≤ 100000000000) → (-100000000000 ≤ two ∧ two ≤ 100000000000) → wh ≠ sh →
      Fr h₀ L h (fun z => if z = Str.ofString "shown" then some (.ref sh) else if z = Str.ofString "wholes" then some (.ref wh) else if z = Str.ofString "mask" then some (.int 0 tm) else if z = Str.ofString "parted" then some (.ref lp) else if z = Str.ofString "two" then some (.int two ti2) else if z = Str.ofString "one" then some (.int one ti1) else m z) →
      News h₀ L h [(sh, listOf #[] 0), (wh, listOf #[] 0), (p3, listOf #[.ref f3, .int ((partN one ws sg ws.length).2 + (partN two ws sg ws.length).2 + (addN (partN one ws sg ws.length).1 (partN two ws sg ws.length).1 ws sg ws.length).2) t3] n3), (f3, listOf y3.toArray n3'),
        (p2, listOf #[.ref f2, .int (partN two ws sg ws.length).2 t2] n2), (f2, listOf y2.toArray n2'), (p1, listOf #[.ref f1, .int (partN one ws sg ws.length).2 t1] n1), (f1, listOf y1.toArray n1'), (lp, listOf #[.ref p1, .ref p2, .ref p3] np),
        (r, listOf tvs.toArray nt), (L + 1 + 1 + 1 + 1 + 1, o5), (L + 1 + 1 + 1 + 1, o4), (L + 1 + 1 + 1, o3), (L + 1 + 1, o2), (L + 1, o1)] →
      wpAny (model PG w) (callerA.deeper (lawEnv w.params L a cd)) (execs ((lawBody w.params).drop 14) (lawEnv w.params L a cd)) Q E { s with heap := h, toks := tk })
    : wpAny (model PG w) (callerA.deeper (lawEnv w.params L a cd)) (execs ((lawBody w.params).drop 7) (lawEnv w.params L a cd)) Q E s := by
  have : PySem.Challenge.rw_xg0044_01 = PySem.Challenge.rw_xg0044_01 ∧ (KF w.params).In h₀ := ⟨rfl, Y⟩
  revert this
  w_top off
  k_with_none
  k_fill
  intro ⟨_, Y2⟩
  clear trig
  have hlen1 := hti.length
  refine lit (by with_unfolding_all rfl) (by with_unfolding_all rfl) ?_
  have e3 : ws.length = sg.cps.size := hs1.symm
  have hsg := sg_ascii hs2
  have hlen60 : ws.length ≤ 60 := by omega
  have hcsum := sum_bd (c := 1000000000) (k := 60) hcb hcl (by decide)
  iterate 35 tb_rel
  (rename (∀ x ∈ _, x ∈ cs) => hM')
  (rename (List.length _ ≤ cs.length) => hL')
  have hsum2 := sum_bd (c := 1000000000) (k := 60) (fun x hx => hcb x (hM' x hx)) (Nat.le_trans hL' hcl) (by decide)
  iterate 18 tb_rel
  generalize h1 : 1000 + cs.sum = one at *
  generalize h2 : -77 + List.sum _ = two at *
  (rename News _ _ _ _ => nE)
  (rename Fr _ _ _ _ => fE)
  refine' parted rfl w mean mg mb _ _ _ _ _ _ _ _ _ callerA h₀ h₀ L _ [(vc, listOf cvs.toArray nc), (L + 1 + 1 + 1 + 1 + 1, o5), (L + 1 + 1 + 1 + 1, o4), (L + 1 + 1 + 1, o3), (L + 1 + 1, o2), (L + 1, o1)] ⟨_, _, _, _, _⟩ _ _ B ?pF Y r tvs ws _ _ tg nt sg ?pN hti e3 hlen60 hsg hw T ?pk ?pd ?pu ?_
  case pF => exact fE
  case pN => exact cb_drop nE (by kcf_all)
  case pk => with_unfolding_all rfl
  case pd => exact Nat.le_of_ble_eq_true rfl
  case pu => exact Nat.le_of_ble_eq_true rfl
  clear nE fE
  intro p1 f1 y1 t1 n1 n1' h' tk' F' hy1 N'
  iterate 12 tb_rel
  (rename News _ _ _ _ => nE)
  (rename Fr _ _ _ _ => fE)
  refine' parted rfl w mean mg mb _ _ _ _ _ _ _ _ _ callerA h₀ h₀ L _ [(p1, listOf #[.ref f1, .int (partN one ws sg ws.length).2 t1] n1), (f1, listOf y1.toArray n1'), (vc, listOf cvs.toArray nc), (L + 1 + 1 + 1 + 1 + 1, o5), (L + 1 + 1 + 1 + 1, o4), (L + 1 + 1 + 1, o3), (L + 1 + 1, o2), (L + 1, o1)] ⟨_, _, _, _, _⟩ _ _ B ?pF Y r tvs ws _ _ tg nt sg ?pN hti e3 hlen60 hsg hw T ?pk ?pd ?pu ?_
  case pF => exact fE
  case pN => exact cb_drop nE (by kcf_all)
  case pk => with_unfolding_all rfl
  case pd => exact Nat.le_of_ble_eq_true rfl
  case pu => exact Nat.le_of_ble_eq_true rfl
  clear nE fE
  intro p2 f2 y2 t2 n2 n2' h' tk' F' hy2 N'
  iterate 30 tb_rel
  (rename News _ _ _ _ => nE)
  (rename Fr _ _ _ _ => fE)
  obtain ⟨lp, hlp⟩ := fr_fst fE
  subst hlp
  refine' added rfl w mean mg mb _ _ _ _ _ _ _ _ _ callerA h₀ h₀ L _ [(lp, listOf #[.ref p1, .ref p2] 0), (vc, listOf cvs.toArray nc), (L + 1 + 1 + 1 + 1 + 1, o5), (L + 1 + 1 + 1 + 1, o4), (L + 1 + 1 + 1, o3), (L + 1 + 1, o2), (L + 1, o1)] ⟨_, _, _, _, _⟩ _ _ B ?pF Y r p1 p2 f1 f2 tvs y1 y2 ws _ _ _ _ t1 t2 tg nt n1 n1' n2 n2' sg ?pN hti hy1 hy2 ?e1 ?e2 ?e3 hlen60 hw T ?pk ?pd ?pu ?_
  case pF => exact fE
  case pN => exact cb_drop nE (by kcf_all)
  case e1 => exact partN_len
  case e2 => exact partN_len
  case e3 => exact hs1
  case pk => with_unfolding_all rfl
  case pd => exact Nat.le_of_ble_eq_true rfl
  case pu => exact Nat.le_of_ble_eq_true rfl
  clear nE fE
  intro p3 f3 y3 t3 n3 n3' h' tk' F' hy3 N'
  have ne1 : p3 ≠ lp := ne_data N' (p := (_, _)) (by kcf_m) (by kcf_m) (by simp [W.listOf])
  have ne2 : f3 ≠ lp := ne_data N' (p := (_, _)) (by kcf_m) (by kcf_m) (ints_ne hy3)
  have ne3 : r ≠ lp := ne_data N' (p := (_, _)) (by kcf_m) (by kcf_m) (ints_ne hti)
  iterate 2 tb_rel
  clear ne1 ne2 ne3
  iterate 18 tb_rel
  (rename News _ _ _ _ => nE)
  (rename Fr _ _ _ _ => fE)
  obtain ⟨sh, hlp⟩ := fr_fst fE
  subst hlp
  obtain ⟨wh, hlp⟩ := fr_snd fE
  subst hlp
  have ne4 : wh ≠ sh := neN (by omega)
  refine' lit2 (by with_unfolding_all rfl) (ret one two _ _ _ p1 p2 p3 f1 f2 f3 y1 y2 y3 t1 t2 t3 n1 n2 n3 n1' n2' n3' lp wh sh (0 + 1) _ _ hy1 hy2 hy3 ?k1 ?k2 ?k3 fE ?drp)
  case k1 => exact ⟨by omega, by omega⟩
  case k2 => exact ⟨by omega, by omega⟩
  case k3 => exact ne4
  case drp => exact cb_drop nE (by kcf_all)
end
end Mine

namespace Mine
section
open PySem PySem.W PyProof.Rows PySem.Spec PySem.Calls
set_option maxRecDepth 100000
set_option maxHeartbeats 20000000
local macro_rules | `(tactic| tb_rel) => `(tactic| first | (k_unfold; (try dsimp only)) | (k_end; wrow_close) | walk1 | (dsimp only; walk1) | (leave1; walk_say "STEP leave1"; try dsimp only) | fail "no step")
noncomputable def turnBody (P : Params) : List Stmt := match (lawBody P).drop 14 with | Stmt.For _ _ b _ _ :: _ => b | _ => []
abbrev wholeOf (ws g : List Int) (sg : Str) (rest : Int) : Int := (laidS ws g sg (2 * ws.length)).1 + rest * 2 ^ (laidS ws g sg (2 * ws.length)).2.2.1.toNat
theorem ne5 {L sh wh : Addr} {os : List (Addr × Obj)} (hne : ∀ q ∈ os, (q : Addr × Obj).1 ≠ sh ∧ q.1 ≠ wh ∧ q.1 ≠ L + 1 + 1 + 1 + 1 + 1) {q : Addr × Obj} (h : q ∈ os) : q.1 ≠ L + 1 + 1 + 1 + 1 + 1 := (hne q h).2.2
local macro_rules | `(tactic| tb_start) => `(tactic| ((rename Fr _ _ _ _ => fE'); (rename News _ _ _ _ => nE'); (refine' storeX_C fE' nE' ?c ?U ?d ?_ ?a ?b); (case c => rfl); (case a => rfl); (case b => rfl); (case U => repeat' (first | apply UpdF.head | apply UpdF.tail | exact List.forall_mem_nil _ | refine List.forall_mem_cons.mpr ⟨?_, ?_⟩ | (refine ne_cell nE' (by kcf_m) (by kcf_m) (by assumption) rfl; done) | (refine (ne5 (by assumption) (by kcf_m)); done) | (refine neN ?_; (try dsimp only); omega))); (case d => assumption); intro h' o' F' N' d'; (try dsimp only at N'); clear fE' nE'))
local macro_rules | `(tactic| walk_at "call ref") => `(tactic| ((rename Fr _ _ _ _ => fE'); (rename News _ _ _ _ => nE'); k_dflt (first
  | refine' op_add rfl _ _ _ _ _ _ _ _ _ _ _ _ _ _ _ _ _ _ _ _ _ _ ?ob fE' ?ox nE' ?ot ?ok ?od ?ou _ _ _ _ ?_
  | refine' op_sub rfl _ _ _ _ _ _ _ _ _ _ _ _ _ _ _ _ _ _ _ _ _ _ ?ob fE' ?ox nE' ?ot ?ok ?od ?ou _ _ _ _ ?_
  | refine' op_xor rfl _ _ _ _ _ _ _ _ _ _ _ _ _ _ _ _ _ _ _ _ _ _ ?ob fE' ?ox nE' ?ot ?ok ?od ?ou _ _ _ _ ?_
  | refine' op_or_ rfl _ _ _ _ _ _ _ _ _ _ _ _ _ _ _ _ _ _ _ _ _ _ ?ob fE' ?ox nE' ?ot ?ok ?od ?ou _ _ _ _ ?_
  | refine' op_neg rfl _ _ _ _ _ _ _ _ _ _ _ _ _ _ _ _ _ _ _ _ _ _ ?ob fE' ?ox nE' ?ot ?ok ?od ?ou _ _ ?_); (case ob => assumption); (case ox => assumption); (case ot => assumption); (case ok => with_unfolding_all rfl); (case od => k_dflt (first | exact Nat.le_of_ble_eq_true rfl | omega)); (case ou => k_dflt (first | exact Nat.le_of_ble_eq_true rfl | omega)); clear fE' nE'; intro t' h' tk' F' N'))
local macro_rules | `(tactic| walk_at "call ref") => `(tactic| ((rename Fr _ _ _ _ => fE'); (rename News _ _ _ _ => nE'); k_dflt (refine' op_lshift rfl _ _ _ _ _ _ _ _ _ _ _ _ _ _ _ _ _ _ _ _ _ _ ?ob fE' ?ox nE' ?ot ?ok ?od ?ou _ _ _ _ ?oy ?oz ?ow ?_); (case ob => assumption); (case ox => assumption); (case ot => assumption); (case ok => with_unfolding_all rfl); (case od => k_dflt (first | exact Nat.le_of_ble_eq_true rfl | omega)); (case ou => k_dflt (first | exact Nat.le_of_ble_eq_true rfl | omega)); (case oy => first | assumption | omega); (case oz => first | assumption | omega); (case ow => k_dflt (first | assumption | exact ⟨by decide⟩ | exact ⟨by omega⟩)); clear fE' nE'; intro t' h' tk' F' N'))
theorem turnA (trig : PySem.Challenge.rw_xg0044_01 = PySem.Challenge.rw_xg0044_01) (w : World) (mean : ExcName → Option Value) (mg mb : Str → Option Value) (a : Addr) (cd : Value) (h₀ : Heap) (L : Addr) (s : Shared) (m : Str → Option Value) (Q : Flow → Shared → Prop) (E : Value → Shared → Prop)
    (B : Below callerA h₀ [] h₀) (Y : (KF w.params).In h₀)
    (o1 o2 o3 o4 o5 : Obj) 
    (r : Addr) (tvs : List Value) (ws : List Int) (nt : Nat) (hti : IntsAre tvs ws) (htl : ws.length = 3 ∨ ws.length = 6) (hw : ∀ x ∈ ws, 1 ≤ x ∧ x ≤ 3) (d2 : o2.data = Data.cell (some (.ref r)))
    (sg : Str) (tg : Tok) (hs1 : sg.cps.size = ws.length) (hs2 : ∀ j, j < sg.cps.size → sg.cps.getD j 0 = 43 ∨ sg.cps.getD j 0 = 45) (d4 : o4.data = Data.cell (some (.str sg tg))) 
    (v5 : Option Value) (d5 : o5.data = Data.cell v5)
    (num rest : Int) (tn tr : Tok) (p f wh sh : Addr) (yv : List Value) (g : List Int) (np nf nw ns : Nat) (hy : IntsAre yv g) (hgl : g.length = ws.length) (hg7 : ∀ x ∈ g, 0 ≤ x ∧ x ≤ 7) (hrest : Hid (rest.natAbs < 2 ^ 64))
    (whs shs : Array Value) (hws : whs.size ≤ 5) (hss : shs.size ≤ 5)
    (b1 b2 b3 b4 b5 b6 b7 b8 b9 b10 b11 b12 b13 : Addr) (q1 q2 q3 q4 q5 q6 q7 q8 q9 q10 q11 q12 q13 : Obj)
    (F : Fr h₀ L s.heap (fun z => if z = Str.ofString "pair" then some (.ref p) else if z = Str.ofString "number" then some (.int num tn) else if z = Str.ofString "shown" then some (.ref sh) else if z = Str.ofString "wholes" then some (.ref wh) else m z))
    (N : News h₀ L s.heap [(sh, listOf shs ns), (wh, listOf whs nw), (p, listOf #[.ref f, .int rest tr] np), (f, listOf yv.toArray nf), (r, listOf tvs.toArray nt), (L + 1 + 1 + 1 + 1 + 1, o5), (L + 1 + 1 + 1 + 1, o4), (L + 1 + 1 + 1, o3), (L + 1 + 1, o2), (L + 1, o1),
       (b1, q1), (b2, q2), (b3, q3), (b4, q4), (b5, q5), (b6, q6), (b7, q7), (b8, q8), (b9, q9), (b10, q10), (b11, q11), (b12, q12), (b13, q13)])
    (T : Top VW LO mean mg mb h₀)
    (bt M P : Int) (eb : (laidS ws g sg (2 * ws.length)).1 = bt) (em : (laidS ws g sg (2 * ws.length)).2.1 = M) (ep : (laidS ws g sg (2 * ws.length)).2.2.1 = P) (hP0 : 0 ≤ P) (hP1 : P ≤ 1000000)
    (H1 : Builtin.bitXor (num + M) M = bt + rest * 2 ^ P.toNat) (H2 : Builtin.bitXor (bt + rest * 2 ^ P.toNat) M - M = num) (H3 : Builtin.bitOr (num + M) M = Builtin.bitOr (bt + rest * 2 ^ P.toNat) M)
    (H4 : Builtin.bitXor (-num + Builtin.bitXor M (1 * 2 ^ P.toNat - 1)) (Builtin.bitXor M (1 * 2 ^ P.toNat - 1)) = bt + -rest * 2 ^ P.toNat)
    (hne : ∀ q ∈ [(b1, q1), (b2, q2), (b3, q3), (b4, q4), (b5, q5), (b6, q6), (b7, q7), (b8, q8), (b9, q9), (b10, q10), (b11, q11), (b12, q12), (b13, q13)], (q : Addr × Obj).1 ≠ sh ∧ q.1 ≠ wh ∧ q.1 ≠ L + 1 + 1 + 1 + 1 + 1)
    (hne2 : (p ≠ wh ∧ f ≠ wh ∧ r ≠ wh) ∧ (p ≠ sh ∧ f ≠ sh ∧ r ≠ sh) ∧ wh ≠ sh)
    (ret : ∀ (tu : Int) (tt tw tl1 tl2 tl3 : Tok) (o5' : Obj) (h : Heap) (tk : Nat), o5'.data = Data.cell (some (.ref f)) →
      Fr h₀ L h (fun z => if z = Str.ofString "turned" then some (.int tu tt) else if z = Str.ofString "whole" then some (.int (bt + rest * 2 ^ P.toNat) tw) else if z = Str.ofString "place" then some (.int P tl3) else if z = Str.ofString "mask" then some (.int M tl2) else if z = Str.ofString "bits" then some (.int bt tl1) else if z = Str.ofString "rest" then some (.int rest tr) else if z = Str.ofString "pair" then some (.ref p) else if z = Str.ofString "number" then some (.int num tn) else if z = Str.ofString "shown" then some (.ref sh) else if z = Str.ofString "wholes" then some (.ref wh) else m z) →
      News h₀ L h [(sh, listOf shs ns), (wh, listOf whs nw), (p, listOf #[.ref f, .int rest tr] np), (f, listOf yv.toArray nf), (r, listOf tvs.toArray nt), (L + 1 + 1 + 1 + 1 + 1, o5'), (L + 1 + 1 + 1 + 1, o4), (L + 1 + 1 + 1, o3), (L + 1 + 1, o2), (L + 1, o1),
       (b1, q1), (b2, q2), (b3, q3), (b4, q4), (b5, q5), (b6, q6), (b7, q7), (b8, q8), (b9, q9), (b10, q10), (b11, q11), (b12, q12), (b13, q13)] →
      wpAny (model PG w) (callerA.deeper (lawEnv w.params L a cd)) (execs ((turnBody w.params).drop 7) (lawEnv w.params L a cd)) Q E { s with heap := h, toks := tk })
    : wpAny (model PG w) (callerA.deeper (lawEnv w.params L a cd)) (execs (turnBody w.params) (lawEnv w.params L a cd)) Q E s := by
  have : PySem.Challenge.rw_xg0044_01 = PySem.Challenge.rw_xg0044_01 ∧ (KF w.params).In h₀ := ⟨rfl, Y⟩
  revert this
  w_top off
  k_with_none
  k_fill
  intro ⟨_, Y2⟩
  clear trig
  have hlen1 := hti.length
  refine lit (by with_unfolding_all rfl) (by with_unfolding_all rfl) ?_
  iterate 6 tb_rel
  tb_start
  have e3 : ws.length = sg.cps.size := hs1.symm
  have hlen60 : ws.length ≤ 60 := by omega
  iterate 17 tb_rel
  (rename News _ _ _ _ => nE)
  (rename Fr _ _ _ _ => fE)
  rename Obj => o5'
  refine' laid rfl w mean mg mb _ _ _ _ _ _ _ _ _ callerA h₀ h₀ L _ [(p, listOf #[.ref f, .int rest tr] np), (sh, listOf shs ns), (wh, listOf whs nw), (L + 1 + 1 + 1 + 1 + 1, o5'), (L + 1 + 1 + 1 + 1, o4), (L + 1 + 1 + 1, o3), (L + 1 + 1, o2), (L + 1, o1), (b1, q1), (b2, q2), (b3, q3), (b4, q4), (b5, q5), (b6, q6), (b7, q7), (b8, q8), (b9, q9), (b10, q10), (b11, q11), (b12, q12), (b13, q13)] ⟨_, _, _, _, _⟩ _ _ B ?pF Y r f tvs yv ws g tg tg nt nf sg ?pN hti hy e3 hgl.symm hlen60 hs2 hw hg7 T ?pk ?pd ?pu ?_
  case pF => exact fE
  case pN => exact cb_drop nE (by kcf_all)
  case pk => with_unfolding_all rfl
  case pd => exact Nat.le_of_ble_eq_true rfl
  case pu => exact Nat.le_of_ble_eq_true rfl
  clear nE fE
  intro pl tl1 tl2 tl3 nl h' tk' F' N'
  simp only [eb, em, ep] at N'
  have hrest2 : Hid ((-rest).natAbs < 2 ^ 64) := ⟨by have := hrest.out; omega⟩
  have G1 : (Builtin.bitXor (num + M) M != bt + rest * 2 ^ P.toNat) = false := by rw [H1]; exact bne_self_eq_false _
  have G2 : (Builtin.bitXor (bt + rest * 2 ^ P.toNat) M - M != num) = false := by rw [H2]; exact bne_self_eq_false _
  have G3 : (Builtin.bitOr (num + M) M != Builtin.bitOr (bt + rest * 2 ^ P.toNat) M) = false := by rw [H3]; exact bne_self_eq_false _
  have G4 : (Builtin.bitXor (-num + Builtin.bitXor M (1 * 2 ^ P.toNat - 1)) (Builtin.bitXor M (1 * 2 ^ P.toNat - 1)) != bt + -rest * 2 ^ P.toNat) = false := by rw [H4]; exact bne_self_eq_false _
  iterate 217 tb_rel
  (rename News _ _ _ _ => nE)
  (rename Fr _ _ _ _ => fE)
  refine' lit2 (by with_unfolding_all rfl) (ret _ _ _ _ _ _ _ _ _ ?dd fE ?drp)
  case drp => exact cb_drop nE (by kcf_all)
  case dd => assumption
end
end Mine

namespace Mine
section
open PySem PySem.W PyProof.Rows PySem.Spec PySem.Calls
set_option maxRecDepth 100000
set_option maxHeartbeats 20000000
local macro_rules | `(tactic| tb_rel) => `(tactic| first | (k_unfold; (try dsimp only)) | (k_end; wrow_close) | walk1 | (dsimp only; walk1) | (leave1; walk_say "STEP leave1"; try dsimp only) | fail "no step")
local macro_rules | `(tactic| tb_start) => `(tactic| ((rename Fr _ _ _ _ => fE'); (rename News _ _ _ _ => nE'); (refine' storeX_C fE' nE' ?c ?U ?d ?_ ?a ?b); (case c => rfl); (case a => rfl); (case b => rfl); (case U => repeat' (first | apply UpdF.head | apply UpdF.tail | exact List.forall_mem_nil _ | refine List.forall_mem_cons.mpr ⟨?_, ?_⟩ | (refine ne_cell nE' (by kcf_m) (by kcf_m) (by assumption) rfl; done) | (refine (ne5 (by assumption) (by kcf_m)); done) | (refine neN ?_; (try dsimp only); omega))); (case d => assumption); intro h' o' F' N' d'; (try dsimp only at N'); clear fE' nE'))
local macro_rules | `(tactic| walk_at "callWith") => `(tactic| ((try dsimp only); (with_reducible refine callWith_method1 (he := ?he) (hplain := ?hp) ?_); (case he => rfl); (case hp => rfl)))
local macro_rules | `(tactic| walk_at "binaryOp LShift int int") => `(tactic| ((refine lshift_int_small ?ka ?kb ?kc ?_); (case ka => first | assumption | omega); (case kb => first | assumption | omega); (case kc => first | decide | exact Hid.out (by assumption) | omega)))
theorem pw8 {w : Int} (h : 0 ≤ w) (h3 : w ≤ 3) : (2 : Int) ^ w.toNat ≤ 8 := by
  have : w = 0 ∨ w = 1 ∨ w = 2 ∨ w = 3 := by omega
  rcases this with h | h | h | h <;> (subst h; decide)
local macro_rules | `(tactic| walk_at "binaryOp Pow int int") => `(tactic| (refine pow_int_small (by omega) (by omega) (by decide) ?_))
structure Ne2 (p f r wh sh : Addr) : Prop where
  pw : p ≠ wh
  fw : f ≠ wh
  rw : r ≠ wh
  ps : p ≠ sh
  fs : f ≠ sh
  rs : r ≠ sh
  ws : wh ≠ sh
/-- the figure that is shown at a place -/
def hiD (ws g : List Int) (sg : Str) (k : Int) : Int := if sg.cps.getD k.toNat 0 = 43 then g.getD k.toNat 0 else 2 ^ (ws.getD k.toNat 0).toNat - 1 - g.getD k.toNat 0
@[irreducible] def hiT (ws g : List Int) (sg : Str) (k : Int) : Str := Str.ofString (toString (hiD ws g sg k))
theorem hiT_p {ws g : List Int} {sg : Str} {k : Int} (h : 0 ≤ k) (h1 : k < sg.length) (ht : (Txt.item sg k == Str.ofString "+") = true) : hiT ws g sg k = Str.ofString (toString (g.getD k.toNat 0)) := by
  have e : Str.ofString "+" = Str.mk #[43] := by decide +kernel
  rw [item_meets ⟨h, h1⟩, e] at ht
  have h2 := eq_of_beq ht
  have h3 : sg.cps.getD k.toNat 0 = 43 := by injection h2 with h2; simpa using h2
  unfold hiT hiD
  rw [if_pos h3]
theorem hiT_m {ws g : List Int} {sg : Str} {k : Int} (h : 0 ≤ k) (h1 : k < sg.length) (ht : (Txt.item sg k == Str.ofString "+") = false) : hiT ws g sg k = Str.ofString (toString (2 ^ (ws.getD k.toNat 0).toNat - 1 - g.getD k.toNat 0)) := by
  have e : Str.ofString "+" = Str.mk #[43] := by decide +kernel
  rw [item_meets ⟨h, h1⟩, e] at ht
  have h3 : ¬ sg.cps.getD k.toNat 0 = 43 := by
    intro h3
    rw [h3] at ht
    simp at ht
  unfold hiT hiD
  rw [if_neg h3]
theorem carried_app : ∀ {vs : List Value} {ds : List PyData} {v : Value} {d : PyData}, CarriedAll vs ds → Carried v d → CarriedAll (vs ++ [v]) (ds ++ [d])
  | _, _, _, _, .nil, h => .cons h .nil
  | _, _, _, _, .cons h0 r, h => .cons h0 (carried_app r h)
theorem carried_rev : ∀ {vs : List Value} {ds : List PyData}, CarriedAll vs ds → CarriedAll vs.reverse ds.reverse
  | _, _, .nil => .nil
  | _, _, .cons h r => by
    rw [List.reverse_cons, List.reverse_cons]
    exact carried_app (carried_rev r) h
theorem hiD_bd {ws g : List Int} {sg : Str} (hgw : ∀ j, j < ws.length → 0 ≤ g.getD j 0 ∧ g.getD j 0 < 2 ^ (ws.getD j 0).toNat) (hw : ∀ x ∈ ws, 1 ≤ x ∧ x ≤ 3) {k : Int} (h0 : 0 ≤ k) (h1 : k < 0 + (ws.length : Int)) : 0 ≤ hiD ws g sg k ∧ hiD ws g sg k ≤ 7 := by
  obtain ⟨a, b⟩ := hgw k.toNat (by omega)
  obtain ⟨c, d⟩ := wid_at hw k.toNat
  have e := pw8 c d
  unfold hiD
  split <;> omega
theorem hiT_eq {ws g : List Int} {sg : Str} (hgw : ∀ j, j < ws.length → 0 ≤ g.getD j 0 ∧ g.getD j 0 < 2 ^ (ws.getD j 0).toNat) (hw : ∀ x ∈ ws, 1 ≤ x ∧ x ≤ 3) {k : Int} (h0 : 0 ≤ k) (h1 : k < 0 + (ws.length : Int)) : hiT ws g sg k = ⟨#[48 + (hiD ws g sg k).toNat]⟩ := by
  obtain ⟨a, b⟩ := hiD_bd (sg := sg) hgw hw h0 h1
  unfold hiT
  exact digit_txt a b
theorem hiT_len {ws g : List Int} {sg : Str} (hgw : ∀ j, j < ws.length → 0 ≤ g.getD j 0 ∧ g.getD j 0 < 2 ^ (ws.getD j 0).toNat) (hw : ∀ x ∈ ws, 1 ≤ x ∧ x ≤ 3) {k : Int} (h0 : 0 ≤ k) (h1 : k < 0 + (ws.length : Int)) : (hiT ws g sg k).length = 1 := by
  rw [hiT_eq hgw hw h0 h1]; rfl
theorem int_tok {h₀ h : Heap} {L e : Addr} {x : Value} {i : Int} {t : Tok} {n : Nat} (N : h.get? (e, listOf #[x, .int i t] n).1 = some (e, listOf #[x, .int i t] n).2 ∧ (e, listOf #[x, .int i t] n).1 ≠ L ∧ h₀.get? (e, listOf #[x, .int i t] n).1 = none) : ∃ t', t' = t := ⟨t, rfl⟩
theorem lt3 {a b c e : Nat} (h1 : a < e) (h2 : b < e) (h3 : c < e) : a < e ∧ b < e ∧ c < e := ⟨h1, h2, h3⟩
theorem lt5 {a b c d f e : Nat} (h1 : a < e) (h2 : b < e) (h3 : c < e) (h4 : d < e) (h5 : f < e) : a < e ∧ b < e ∧ c < e ∧ d < e ∧ f < e := ⟨h1, h2, h3, h4, h5⟩
theorem turnB (trig : PySem.Challenge.rw_xg0044_01 = PySem.Challenge.rw_xg0044_01) (w : World) (mean : ExcName → Option Value) (mg mb : Str → Option Value) (a : Addr) (cd : Value) (h₀ : Heap) (L : Addr) (s : Shared) (m : Str → Option Value) (Q : Flow → Shared → Prop) (E : Value → Shared → Prop)
    (B : Below callerA h₀ [] h₀) (Y : (KF w.params).In h₀)
    (o1 o2 o3 o4 o5 : Obj) 
    (r : Addr) (tvs : List Value) (ws : List Int) (nt : Nat) (hti : IntsAre tvs ws) (htl : ws.length = 3 ∨ ws.length = 6) (hw : ∀ x ∈ ws, 1 ≤ x ∧ x ≤ 3) (d2 : o2.data = Data.cell (some (.ref r)))
    (sg : Str) (tg : Tok) (hs1 : sg.cps.size = ws.length) (hs2 : ∀ j, j < sg.cps.size → sg.cps.getD j 0 = 43 ∨ sg.cps.getD j 0 = 45) (d4 : o4.data = Data.cell (some (.str sg tg))) 
    (num rest : Int) (tn tr : Tok) (p f wh sh : Addr) (yv : List Value) (g : List Int) (np nf nw ns : Nat) (hy : IntsAre yv g) (hgl : g.length = ws.length) (hg7 : ∀ x ∈ g, 0 ≤ x ∧ x ≤ 7) (hrest : Hid (rest.natAbs < 2 ^ 64))
    (d5 : o5.data = Data.cell (some (.ref f))) (whs shs : Array Value) (hws : whs.size ≤ 5) (hss : shs.size ≤ 5)
    (b1 b2 b3 b4 b5 b6 b7 b8 b9 b10 b11 b12 b13 : Addr) (q1 q2 q3 q4 q5 q6 q7 q8 q9 q10 q11 q12 q13 : Obj)
    (v1 v3 : Option Value) (d1 : o1.data = Data.cell v1) (d3 : o3.data = Data.cell v3)
    (wl M P : Int) (hP0 : 0 ≤ P) (hP1 : P ≤ 1000000)
    (tu bt : Int) (tt tw tl1 tl2 tl3 : Tok)
    (F : Fr h₀ L s.heap (fun z => if z = Str.ofString "turned" then some (.int tu tt) else if z = Str.ofString "whole" then some (.int wl tw) else if z = Str.ofString "place" then some (.int P tl3) else if z = Str.ofString "mask" then some (.int M tl2) else if z = Str.ofString "bits" then some (.int bt tl1) else if z = Str.ofString "rest" then some (.int rest tr) else if z = Str.ofString "pair" then some (.ref p) else if z = Str.ofString "number" then some (.int num tn) else if z = Str.ofString "shown" then some (.ref sh) else if z = Str.ofString "wholes" then some (.ref wh) else m z))
    (N : News h₀ L s.heap [(sh, listOf shs ns), (wh, listOf whs nw), (p, listOf #[.ref f, .int rest tr] np), (f, listOf yv.toArray nf), (r, listOf tvs.toArray nt), (L + 1 + 1 + 1 + 1 + 1, o5), (L + 1 + 1 + 1 + 1, o4), (L + 1 + 1 + 1, o3), (L + 1 + 1, o2), (L + 1, o1),
       (b1, q1), (b2, q2), (b3, q3), (b4, q4), (b5, q5), (b6, q6), (b7, q7), (b8, q8), (b9, q9), (b10, q10), (b11, q11), (b12, q12), (b13, q13)])
    (T : Top VW LO mean mg mb h₀)
    (hne : ∀ q ∈ [(b1, q1), (b2, q2), (b3, q3), (b4, q4), (b5, q5), (b6, q6), (b7, q7), (b8, q8), (b9, q9), (b10, q10), (b11, q11), (b12, q12), (b13, q13)], (q : Addr × Obj).1 ≠ sh ∧ q.1 ≠ wh ∧ q.1 ≠ L + 1 + 1 + 1 + 1 + 1)
    (hne2 : Ne2 p f r wh sh) (hgw : ∀ j, j < ws.length → 0 ≤ g.getD j 0 ∧ g.getD j 0 < 2 ^ (ws.getD j 0).toNat)
    (ret : ∀ (e : Addr) (jt te : Tok) (h : Heap) (tk : Nat) (m' : Str → Option Value), (sh < e ∧ wh < e ∧ L + 1 + 1 + 1 + 1 + 1 < e) → (b1 < e ∧ b2 < e ∧ b3 < e ∧ b4 < e ∧ b5 < e) → m' (Str.ofString "shown") = some (.ref sh) → m' (Str.ofString "wholes") = some (.ref wh) → m' (Str.ofString "mask") = some (.int M tl2) → Fr h₀ L h m' →
      News h₀ L h [(e, listOf #[.str (Txt.join (Str.ofString "") (List.map (hiT ws g sg) (rangeKs 0 ws.length).reverse)) jt, .int (num - rest * 2 ^ P.toNat) te] 0), (sh, listOf (shs.push (.ref e)) (ns + 1)), (wh, listOf (whs.push (.int wl tw)) (nw + 1)), (p, listOf #[.ref f, .int rest tr] np), (f, listOf yv.toArray nf), (r, listOf tvs.toArray nt), (L + 1 + 1 + 1 + 1 + 1, o5), (L + 1 + 1 + 1 + 1, o4), (L + 1 + 1 + 1, o3), (L + 1 + 1, o2), (L + 1, o1),
       (b1, q1), (b2, q2), (b3, q3), (b4, q4), (b5, q5), (b6, q6), (b7, q7), (b8, q8), (b9, q9), (b10, q10), (b11, q11), (b12, q12), (b13, q13)] →
      Q .next { s with heap := h, toks := tk })
    : wpAny (model PG w) (callerA.deeper (lawEnv w.params L a cd)) (execs ((turnBody w.params).drop 7) (lawEnv w.params L a cd)) Q E s := by
  have : PySem.Challenge.rw_xg0044_01 = PySem.Challenge.rw_xg0044_01 ∧ (KF w.params).In h₀ := ⟨rfl, Y⟩
  revert this
  w_top off
  k_with_none
  k_fill
  intro ⟨_, Y2⟩
  clear trig
  have hlen1 := hti.length
  refine lit (by with_unfolding_all rfl) (by with_unfolding_all rfl) ?_
  have e3 : ws.length = sg.cps.size := hs1.symm
  have hlen60 : ws.length ≤ 60 := by omega
  have e3L : sg.length = ws.length := hs1
  iterate 9 tb_rel
  (rename News _ _ _ _ => nE)
  (rename Fr _ _ _ _ => fE)
  refine' append_K fE nE (D := wh) (its := whs) (n := nw) ?up ?_ ?sz
  case up => repeat' (first | apply Upd.head | apply Upd.tail | exact List.forall_mem_nil _ | refine List.forall_mem_cons.mpr ⟨?_, ?_⟩ | exact hne2.pw | exact hne2.fw | exact hne2.rw | exact Ne.symm hne2.ws | exact (hne _ (by kcf_m)).2.1 | exact Ne.symm (ne_cell nE (p := (wh, listOf whs nw)) (by kcf_m) (by kcf_m) d1 rfl) | exact Ne.symm (ne_cell nE (p := (wh, listOf whs nw)) (by kcf_m) (by kcf_m) d2 rfl) | exact Ne.symm (ne_cell nE (p := (wh, listOf whs nw)) (by kcf_m) (by kcf_m) d3 rfl) | exact Ne.symm (ne_cell nE (p := (wh, listOf whs nw)) (by kcf_m) (by kcf_m) d4 rfl) | exact Ne.symm (ne_cell nE (p := (wh, listOf whs nw)) (by kcf_m) (by kcf_m) d5 rfl))
  case sz => rw [sizeLine_eq]; omega
  intro h' F' N'
  clear fE nE
  iterate 1 tb_rel
  refine LCg.Assign_ListComp_U (F₀ := F') (by rfl) (by with_unfolding_all rfl) (by with_unfolding_all rfl) (by decide) (by rfl) (by decide) (by rfl) (by rfl) (by rfl) ?_
  iterate 13 tb_rel
  refine LCg.CompSrc.range (by rfl) (by k_asm) (by k_asm) (by assumption) (small_one (by omega) (by omega) (by omega) (by omega)) (rangeSize_nat _ _) (by rw [PySem.sizeLine_eq]; omega) ?_
  intro g'
  refine' kct_range (fun k => hiT ws g sg k) (fun k' t' I' oI' C' oC' D' m' ys' h' tk' E' hlo' hhi' hC' hx' F' N' off' ne' => ?elt) ?fin
  all_goals (try ((show KPfMark → _); intro hMark'))
  all_goals (try k_fold)
  case elt =>
    clear ne'
    obtain ⟨hk1, hk2⟩ := hgw k'.toNat (by omega)
    obtain ⟨hk3, hk4⟩ := fig_at hg7 k'.toNat
    obtain ⟨hk5, hk6⟩ := wid_at hw k'.toNat
    have hk7 : (2 : Int) ^ (ws.getD k'.toNat 0).toNat ≤ 8 := pw8 hk5 hk6
    iterate 14 tb_rel
    · iterate 6 tb_rel
      refine LCg.CompEnd.intro (by assumption) (by assumption) _ (fun _ hp => hp) off' trivial ?_
      exact kct_el (hiT_p (by omega) (by omega) (by assumption)) rfl rfl
    · iterate 19 tb_rel
      refine LCg.CompEnd.intro (by assumption) (by assumption) _ (fun _ hp => hp) off' trivial ?_
      exact kct_el (hiT_m (by omega) (by omega) (by assumption)) rfl rfl
  case fin =>
    show ∀ ys, _ → _ → LCg.FinA _ _ _ _ _ _ _ _
    intro yj hc hn D hD tkD FD ND offD
    have e7 : ((ws.length : Int) - 0).toNat = ws.length := by omega
    rw [e7] at hc hn
    clear e7
    have hyl : yj.length = ws.length := by have := hc.length_eq; rw [List.length_map] at this; omega
    clear offD
    iterate 23 tb_rel
    (rename News _ _ _ _ => nE)
    (rename Fr _ _ _ _ => fE)
    refine' krv_lit (zs := yj.reverse) fE nE (News.isList nE (items := yj.toArray) (by kcf_m)) (by kmk_part) rfl ?_ ?hs ?ht ?hz
    case hs => with_unfolding_all rfl
    case ht => kmk_pure
    case hz => (rw [List.size_toArray, sizeLine_eq]; omega)
    clear fE nE
    intro Dr hr Fr' Nr' lr
    clear lr
    iterate 1 tb_rel
    refine KT.join_1 (g := hiT ws g sg) (l := (rangeKs 0 ws.length).reverse) (News.isList Nr' List.mem_cons_self) (by rw [List.map_reverse]; exact carried_rev hc) ?h1 ?hn ?_
    case h1 => exact fun a ha => hiT_len hgw hw (mem_rangeKs (List.mem_reverse.mp ha)).1 (mem_rangeKs (List.mem_reverse.mp ha)).2
    case hn => (rw [List.length_reverse, rangeKs_length]; omega)
    intro jt jk jlen
    iterate 39 tb_rel
    (rename News _ _ _ _ => nE)
    (rename Fr _ _ _ _ => fE)
    (rename Addr => e)
    obtain ⟨te, hte⟩ := int_tok (nE (e, _) (by kcf_m))
    subst hte
    have nE2 := cb_drop (news := [(e, listOf #[.str (Txt.join (Str.ofString "") (List.map (hiT ws g sg) (rangeKs 0 ws.length).reverse)) jt, .int (num - rest * 2 ^ P.toNat) te] 0), (sh, listOf shs ns), (wh, listOf (whs.push (.int wl tw)) (nw + 1)), (p, listOf #[.ref f, .int rest tr] np), (f, listOf yv.toArray nf), (r, listOf tvs.toArray nt), (L + 1 + 1 + 1 + 1 + 1, o5), (L + 1 + 1 + 1 + 1, o4), (L + 1 + 1 + 1, o3), (L + 1 + 1, o2), (L + 1, o1),
       (b1, q1), (b2, q2), (b3, q3), (b4, q4), (b5, q5), (b6, q6), (b7, q7), (b8, q8), (b9, q9), (b10, q10), (b11, q11), (b12, q12), (b13, q13)]) nE (by kcf_all)
    clear nE
    refine' append_K fE nE2 (D := sh) (its := shs) (n := ns) ?up ?_ ?sz
    case up => repeat' (first | apply Upd.head | apply Upd.tail | exact List.forall_mem_nil _ | refine List.forall_mem_cons.mpr ⟨?_, ?_⟩ | exact hne2.ps | exact hne2.fs | exact hne2.rs | exact hne2.ws | exact (hne _ (by kcf_m)).1 | exact Ne.symm (ne_cell nE2 (p := (sh, listOf shs ns)) (by kcf_m) (by kcf_m) d1 rfl) | exact Ne.symm (ne_cell nE2 (p := (sh, listOf shs ns)) (by kcf_m) (by kcf_m) d2 rfl) | exact Ne.symm (ne_cell nE2 (p := (sh, listOf shs ns)) (by kcf_m) (by kcf_m) d3 rfl) | exact Ne.symm (ne_cell nE2 (p := (sh, listOf shs ns)) (by kcf_m) (by kcf_m) d4 rfl) | exact Ne.symm (ne_cell nE2 (p := (sh, listOf shs ns)) (by kcf_m) (by kcf_m) d5 rfl) | exact neN (by omega))
    case sz => rw [sizeLine_eq]; omega
    clear fE nE2
    intro h' F' N'
    iterate 2 tb_rel
    exact ret e jt te _ _ _ (lt3 (by omega) (by omega) (by omega)) (lt5 (by omega) (by omega) (by omega) (by omega) (by omega)) rfl rfl rfl F' N'
end
end Mine

namespace Mine
section
open PySem PySem.W PyProof.Rows PySem.Spec PySem.Calls
set_option maxRecDepth 100000
set_option maxHeartbeats 20000000
/-- what the plain law says of one number, its figures and its rest -/
structure Good (ws : List Int) (sg : Str) (num : Int) (g : List Int) (rest M P : Int) : Prop where
  len : g.length = ws.length
  h7 : ∀ x ∈ g, 0 ≤ x ∧ x ≤ 7
  hw : ∀ j, j < ws.length → 0 ≤ g.getD j 0 ∧ g.getD j 0 < 2 ^ (ws.getD j 0).toNat
  hr : rest.natAbs < 2 ^ 64
  em : (laidS ws g sg (2 * ws.length)).2.1 = M
  ep : (laidS ws g sg (2 * ws.length)).2.2.1 = P
  p0 : 0 ≤ P
  p1 : P ≤ 1000000
  H1 : Builtin.bitXor (num + M) M = (laidS ws g sg (2 * ws.length)).1 + rest * 2 ^ P.toNat
  H2 : Builtin.bitXor ((laidS ws g sg (2 * ws.length)).1 + rest * 2 ^ P.toNat) M - M = num
  H3 : Builtin.bitOr (num + M) M = Builtin.bitOr ((laidS ws g sg (2 * ws.length)).1 + rest * 2 ^ P.toNat) M
  H4 : Builtin.bitXor (-num + Builtin.bitXor M (1 * 2 ^ P.toNat - 1)) (Builtin.bitXor M (1 * 2 ^ P.toNat - 1)) = (laidS ws g sg (2 * ws.length)).1 + -rest * 2 ^ P.toNat
noncomputable abbrev wl (ws : List Int) (sg : Str) (g : List Int) (rest P : Int) : Int := (laidS ws g sg (2 * ws.length)).1 + rest * 2 ^ P.toNat
noncomputable abbrev nm (ws : List Int) (sg : Str) (g : List Int) : Str := Txt.join (Str.ofString "") (List.map (hiT ws g sg) (rangeKs 0 ws.length).reverse)
theorem turn (w : World) (mean : ExcName → Option Value) (mg mb : Str → Option Value) (a : Addr) (cd : Value) (h₀ : Heap) (L : Addr) (s : Shared) (m : Str → Option Value) (Q : Flow → Shared → Prop) (E : Value → Shared → Prop)
    (B : Below callerA h₀ [] h₀) (Y : (KF w.params).In h₀)
    (o1 o2 o3 o4 o5 : Obj) 
    (r : Addr) (tvs : List Value) (ws : List Int) (nt : Nat) (hti : IntsAre tvs ws) (htl : ws.length = 3 ∨ ws.length = 6) (hw : ∀ x ∈ ws, 1 ≤ x ∧ x ≤ 3) (d2 : o2.data = Data.cell (some (.ref r)))
    (sg : Str) (tg : Tok) (hs1 : sg.cps.size = ws.length) (hs2 : ∀ j, j < sg.cps.size → sg.cps.getD j 0 = 43 ∨ sg.cps.getD j 0 = 45) (d4 : o4.data = Data.cell (some (.str sg tg))) 
    (v5 : Option Value) (d5 : o5.data = Data.cell v5) (v1 v3 : Option Value) (d1 : o1.data = Data.cell v1) (d3 : o3.data = Data.cell v3)
    (num rest : Int) (tn tr : Tok) (p f wh sh : Addr) (yv : List Value) (g : List Int) (np nf nw ns : Nat) (hy : IntsAre yv g) (M P : Int) (G : Good ws sg num g rest M P)
    (whs shs : Array Value) (hws : whs.size ≤ 5) (hss : shs.size ≤ 5)
    (b1 b2 b3 b4 b5 b6 b7 b8 b9 b10 b11 b12 b13 : Addr) (q1 q2 q3 q4 q5 q6 q7 q8 q9 q10 q11 q12 q13 : Obj)
    (mp : m (Str.ofString "pair") = some (.ref p)) (mn : m (Str.ofString "number") = some (.int num tn)) (ms : m (Str.ofString "shown") = some (.ref sh)) (mw : m (Str.ofString "wholes") = some (.ref wh))
    (F : Fr h₀ L s.heap m)
    (N : News h₀ L s.heap [(sh, listOf shs ns), (wh, listOf whs nw), (p, listOf #[.ref f, .int rest tr] np), (f, listOf yv.toArray nf), (r, listOf tvs.toArray nt), (L + 1 + 1 + 1 + 1 + 1, o5), (L + 1 + 1 + 1 + 1, o4), (L + 1 + 1 + 1, o3), (L + 1 + 1, o2), (L + 1, o1),
       (b1, q1), (b2, q2), (b3, q3), (b4, q4), (b5, q5), (b6, q6), (b7, q7), (b8, q8), (b9, q9), (b10, q10), (b11, q11), (b12, q12), (b13, q13)])
    (T : Top VW LO mean mg mb h₀)
    (hne : ∀ q ∈ [(b1, q1), (b2, q2), (b3, q3), (b4, q4), (b5, q5), (b6, q6), (b7, q7), (b8, q8), (b9, q9), (b10, q10), (b11, q11), (b12, q12), (b13, q13)], (q : Addr × Obj).1 ≠ sh ∧ q.1 ≠ wh ∧ q.1 ≠ L + 1 + 1 + 1 + 1 + 1)
    (hne2 : Ne2 p f r wh sh)
    (ret : ∀ (e : Addr) (jt te tw tm : Tok) (o5' : Obj) (h : Heap) (tk : Nat) (m' : Str → Option Value), (sh < e ∧ wh < e ∧ L + 1 + 1 + 1 + 1 + 1 < e) → (b1 < e ∧ b2 < e ∧ b3 < e ∧ b4 < e ∧ b5 < e) → o5'.data = Data.cell (some (.ref f)) → m' (Str.ofString "shown") = some (.ref sh) → m' (Str.ofString "wholes") = some (.ref wh) → m' (Str.ofString "mask") = some (.int M tm) → Fr h₀ L h m' →
      News h₀ L h [(e, listOf #[.str (nm ws sg g) jt, .int (num - rest * 2 ^ P.toNat) te] 0), (sh, listOf (shs.push (.ref e)) (ns + 1)), (wh, listOf (whs.push (.int (wl ws sg g rest P) tw)) (nw + 1)), (p, listOf #[.ref f, .int rest tr] np), (f, listOf yv.toArray nf), (r, listOf tvs.toArray nt), (L + 1 + 1 + 1 + 1 + 1, o5'), (L + 1 + 1 + 1 + 1, o4), (L + 1 + 1 + 1, o3), (L + 1 + 1, o2), (L + 1, o1),
       (b1, q1), (b2, q2), (b3, q3), (b4, q4), (b5, q5), (b6, q6), (b7, q7), (b8, q8), (b9, q9), (b10, q10), (b11, q11), (b12, q12), (b13, q13)] →
      Q .next { s with heap := h, toks := tk })
    : wpAny (model PG w) (callerA.deeper (lawEnv w.params L a cd)) (execs (turnBody w.params) (lawEnv w.params L a cd)) Q E s := by
  have e : m = fun z => if z = Str.ofString "pair" then some (.ref p) else if z = Str.ofString "number" then some (.int num tn) else if z = Str.ofString "shown" then some (.ref sh) else if z = Str.ofString "wholes" then some (.ref wh) else m z := by
    funext z
    split
    · rename_i h; rw [h, mp]
    split
    · rename_i h; rw [h, mn]
    split
    · rename_i h; rw [h, ms]
    split
    · rename_i h; rw [h, mw]
    rfl
  rw [e] at F
  refine turnA rfl w mean mg mb a cd h₀ L s m Q E B Y o1 o2 o3 o4 o5 r tvs ws nt hti htl hw d2 sg tg hs1 hs2 d4 v5 d5 num rest tn tr p f wh sh yv g np nf nw ns hy G.len G.h7 ⟨G.hr⟩ whs shs hws hss b1 b2 b3 b4 b5 b6 b7 b8 b9 b10 b11 b12 b13 q1 q2 q3 q4 q5 q6 q7 q8 q9 q10 q11 q12 q13 F N T _ M P rfl G.em G.ep G.p0 G.p1 G.H1 G.H2 G.H3 G.H4 hne ?hne2 ?_
  case hne2 => exact ⟨⟨hne2.pw, hne2.fw, hne2.rw⟩, ⟨hne2.ps, hne2.fs, hne2.rs⟩, hne2.ws⟩
  intro tu tt tw tl1 tl2 tl3 o5' h tk d5' F' N'
  refine turnB rfl w mean mg mb a cd h₀ L _ m Q E B Y o1 o2 o3 o4 o5' r tvs ws nt hti htl hw d2 sg tg hs1 hs2 d4 num rest tn tr p f wh sh yv g np nf nw ns hy G.len G.h7 ⟨G.hr⟩ d5' whs shs hws hss b1 b2 b3 b4 b5 b6 b7 b8 b9 b10 b11 b12 b13 q1 q2 q3 q4 q5 q6 q7 q8 q9 q10 q11 q12 q13 v1 v3 d1 d3 _ M P G.p0 G.p1 tu _ tt tw tl1 tl2 tl3 F' N' T hne hne2 G.hw ?_
  intro e jt te h2 tk2 m' fr1 fr2 a1 a2 a3 F2 N2
  exact ret e jt te tw tl2 o5' h2 tk2 m' fr1 fr2 d5' a1 a2 a3 F2 N2
end
end Mine

namespace Mine
section
open PySem PySem.W PyProof.Rows PySem.Spec PySem.Calls
set_option maxRecDepth 100000
set_option maxHeartbeats 20000000
noncomputable def turnTgt (P : Params) : Expr := match (lawBody P).drop 14 with | Stmt.For t _ _ _ _ :: _ => t | _ => default
def Off5 (I x : Nat) : Prop := x < I ∨ I + 4 < x
theorem Off5.ne {I x : Nat} (h : Off5 I x) : x ≠ I ∧ x ≠ I + 1 ∧ x ≠ I + 2 ∧ x ≠ I + 3 ∧ x ≠ I + 4 := by unfold Off5 at h; omega
theorem off_its {I : Addr} {i1 i2 i3 i4 i5 : Obj} {news : List (Addr × Obj)} (h : ∀ q ∈ news, Off5 I (q : Addr × Obj).1) : ∀ p ∈ news, ∀ q ∈ [(I + 4, i1), (I + 2, i2), (I + 3, i3), (I, i4), (I + 1, i5)], (p : Addr × Obj).1 ≠ (q : Addr × Obj).1 := by
  intro p hp q hq
  obtain ⟨h0, h1, h2, h3, h4⟩ := (h p hp).ne
  simp only [List.mem_cons, List.not_mem_nil, or_false] at hq
  rcases hq with rfl | rfl | rfl | rfl | rfl <;> assumption
theorem its_ne {I sh wh c5 : Addr} {i1 i2 i3 i4 i5 : Obj} {os : List (Addr × Obj)} (h1 : Off5 I sh) (h2 : Off5 I wh) (h3 : Off5 I c5) (hne : ∀ q ∈ os, (q : Addr × Obj).1 ≠ sh ∧ q.1 ≠ wh ∧ q.1 ≠ c5) : ∀ q ∈ (I + 4, i1) :: (I + 2, i2) :: (I + 3, i3) :: (I, i4) :: (I + 1, i5) :: os, (q : Addr × Obj).1 ≠ sh ∧ q.1 ≠ wh ∧ q.1 ≠ c5 := by
  obtain ⟨a0, a1, a2, a3, a4⟩ := h1.ne
  obtain ⟨b0, b1, b2, b3, b4⟩ := h2.ne
  obtain ⟨d0, d1, d2, d3, d4⟩ := h3.ne
  intro q hq
  simp only [List.mem_cons] at hq
  rcases hq with rfl | rfl | rfl | rfl | rfl | hq
  · exact ⟨Ne.symm a4, Ne.symm b4, Ne.symm d4⟩
  · exact ⟨Ne.symm a2, Ne.symm b2, Ne.symm d2⟩
  · exact ⟨Ne.symm a3, Ne.symm b3, Ne.symm d3⟩
  · exact ⟨Ne.symm a0, Ne.symm b0, Ne.symm d0⟩
  · exact ⟨Ne.symm a1, Ne.symm b1, Ne.symm d1⟩
  · exact hne q hq
theorem off_same {I : Addr} {news news' : List (Addr × Obj)} (h : ∀ q ∈ news, Off5 I (q : Addr × Obj).1) (e : news'.map (·.1) = news.map (·.1)) : ∀ q ∈ news', Off5 I (q : Addr × Obj).1 := by
  intro q hq
  have : q.1 ∈ news'.map (·.1) := List.mem_map_of_mem hq
  rw [e] at this
  obtain ⟨p, hp, e2⟩ := List.mem_map.mp this
  rw [← e2]
  exact h p hp
theorem assign_turn (w : World) (a : Addr) (cd : Value) (h₀ : Heap) (L : Addr) (s : Shared) (m : Str → Option Value) (E : Value → Shared → Prop) (Q : Unit → Shared → Prop) (num : Int) (tn : Tok) (p T1 : Addr) (news : List (Addr × Obj))
    (hT : IsTup s.heap T1 #[.int num tn, .ref p]) (F : Fr h₀ L s.heap m) (N : News h₀ L s.heap news)
    (ret : ∀ h tk, Fr h₀ L h (fun y => if y = Str.ofString "pair" then some (.ref p) else (fun y => if y = Str.ofString "number" then some (.int num tn) else m y) y) → News h₀ L h news → Q () { s with heap := h, toks := tk }) :
    wpAny (model PG w) (callerA.deeper (lawEnv w.params L a cd)) (assign (turnTgt w.params) (lawEnv w.params L a cd) (.ref T1)) Q E s := by
  obtain ⟨x1, px, pk, pt, e⟩ : ∃ x1 px pk pt, turnTgt w.params = Expr.Tuple [.Name (Str.ofString "number") px, .Name (Str.ofString "pair") pk] x1 pt := ⟨_, _, _, _, by with_unfolding_all rfl⟩
  rw [e]
  refine unpackN_ F N hT rfl rfl rfl (fun h1 F1 N1 => ?_)
  refine assignInOrder_cons (wpAny_assign_Name (storeX_L F1 N1 (fun h2 F2 N2 => ?_) (by with_unfolding_all rfl) (by with_unfolding_all rfl)))
  refine assignInOrder_cons (wpAny_assign_Name (storeX_L F2 N2 (fun h3 F3 N3 => ?_) (by with_unfolding_all rfl) (by with_unfolding_all rfl)))
  exact assignInOrder_nil (ret h3 _ F3 N3)
theorem turnI (w : World) (mean : ExcName → Option Value) (mg mb : Str → Option Value) (a : Addr) (cd : Value) (h₀ : Heap) (L : Addr) (s : Shared) (m : Str → Option Value) (Q : Flow → Shared → Prop) (E : Value → Shared → Prop)
    (B : Below callerA h₀ [] h₀) (Y : (KF w.params).In h₀)
    (o1 o2 o3 o4 o5 : Obj) 
    (r : Addr) (tvs : List Value) (ws : List Int) (nt : Nat) (hti : IntsAre tvs ws) (htl : ws.length = 3 ∨ ws.length = 6) (hw : ∀ x ∈ ws, 1 ≤ x ∧ x ≤ 3) (d2 : o2.data = Data.cell (some (.ref r)))
    (sg : Str) (tg : Tok) (hs1 : sg.cps.size = ws.length) (hs2 : ∀ j, j < sg.cps.size → sg.cps.getD j 0 = 43 ∨ sg.cps.getD j 0 = 45) (d4 : o4.data = Data.cell (some (.str sg tg))) 
    (v5 : Option Value) (d5 : o5.data = Data.cell v5) (v1 v3 : Option Value) (d1 : o1.data = Data.cell v1) (d3 : o3.data = Data.cell v3)
    (num rest : Int) (tn tr : Tok) (p f wh sh : Addr) (yv : List Value) (g : List Int) (np nf nw ns : Nat) (hy : IntsAre yv g) (M P : Int) (G : Good ws sg num g rest M P)
    (whs shs : Array Value) (hws : whs.size ≤ 5) (hss : shs.size ≤ 5)
    (I l lp : Addr) (lo lpo : Obj) (c1 c2 c3 c4 c5 c6 : Addr) (k1 k2 k3 k4 k5 k6 : Obj)
    (ms : m (Str.ofString "shown") = some (.ref sh)) (mw : m (Str.ofString "wholes") = some (.ref wh))
    (T : Top VW LO mean mg mb h₀)
    (hne : ∀ q ∈ [(l, lo), (lp, lpo), (c1, k1), (c2, k2), (c3, k3), (c4, k4), (c5, k5), (c6, k6)], (q : Addr × Obj).1 ≠ sh ∧ q.1 ≠ wh ∧ q.1 ≠ L + 1 + 1 + 1 + 1 + 1)
    (hne2 : Ne2 p f r wh sh)
    (news : List (Addr × Obj)) (hsub : ∀ q ∈ [(sh, listOf shs ns), (wh, listOf whs nw), (p, listOf #[.ref f, .int rest tr] np), (f, listOf yv.toArray nf), (r, listOf tvs.toArray nt), (L + 1 + 1 + 1 + 1 + 1, o5), (L + 1 + 1 + 1 + 1, o4), (L + 1 + 1 + 1, o3), (L + 1 + 1, o2), (L + 1, o1), (l, lo), (lp, lpo), (c1, k1), (c2, k2), (c3, k3), (c4, k4), (c5, k5), (c6, k6)], q ∈ news) (hoff : ∀ q ∈ [(sh, listOf shs ns), (wh, listOf whs nw), (p, listOf #[.ref f, .int rest tr] np), (f, listOf yv.toArray nf), (r, listOf tvs.toArray nt), (L + 1 + 1 + 1 + 1 + 1, o5), (L + 1 + 1 + 1 + 1, o4), (L + 1 + 1 + 1, o3), (L + 1 + 1, o2), (L + 1, o1), (l, lo), (lp, lpo), (c1, k1), (c2, k2), (c3, k3), (c4, k4), (c5, k5), (c6, k6)], Off5 I (q : Addr × Obj).1)
    (items : List Itm)
    (next : ∀ (e : Addr) (jt te tw tm : Tok) (o5' : Obj) (m' : Str → Option Value), (sh < e ∧ wh < e ∧ L + 1 + 1 + 1 + 1 + 1 < e) → Off5 I e → o5'.data = Data.cell (some (.ref f)) → m' (Str.ofString "shown") = some (.ref sh) → m' (Str.ofString "wholes") = some (.ref wh) → m' (Str.ofString "mask") = some (.int M tm) →
      ItemsRest PG w (callerA.deeper (lawEnv w.params L a cd)) E h₀ (lawEnv w.params L a cd) (turnTgt w.params) (turnBody w.params) Q s [(I + 4, "zip"), (I + 2, "tuple"), (I + 3, "tuple"), (I, "list_iterator"), (I + 1, "list_iterator")] [(l, lo), (lp, lpo)] items m' [(e, listOf #[.str (nm ws sg g) jt, .int (num - rest * 2 ^ P.toNat) te] 0), (sh, listOf (shs.push (.ref e)) (ns + 1)), (wh, listOf (whs.push (.int (wl ws sg g rest P) tw)) (nw + 1)), (p, listOf #[.ref f, .int rest tr] np), (f, listOf yv.toArray nf), (r, listOf tvs.toArray nt), (L + 1 + 1 + 1 + 1 + 1, o5'), (L + 1 + 1 + 1 + 1, o4), (L + 1 + 1 + 1, o3), (L + 1 + 1, o2), (L + 1, o1), (l, lo), (lp, lpo), (c1, k1), (c2, k2), (c3, k3), (c4, k4), (c5, k5), (c6, k6)]) :
    ItemsRest PG w (callerA.deeper (lawEnv w.params L a cd)) E h₀ (lawEnv w.params L a cd) (turnTgt w.params) (turnBody w.params) Q s [(I + 4, "zip"), (I + 2, "tuple"), (I + 3, "tuple"), (I, "list_iterator"), (I + 1, "list_iterator")] [(l, lo), (lp, lpo)] (.pair (fun _ => .int num tn) (.ref p) :: items) m news := by
  refine ItemsRest.pair ?_
  intro T1 t1 h1 tk1 hT F1
  refine AllObj.cons (fun i1 hc1 => AllObj.cons (fun i2 hc2 => AllObj.cons (fun i3 hc3 => AllObj.cons (fun i4 hc4 => AllObj.cons (fun i5 hc5 => AllObj.nil (fun N1 => ?_))))))
  have N2 := cb_drop (news := [(I + 4, i1), (I + 2, i2), (I + 3, i3), (I, i4), (I + 1, i5)] ++ [(sh, listOf shs ns), (wh, listOf whs nw), (p, listOf #[.ref f, .int rest tr] np), (f, listOf yv.toArray nf), (r, listOf tvs.toArray nt), (L + 1 + 1 + 1 + 1 + 1, o5), (L + 1 + 1 + 1 + 1, o4), (L + 1 + 1 + 1, o3), (L + 1 + 1, o2), (L + 1, o1), (l, lo), (lp, lpo), (c1, k1), (c2, k2), (c3, k3), (c4, k4), (c5, k5), (c6, k6)]) N1 (fun q hq => by
    rcases List.mem_append.mp hq with hq | hq
    · exact List.mem_append_left _ hq
    · exact List.mem_append_right _ (hsub q hq))
  clear N1
  dsimp only [List.cons_append, List.nil_append] at N2 hT
  refine assign_turn w a cd h₀ L _ m E _ num tn p T1 _ hT F1 N2 (fun h2 tk2 F3 N3 => ?_)
  have hI : Off5 I sh ∧ Off5 I wh ∧ Off5 I (L + 1 + 1 + 1 + 1 + 1) := ⟨hoff (sh, _) (by kcf_m), hoff (wh, _) (by kcf_m), hoff (L + 1 + 1 + 1 + 1 + 1, _) (by kcf_m)⟩
  refine turn w mean mg mb a cd h₀ L ⟨_, _, _, _, _⟩ (fun y => if y = Str.ofString "pair" then some (.ref p) else (fun y => if y = Str.ofString "number" then some (.int num tn) else m y) y) _ E B Y o1 o2 o3 o4 o5 r tvs ws nt hti htl hw d2 sg tg hs1 hs2 d4 v5 d5 v1 v3 d1 d3 num rest tn tr p f wh sh yv g np nf nw ns hy M P G whs shs hws hss (I + 4) (I + 2) (I + 3) I (I + 1) l lp c1 c2 c3 c4 c5 c6 i1 i2 i3 i4 i5 lo lpo k1 k2 k3 k4 k5 k6 rfl rfl ms mw F3 (cb_drop N3 (by kcf_all)) T (its_ne hI.1 hI.2.1 hI.2.2 hne) hne2 ?_
  intro e jt te tw tm o5' h4 tk4 m' fr1 fr2 d5' a1 a2 a3 F4 N4
  have hIe : Off5 I e := Or.inr fr2.1
  have nx := next e jt te tw tm o5' m' fr1 hIe d5' a1 a2 a3
  refine ⟨h4, tk4, m', _, rfl, F4, cb_drop (news := [(I + 4, i1), (I + 2, i2), (I + 3, i3), (I, i4), (I + 1, i5)] ++ [(e, listOf #[.str (nm ws sg g) jt, .int (num - rest * 2 ^ P.toNat) te] 0), (sh, listOf (shs.push (.ref e)) (ns + 1)), (wh, listOf (whs.push (.int (wl ws sg g rest P) tw)) (nw + 1)), (p, listOf #[.ref f, .int rest tr] np), (f, listOf yv.toArray nf), (r, listOf tvs.toArray nt), (L + 1 + 1 + 1 + 1 + 1, o5'), (L + 1 + 1 + 1 + 1, o4), (L + 1 + 1 + 1, o3), (L + 1 + 1, o2), (L + 1, o1), (l, lo), (lp, lpo), (c1, k1), (c2, k2), (c3, k3), (c4, k4), (c5, k5), (c6, k6)]) N4 (by kcf_all), off_its ?_, ⟨?_, ?_, trivial⟩, nx⟩
  · refine List.forall_mem_cons.mpr ⟨hIe, ?_⟩
    refine off_same hoff ?_
    with_unfolding_all rfl
  · kcf_m
  · kcf_m
end
end Mine

namespace Mine
section
open PySem PySem.W PyProof.Rows PySem.Spec PySem.Calls
set_option maxRecDepth 100000
set_option maxHeartbeats 20000000
local macro_rules | `(tactic| tb_rel) => `(tactic| first | (k_unfold; (try dsimp only)) | (k_end; wrow_close) | walk1 | (dsimp only; walk1) | (leave1; walk_say "STEP leave1"; try dsimp only) | fail "no step")
theorem lit4 {prog : Program} {w : World} {A : Around} {E : Value → Shared → Prop} {h₀ : Heap} {env : Env} {tg tg' : Expr} {b b' : List Stmt} {Q : Flow → Shared → Prop} {s : Shared} {ws : List (Addr × String)} {keep : List (Addr × Obj)} {items items' : List Itm} {m : Str → Option Value} {news : List (Addr × Obj)}
  (e1 : tg = tg') (e2 : b = b') (e3 : items = items') (h : ItemsRest prog w A E h₀ env tg b Q s ws keep items m news) : ItemsRest prog w A E h₀ env tg' b' Q s ws keep items' m news := by subst e1 e2 e3; exact h
theorem ne_emp {vs : Array Value} {n : Nat} (h : 0 < vs.size) : listOf vs n ≠ listOf #[] 0 := by
  intro e
  have e2 : vs = #[] := by
    have := congrArg Obj.data e
    simp only at this
    injection this
  rw [e2] at h
  exact absurd h (by decide)
theorem ne3l {e a b c : Nat} (h : a < e ∧ b < e ∧ c < e) : e ≠ a ∧ e ≠ b ∧ e ≠ c := by omega
theorem ne3 {e a b c : Nat} (h1 : e ≠ a) (h2 : e ≠ b) (h3 : e ≠ c) : e ≠ a ∧ e ≠ b ∧ e ≠ c := ⟨h1, h2, h3⟩
theorem law5 (trig : PySem.Challenge.rw_xg0044_01 = PySem.Challenge.rw_xg0044_01) (w : World) (mean : ExcName → Option Value) (mg mb : Str → Option Value) (a : Addr) (cd : Value) (h₀ : Heap) (L : Addr) (s : Shared) (m : Str → Option Value) (Q : Flow → Shared → Prop) (E : Value → Shared → Prop)
    (B : Below callerA h₀ [] h₀) (Y : (KF w.params).In h₀)
    (o1 o2 o3 o4 o5 : Obj) 
    (r : Addr) (tvs : List Value) (ws : List Int) (nt : Nat) (hti : IntsAre tvs ws) (htl : ws.length = 3 ∨ ws.length = 6) (hw : ∀ x ∈ ws, 1 ≤ x ∧ x ≤ 3) (d2 : o2.data = Data.cell (some (.ref r)))
    (sg : Str) (tg : Tok) (hs1 : sg.cps.size = ws.length) (hs2 : ∀ j, j < sg.cps.size → sg.cps.getD j 0 = 43 ∨ sg.cps.getD j 0 = 45) (d4 : o4.data = Data.cell (some (.str sg tg))) 
    (d5 : o5.data = Data.cell none)
    (one two : Int) (ti1 ti2 tm : Tok) (p1 p2 p3 f1 f2 f3 : Addr) (y1 y2 y3 : List Value) (t1 t2 t3 : Tok) (n1 n2 n3 n1' n2' n3' : Nat) (lp wh sh : Addr) (np : Nat) (g1 g2 g3 : List Int) (r1 r2 r3 : Int)
    (hy1 : IntsAre y1 g1) (hy2 : IntsAre y2 g2) (hy3 : IntsAre y3 g3) (M P : Int) (G1 : Good ws sg one g1 r1 M P) (G2 : Good ws sg two g2 r2 M P) (G3 : Good ws sg (one + two) g3 r3 M P) (v1 v3 : Option Value) (d1 : o1.data = Data.cell v1) (d3 : o3.data = Data.cell v3)
    (hE : PassesOwn (model PG w) (callerA.deeper (lawEnv w.params L a cd)) (lawEnv w.params L a cd) E)
    (hwsh : wh ≠ sh)
    (F : Fr h₀ L s.heap (fun z => if z = Str.ofString "shown" then some (.ref sh) else if z = Str.ofString "wholes" then some (.ref wh) else if z = Str.ofString "mask" then some (.int 0 tm) else if z = Str.ofString "parted" then some (.ref lp) else if z = Str.ofString "two" then some (.int two ti2) else if z = Str.ofString "one" then some (.int one ti1) else m z))
    (N : News h₀ L s.heap [(sh, listOf #[] 0), (wh, listOf #[] 0), (p3, listOf #[.ref f3, .int r3 t3] n3), (f3, listOf y3.toArray n3'),
        (p2, listOf #[.ref f2, .int r2 t2] n2), (f2, listOf y2.toArray n2'), (p1, listOf #[.ref f1, .int r1 t1] n1), (f1, listOf y1.toArray n1'), (lp, listOf #[.ref p1, .ref p2, .ref p3] np),
        (r, listOf tvs.toArray nt), (L + 1 + 1 + 1 + 1 + 1, o5), (L + 1 + 1 + 1 + 1, o4), (L + 1 + 1 + 1, o3), (L + 1 + 1, o2), (L + 1, o1)])
    (T : Top VW LO mean mg mb h₀)
    (ret : ∀ (e1 e2 e3 : Addr) (jt1 jt2 jt3 te1 te2 te3 tw1 tw2 tw3 tm3 : Tok) (h : Heap) (tk : Nat) (m' : Str → Option Value), m' (Str.ofString "shown") = some (.ref sh) → m' (Str.ofString "wholes") = some (.ref wh) → m' (Str.ofString "mask") = some (.int M tm3) → Fr h₀ L h m' →
      News h₀ L h [(e3, listOf #[.str (nm ws sg g3) jt3, .int (one + two - r3 * 2 ^ P.toNat) te3] 0), (e2, listOf #[.str (nm ws sg g2) jt2, .int (two - r2 * 2 ^ P.toNat) te2] 0), (e1, listOf #[.str (nm ws sg g1) jt1, .int (one - r1 * 2 ^ P.toNat) te1] 0), (sh, listOf #[.ref e1, .ref e2, .ref e3] 3), (wh, listOf #[.int (wl ws sg g1 r1 P) tw1, .int (wl ws sg g2 r2 P) tw2, .int (wl ws sg g3 r3 P) tw3] 3)] →
      wpAny (model PG w) (callerA.deeper (lawEnv w.params L a cd)) (execs ((lawBody w.params).drop 15) (lawEnv w.params L a cd)) Q E { s with heap := h, toks := tk })
    : wpAny (model PG w) (callerA.deeper (lawEnv w.params L a cd)) (execs ((lawBody w.params).drop 14) (lawEnv w.params L a cd)) Q E s := by
  have : PySem.Challenge.rw_xg0044_01 = PySem.Challenge.rw_xg0044_01 ∧ (KF w.params).In h₀ := ⟨rfl, Y⟩
  revert this
  w_top off
  k_with_none
  k_fill
  intro ⟨_, Y2⟩
  clear trig
  have hlen1 := hti.length
  refine lit (by with_unfolding_all rfl) (by with_unfolding_all rfl) ?_
  have hA : ∀ q ∈ [(p1, listOf #[.ref f1, .int r1 t1] n1), (f1, listOf y1.toArray n1'), (p2, listOf #[.ref f2, .int r2 t2] n2), (f2, listOf y2.toArray n2'), (p3, listOf #[.ref f3, .int r3 t3] n3), (f3, listOf y3.toArray n3'), (lp, listOf #[.ref p1, .ref p2, .ref p3] np), (r, listOf tvs.toArray nt)], (q : Addr × Obj).1 ≠ sh ∧ q.1 ≠ wh ∧ q.1 ≠ L + 1 + 1 + 1 + 1 + 1 := by
    have k1 := hy1.length
    have k2 := hy2.length
    have k3 := hy3.length
    have j1 := G1.len
    have j2 := G2.len
    have j3 := G3.len
    repeat' (first | exact List.forall_mem_nil _ | refine List.forall_mem_cons.mpr ⟨?_, ?_⟩)
    all_goals refine ⟨ne_data N (p := (_, _)) (by kcf_m) (o := listOf #[] 0) (by kcf_m) (ne_emp ?_), ne_data N (p := (_, _)) (by kcf_m) (o := listOf #[] 0) (by kcf_m) (ne_emp ?_), ne_cell N (p := (_, _)) (by kcf_m) (by kcf_m) d5 rfl⟩
    all_goals first | (rw [List.size_toArray]; omega) | decide | simp
  have hq1 : Ne2 p1 f1 r wh sh := ⟨(hA (p1, _) (by kcf_m)).2.1, (hA (f1, _) (by kcf_m)).2.1, (hA (r, _) (by kcf_m)).2.1, (hA (p1, _) (by kcf_m)).1, (hA (f1, _) (by kcf_m)).1, (hA (r, _) (by kcf_m)).1, hwsh⟩
  have hq2 : Ne2 p2 f2 r wh sh := ⟨(hA (p2, _) (by kcf_m)).2.1, (hA (f2, _) (by kcf_m)).2.1, (hA (r, _) (by kcf_m)).2.1, (hA (p2, _) (by kcf_m)).1, (hA (f2, _) (by kcf_m)).1, (hA (r, _) (by kcf_m)).1, hwsh⟩
  have hq3 : Ne2 p3 f3 r wh sh := ⟨(hA (p3, _) (by kcf_m)).2.1, (hA (f3, _) (by kcf_m)).2.1, (hA (r, _) (by kcf_m)).2.1, (hA (p3, _) (by kcf_m)).1, (hA (f3, _) (by kcf_m)).1, (hA (r, _) (by kcf_m)).1, hwsh⟩
  clear hwsh
  iterate 1 tb_rel
  (rename Fr _ _ _ _ => lF')
  (with_unfolding_all refine' For_turns lF' ?_ (hE := hE))
  iterate 34 tb_rel
  refine lit4 (by with_unfolding_all rfl) (by with_unfolding_all rfl) (items := [.pair (fun _ => .int one ti1) (.ref p1), .pair (fun _ => .int two ti2) (.ref p2), .pair (fun _ => .int (one + two) _) (.ref p3)]) rfl ?_
  refine' turnI w mean mg mb a cd h₀ L _ _ _ E B Y o1 o2 o3 o4 _ r tvs ws nt hti htl hw d2 sg tg hs1 hs2 d4 _ ?d5 v1 v3 d1 d3 one r1 _ t1 p1 f1 wh sh y1 g1 n1 n1' _ _ hy1 M P G1 #[] #[] ?hws ?hss _ _ lp _ (listOf #[.ref p1, .ref p2, .ref p3] np) p2 f2 p3 f3 lp lp (listOf #[.ref f2, .int r2 t2] n2) (listOf y2.toArray n2') (listOf #[.ref f3, .int r3 t3] n3) (listOf y3.toArray n3') (listOf #[.ref p1, .ref p2, .ref p3] np) (listOf #[.ref p1, .ref p2, .ref p3] np) ?ms ?mw T ?hne hq1 _ ?hsub ?hoff _ ?next
  case d5 => exact d5
  case ms => rfl
  case mw => rfl
  case hsub => kcf_all
  case hws => (first | decide | simp)
  case hss => (first | decide | simp)
  case hoff => ((repeat' (first | exact List.forall_mem_nil _ | refine List.forall_mem_cons.mpr ⟨?_, ?_⟩)); all_goals first | assumption | exact Or.inl (by omega))
  case hne => ((repeat' (first | exact List.forall_mem_nil _ | refine List.forall_mem_cons.mpr ⟨?_, ?_⟩)); all_goals first | exact hA _ (by kcf_m) | exact ne3l fr1 | exact ne3l fr2 | exact ne3 (by omega) (by omega) (by omega))
  case next =>
  intro e1 jt1 te1 tw1 tm1 o5a m1 fr1 hI1 d51 as1 aw1 am1
  refine' turnI w mean mg mb a cd h₀ L _ _ _ E B Y o1 o2 o3 o4 _ r tvs ws nt hti htl hw d2 sg tg hs1 hs2 d4 _ ?d5 v1 v3 d1 d3 two r2 _ t2 p2 f2 wh sh y2 g2 n2 n2' _ _ hy2 M P G2 _ _ ?hws ?hss _ _ lp _ (listOf #[.ref p1, .ref p2, .ref p3] np) p1 f1 p3 f3 e1 e1 (listOf #[.ref f1, .int r1 t1] n1) (listOf y1.toArray n1') (listOf #[.ref f3, .int r3 t3] n3) (listOf y3.toArray n3') _ _ ?ms ?mw T ?hne hq2 _ ?hsub ?hoff _ ?next
  case d5 => exact d51
  case ms => exact as1
  case mw => exact aw1
  case hsub => kcf_all
  case hws => (first | decide | simp)
  case hss => (first | decide | simp)
  case hoff => ((repeat' (first | exact List.forall_mem_nil _ | refine List.forall_mem_cons.mpr ⟨?_, ?_⟩)); all_goals first | assumption | exact Or.inl (by omega))
  case hne => ((repeat' (first | exact List.forall_mem_nil _ | refine List.forall_mem_cons.mpr ⟨?_, ?_⟩)); all_goals first | exact hA _ (by kcf_m) | exact ne3l fr1 | exact ne3l fr2 | exact ne3 (by omega) (by omega) (by omega))
  case next =>
  intro e2 jt2 te2 tw2 tm2 o5b m2 fr2 hI2 d52 as2 aw2 am2
  refine' turnI w mean mg mb a cd h₀ L _ _ _ E B Y o1 o2 o3 o4 _ r tvs ws nt hti htl hw d2 sg tg hs1 hs2 d4 _ ?d5 v1 v3 d1 d3 (one + two) r3 _ t3 p3 f3 wh sh y3 g3 n3 n3' _ _ hy3 M P G3 _ _ ?hws ?hss _ _ lp _ (listOf #[.ref p1, .ref p2, .ref p3] np) p1 f1 p2 f2 e1 e2 (listOf #[.ref f1, .int r1 t1] n1) (listOf y1.toArray n1') (listOf #[.ref f2, .int r2 t2] n2) (listOf y2.toArray n2') _ _ ?ms ?mw T ?hne hq3 _ ?hsub ?hoff _ ?next
  case d5 => exact d52
  case ms => exact as2
  case mw => exact aw2
  case hsub => kcf_all
  case hws => (first | decide | simp)
  case hss => (first | decide | simp)
  case hoff => ((repeat' (first | exact List.forall_mem_nil _ | refine List.forall_mem_cons.mpr ⟨?_, ?_⟩)); all_goals first | assumption | exact Or.inl (by omega))
  case hne => ((repeat' (first | exact List.forall_mem_nil _ | refine List.forall_mem_cons.mpr ⟨?_, ?_⟩)); all_goals first | exact hA _ (by kcf_m) | exact ne3l fr1 | exact ne3l fr2 | exact ne3 (by omega) (by omega) (by omega))
  case next =>
  intro e3 jt3 te3 tw3 tm3 o5c m3 fr3 hI3 d53 as3 aw3 am3
  refine ItemsRest.zero (fun h4 tk4 F4 N4 => ?_)
  refine lit2 (by with_unfolding_all rfl) (ret e1 e2 e3 jt1 jt2 jt3 te1 te2 te3 tw1 tw2 tw3 tm3 h4 tk4 m3 as3 aw3 am3 F4 (cb_drop N4 ?_))
  kcf_all
end
end Mine

namespace Mine
section
open PySem PySem.W PyProof.Rows PySem.Spec PySem.Calls
set_option maxRecDepth 100000
set_option maxHeartbeats 20000000
local macro_rules | `(tactic| tb_rel) => `(tactic| first | (k_unfold; (try dsimp only)) | (k_end; wrow_close) | walk1 | (dsimp only; walk1) | (leave1; walk_say "STEP leave1"; try dsimp only) | fail "no step")
theorem cmp_eq {a b c d : Bool} (h1 : a = c) (h2 : b = d) : (b2i a - b2i b != b2i c - b2i d) = false := by subst h1 h2; exact bne_self_eq_false _
theorem truthyF {M : Model} {A : Around} {Q : Bool → Shared → Prop} {E : Value → Shared → Prop} {s : Shared} {x : Bool} (hx : x = false) (h : wpAny M A (truthy (.bool false)) Q E s) : wpAny M A (truthy (.bool x)) Q E s := by subst hx; exact h
local macro_rules | `(tactic| walk_at "truthy bool") => `(tactic| (with_reducible refine truthyF (cmp_eq (by assumption) (by assumption)) ?_))
theorem off_it {h₀ h : Heap} {L : Addr} {news news' its : List (Addr × Obj)} (N : News h₀ L h news) (h1 : ∀ p ∈ news', p ∈ news) (h2 : ∀ q ∈ its, q ∈ news) (c1 : ∀ p ∈ news', (p : Addr × Obj).2.cls = .type "list") (c2 : ∀ q ∈ its, (q : Addr × Obj).2.cls ≠ .type "list") : ∀ p ∈ news', ∀ q ∈ its, (p : Addr × Obj).1 ≠ (q : Addr × Obj).1 := by
  intro p hp q hq e
  have a1 := (N p (h1 p hp)).1
  have a2 := (N q (h2 q hq)).1
  rw [e] at a1
  have a3 : p.2 = q.2 := Option.some.inj (a1.symm.trans a2)
  exact c2 q hq (a3 ▸ c1 p hp)
theorem cls_ne {o : Obj} (h : o.cls = .type "list_iterator") : o.cls ≠ .type "list" := by rw [h]; decide
noncomputable def cmpBody (P : Params) : List Stmt := match (lawBody P).drop 16 with | Stmt.For _ _ (Stmt.For _ _ b _ _ :: _) _ _ :: _ => b | _ => []
theorem cmpTurn (trig : PySem.Challenge.rw_xg0044_01 = PySem.Challenge.rw_xg0044_01) (w : World) (mean : ExcName → Option Value) (mg mb : Str → Option Value) (a : Addr) (cd : Value) (h₀ : Heap) (L : Addr) (s : Shared) (m : Str → Option Value) (Q : Flow → Shared → Prop) (E : Value → Shared → Prop)
    (B : Below callerA h₀ [] h₀) (Y : (KF w.params).In h₀) (N1 N2 : Str) (v1 v2 : Int) (j1 j2 t1 t2 : Tok) (news : List (Addr × Obj))
    (C12 : decide (N1.cps.toList < N2.cps.toList) = decide (v1 < v2)) (C21 : decide (N2.cps.toList < N1.cps.toList) = decide (v2 < v1))
    (mv : m (Str.ofString "value") = some (.int v2 t2)) (mo : m (Str.ofString "other") = some (.str N2 j2)) (ml : m (Str.ofString "low") = some (.int v1 t1)) (mn : m (Str.ofString "name") = some (.str N1 j1))
    (F : Fr h₀ L s.heap m)
    (N : News h₀ L s.heap news)
    (T : Top VW LO mean mg mb h₀)
    (ret : ∀ (h : Heap) (tk : Nat) (r : Int) (tr : Tok), Fr h₀ L h (fun y => if y = Str.ofString "answer" then some (.int r tr) else m y) → News h₀ L h news → Q .next { s with heap := h, toks := tk })
    : wpAny (model PG w) (callerA.deeper (lawEnv w.params L a cd)) (execs (cmpBody w.params) (lawEnv w.params L a cd)) Q E s := by
  have e : m = fun z => if z = Str.ofString "value" then some (.int v2 t2) else if z = Str.ofString "other" then some (.str N2 j2) else if z = Str.ofString "low" then some (.int v1 t1) else if z = Str.ofString "name" then some (.str N1 j1) else m z := by
    funext z
    split
    · rename_i h; rw [h, mv]
    split
    · rename_i h; rw [h, mo]
    split
    · rename_i h; rw [h, ml]
    split
    · rename_i h; rw [h, mn]
    rfl
  rw [e] at F
  have ret2 : ∀ (h : Heap) (tk : Nat) (r : Int) (tr : Tok), Fr h₀ L h (fun y => if y = Str.ofString "answer" then some (.int r tr) else (fun z => if z = Str.ofString "value" then some (.int v2 t2) else if z = Str.ofString "other" then some (.str N2 j2) else if z = Str.ofString "low" then some (.int v1 t1) else if z = Str.ofString "name" then some (.str N1 j1) else m z) y) → News h₀ L h news → Q .next { s with heap := h, toks := tk } := by
    rw [← e]; exact ret
  clear ret e
  have : PySem.Challenge.rw_xg0044_01 = PySem.Challenge.rw_xg0044_01 ∧ (KF w.params).In h₀ := ⟨rfl, Y⟩
  revert this
  w_top off
  k_with_none
  k_fill
  intro ⟨_, Y2⟩
  clear trig
  refine lit (by with_unfolding_all rfl) (by with_unfolding_all rfl) ?_
  iterate 65 tb_rel
  (rename News _ _ _ _ => nE)
  (rename Fr _ _ _ _ => fE)
  exact ret2 _ _ _ _ fE nE
end
end Mine

namespace Mine
section
open PySem PySem.W PyProof.Rows PySem.Spec PySem.Calls
set_option maxRecDepth 100000
set_option maxHeartbeats 20000000
local macro_rules | `(tactic| tb_rel) => `(tactic| first | (k_unfold; (try dsimp only)) | (k_end; wrow_close) | walk1 | (dsimp only; walk1) | (leave1; walk_say "STEP leave1"; try dsimp only) | fail "no step")
local macro_rules | `(tactic| walk_at "call ref") => `(tactic| ((rename Fr _ _ _ _ => fE'); (rename News _ _ _ _ => nE'); k_dflt (first
  | refine' op_add rfl _ _ _ _ _ _ _ _ _ _ _ _ _ _ _ _ _ _ _ _ _ _ ?ob fE' ?ox nE' ?ot ?ok ?od ?ou _ _ _ _ ?_
  | refine' op_sub rfl _ _ _ _ _ _ _ _ _ _ _ _ _ _ _ _ _ _ _ _ _ _ ?ob fE' ?ox nE' ?ot ?ok ?od ?ou _ _ _ _ ?_
  | refine' op_xor rfl _ _ _ _ _ _ _ _ _ _ _ _ _ _ _ _ _ _ _ _ _ _ ?ob fE' ?ox nE' ?ot ?ok ?od ?ou _ _ _ _ ?_
  | refine' op_or_ rfl _ _ _ _ _ _ _ _ _ _ _ _ _ _ _ _ _ _ _ _ _ _ ?ob fE' ?ox nE' ?ot ?ok ?od ?ou _ _ _ _ ?_
  | refine' op_neg rfl _ _ _ _ _ _ _ _ _ _ _ _ _ _ _ _ _ _ _ _ _ _ ?ob fE' ?ox nE' ?ot ?ok ?od ?ou _ _ ?_); (case ob => assumption); (case ox => assumption); (case ot => assumption); (case ok => with_unfolding_all rfl); (case od => k_dflt (first | exact Nat.le_of_ble_eq_true rfl | omega)); (case ou => k_dflt (first | exact Nat.le_of_ble_eq_true rfl | omega)); clear fE' nE'; intro t' h' tk' F' N'))
local macro_rules | `(tactic| walk_at "call ref") => `(tactic| ((rename Fr _ _ _ _ => fE'); (rename News _ _ _ _ => nE'); k_dflt (refine' op_lshift rfl _ _ _ _ _ _ _ _ _ _ _ _ _ _ _ _ _ _ _ _ _ _ ?ob fE' ?ox nE' ?ot ?ok ?od ?ou _ _ _ _ ?oy ?oz ?ow ?_); (case ob => assumption); (case ox => assumption); (case ot => assumption); (case ok => with_unfolding_all rfl); (case od => k_dflt (first | exact Nat.le_of_ble_eq_true rfl | omega)); (case ou => k_dflt (first | exact Nat.le_of_ble_eq_true rfl | omega)); (case oy => first | assumption | omega); (case oz => first | assumption | omega); (case ow => k_dflt (first | assumption | exact ⟨by decide⟩ | exact ⟨by omega⟩)); clear fE' nE'; intro t' h' tk' F' N'))
theorem law6 (trig : PySem.Challenge.rw_xg0044_01 = PySem.Challenge.rw_xg0044_01) (w : World) (mean : ExcName → Option Value) (mg mb : Str → Option Value) (a : Addr) (cd : Value) (h₀ : Heap) (L : Addr) (s : Shared) (m : Str → Option Value) (Q : Flow → Shared → Prop) (E : Value → Shared → Prop)
    (B : Below callerA h₀ [] h₀) (Y : (KF w.params).In h₀)
    (sh wh e1 e2 e3 : Addr) (N1 N2 N3 : Str) (v1 v2 v3 w1 w2 w3 M : Int) (jt1 jt2 jt3 te1 te2 te3 tw1 tw2 tw3 tm : Tok)
    (F : Fr h₀ L s.heap (fun z => if z = Str.ofString "mask" then some (.int M tm) else if z = Str.ofString "shown" then some (.ref sh) else if z = Str.ofString "wholes" then some (.ref wh) else m z))
    (N : News h₀ L s.heap [(e3, listOf #[.str N3 jt3, .int v3 te3] 0), (e2, listOf #[.str N2 jt2, .int v2 te2] 0), (e1, listOf #[.str N1 jt1, .int v1 te1] 0), (sh, listOf #[.ref e1, .ref e2, .ref e3] 3), (wh, listOf #[.int w1 tw1, .int w2 tw2, .int w3 tw3] 3)])
    (hE : PassesOwn (model PG w) (callerA.deeper (lawEnv w.params L a cd)) (lawEnv w.params L a cd) E)
    (H5 : Builtin.bitXor (Builtin.bitXor w1 M + Builtin.bitXor w2 M - M) M = w3)
    (C11 : decide (N1.cps.toList < N1.cps.toList) = decide (v1 < v1)) (C12 : decide (N1.cps.toList < N2.cps.toList) = decide (v1 < v2)) (C13 : decide (N1.cps.toList < N3.cps.toList) = decide (v1 < v3)) (C21 : decide (N2.cps.toList < N1.cps.toList) = decide (v2 < v1)) (C22 : decide (N2.cps.toList < N2.cps.toList) = decide (v2 < v2)) (C23 : decide (N2.cps.toList < N3.cps.toList) = decide (v2 < v3)) (C31 : decide (N3.cps.toList < N1.cps.toList) = decide (v3 < v1)) (C32 : decide (N3.cps.toList < N2.cps.toList) = decide (v3 < v2)) (C33 : decide (N3.cps.toList < N3.cps.toList) = decide (v3 < v3))
    (T : Top VW LO mean mg mb h₀)
    (ret : ∀ (h : Heap) (tk : Nat) (m' : Str → Option Value), Fr h₀ L h m' → Q (.ret (.bool true)) { s with heap := h, toks := tk })
    : wpAny (model PG w) (callerA.deeper (lawEnv w.params L a cd)) (execs ((lawBody w.params).drop 15) (lawEnv w.params L a cd)) Q E s := by
  have : PySem.Challenge.rw_xg0044_01 = PySem.Challenge.rw_xg0044_01 ∧ (KF w.params).In h₀ := ⟨rfl, Y⟩
  revert this
  w_top off
  k_with_none
  k_fill
  intro ⟨_, Y2⟩
  clear trig
  refine lit (by with_unfolding_all rfl) (by with_unfolding_all rfl) ?_
  have G5 : (Builtin.bitXor (Builtin.bitXor ([w1, w2, w3].getD (Int.toNat 0) 0) M + Builtin.bitXor ([w1, w2, w3].getD (Int.toNat 1) 0) M - M) M != [w1, w2, w3].getD (Int.toNat 2) 0) = false := by
    show (Builtin.bitXor (Builtin.bitXor w1 M + Builtin.bitXor w2 M - M) M != w3) = false
    rw [H5]; exact bne_self_eq_false _
  iterate 76 tb_rel
  rw [G5]
  iterate 31 tb_rel
  (rename News _ _ _ _ => nE)
  (rename Fr _ _ _ _ => fE)
  refine lit2 (b := cmpBody w.params) (by with_unfolding_all rfl) (cmpTurn rfl w mean mg mb a cd h₀ L ⟨_, _, _, _, _⟩ _ _ E B Y N1 N1 v1 v1 jt1 jt1 te1 te1 _ C11 C11 ?mv ?mo ?ml ?mn fE nE T ?cmp)
  case mv => rfl
  case mo => rfl
  case ml => rfl
  case mn => rfl
  case cmp =>
  clear fE nE
  intro h' tk' r' tr' F' N'
  iterate 11 tb_rel
  (rename News _ _ _ _ => nE)
  (rename Fr _ _ _ _ => fE)
  refine lit2 (b := cmpBody w.params) (by with_unfolding_all rfl) (cmpTurn rfl w mean mg mb a cd h₀ L ⟨_, _, _, _, _⟩ _ _ E B Y N1 N2 v1 v2 jt1 jt2 te1 te2 _ C12 C21 ?mv ?mo ?ml ?mn fE nE T ?cmp)
  case mv => rfl
  case mo => rfl
  case ml => rfl
  case mn => rfl
  case cmp =>
  clear fE nE
  intro h' tk' r' tr' F' N'
  iterate 11 tb_rel
  (rename News _ _ _ _ => nE)
  (rename Fr _ _ _ _ => fE)
  refine lit2 (b := cmpBody w.params) (by with_unfolding_all rfl) (cmpTurn rfl w mean mg mb a cd h₀ L ⟨_, _, _, _, _⟩ _ _ E B Y N1 N3 v1 v3 jt1 jt3 te1 te3 _ C13 C31 ?mv ?mo ?ml ?mn fE nE T ?cmp)
  case mv => rfl
  case mo => rfl
  case ml => rfl
  case mn => rfl
  case cmp =>
  clear fE nE
  intro h' tk' r' tr' F' N'
  iterate 5 tb_rel
  (rename News _ _ _ _ => nE)
  (rename Fr _ _ _ _ => fE)
  refine' ⟨_, _, _, [(e3, listOf #[.str N3 jt3, .int v3 te3] 0), (e2, listOf #[.str N2 jt2, .int v2 te2] 0), (e1, listOf #[.str N1 jt1, .int v1 te1] 0), (sh, listOf #[.ref e1, .ref e2, .ref e3] 3), (wh, listOf #[.int w1 tw1, .int w2 tw2, .int w3 tw3] 3)], rfl, fE, ?_, off_it nE (by kcf_all) ?sub (by repeat' (first | exact List.forall_mem_nil _ | refine List.forall_mem_cons.mpr ⟨rfl, ?_⟩)) ?cl, ⟨?kp, ?_⟩⟩
  case sub => kcf_all
  case cl => exact fun q hq => by rw [List.mem_singleton.mp hq]; exact cls_ne (by assumption)
  case kp => k_subL
  · exact cb_drop nE (by kcf_all)
  clear fE nE
  iterate 23 tb_rel
  (rename News _ _ _ _ => nE)
  (rename Fr _ _ _ _ => fE)
  refine lit2 (b := cmpBody w.params) (by with_unfolding_all rfl) (cmpTurn rfl w mean mg mb a cd h₀ L ⟨_, _, _, _, _⟩ _ _ E B Y N2 N1 v2 v1 jt2 jt1 te2 te1 _ C21 C12 ?mv ?mo ?ml ?mn fE nE T ?cmp)
  case mv => rfl
  case mo => rfl
  case ml => rfl
  case mn => rfl
  case cmp =>
  clear fE nE
  intro h' tk' r' tr' F' N'
  iterate 11 tb_rel
  (rename News _ _ _ _ => nE)
  (rename Fr _ _ _ _ => fE)
  refine lit2 (b := cmpBody w.params) (by with_unfolding_all rfl) (cmpTurn rfl w mean mg mb a cd h₀ L ⟨_, _, _, _, _⟩ _ _ E B Y N2 N2 v2 v2 jt2 jt2 te2 te2 _ C22 C22 ?mv ?mo ?ml ?mn fE nE T ?cmp)
  case mv => rfl
  case mo => rfl
  case ml => rfl
  case mn => rfl
  case cmp =>
  clear fE nE
  intro h' tk' r' tr' F' N'
  iterate 11 tb_rel
  (rename News _ _ _ _ => nE)
  (rename Fr _ _ _ _ => fE)
  refine lit2 (b := cmpBody w.params) (by with_unfolding_all rfl) (cmpTurn rfl w mean mg mb a cd h₀ L ⟨_, _, _, _, _⟩ _ _ E B Y N2 N3 v2 v3 jt2 jt3 te2 te3 _ C23 C32 ?mv ?mo ?ml ?mn fE nE T ?cmp)
  case mv => rfl
  case mo => rfl
  case ml => rfl
  case mn => rfl
  case cmp =>
  clear fE nE
  intro h' tk' r' tr' F' N'
  iterate 5 tb_rel
  (rename News _ _ _ _ => nE)
  (rename Fr _ _ _ _ => fE)
  refine' ⟨_, _, _, [(e3, listOf #[.str N3 jt3, .int v3 te3] 0), (e2, listOf #[.str N2 jt2, .int v2 te2] 0), (e1, listOf #[.str N1 jt1, .int v1 te1] 0), (sh, listOf #[.ref e1, .ref e2, .ref e3] 3), (wh, listOf #[.int w1 tw1, .int w2 tw2, .int w3 tw3] 3)], rfl, fE, ?_, off_it nE (by kcf_all) ?sub (by repeat' (first | exact List.forall_mem_nil _ | refine List.forall_mem_cons.mpr ⟨rfl, ?_⟩)) ?cl, ⟨?kp, ?_⟩⟩
  case sub => kcf_all
  case cl => exact fun q hq => by rw [List.mem_singleton.mp hq]; exact cls_ne (by assumption)
  case kp => k_subL
  · exact cb_drop nE (by kcf_all)
  clear fE nE
  iterate 23 tb_rel
  (rename News _ _ _ _ => nE)
  (rename Fr _ _ _ _ => fE)
  refine lit2 (b := cmpBody w.params) (by with_unfolding_all rfl) (cmpTurn rfl w mean mg mb a cd h₀ L ⟨_, _, _, _, _⟩ _ _ E B Y N3 N1 v3 v1 jt3 jt1 te3 te1 _ C31 C13 ?mv ?mo ?ml ?mn fE nE T ?cmp)
  case mv => rfl
  case mo => rfl
  case ml => rfl
  case mn => rfl
  case cmp =>
  clear fE nE
  intro h' tk' r' tr' F' N'
  iterate 11 tb_rel
  (rename News _ _ _ _ => nE)
  (rename Fr _ _ _ _ => fE)
  refine lit2 (b := cmpBody w.params) (by with_unfolding_all rfl) (cmpTurn rfl w mean mg mb a cd h₀ L ⟨_, _, _, _, _⟩ _ _ E B Y N3 N2 v3 v2 jt3 jt2 te3 te2 _ C32 C23 ?mv ?mo ?ml ?mn fE nE T ?cmp)
  case mv => rfl
  case mo => rfl
  case ml => rfl
  case mn => rfl
  case cmp =>
  clear fE nE
  intro h' tk' r' tr' F' N'
  iterate 11 tb_rel
  (rename News _ _ _ _ => nE)
  (rename Fr _ _ _ _ => fE)
  refine lit2 (b := cmpBody w.params) (by with_unfolding_all rfl) (cmpTurn rfl w mean mg mb a cd h₀ L ⟨_, _, _, _, _⟩ _ _ E B Y N3 N3 v3 v3 jt3 jt3 te3 te3 _ C33 C33 ?mv ?mo ?ml ?mn fE nE T ?cmp)
  case mv => rfl
  case mo => rfl
  case ml => rfl
  case mn => rfl
  case cmp =>
  clear fE nE
  intro h' tk' r' tr' F' N'
  iterate 5 tb_rel
  (rename News _ _ _ _ => nE)
  (rename Fr _ _ _ _ => fE)
  refine' ⟨_, _, _, [(e3, listOf #[.str N3 jt3, .int v3 te3] 0), (e2, listOf #[.str N2 jt2, .int v2 te2] 0), (e1, listOf #[.str N1 jt1, .int v1 te1] 0), (sh, listOf #[.ref e1, .ref e2, .ref e3] 3), (wh, listOf #[.int w1 tw1, .int w2 tw2, .int w3 tw3] 3)], rfl, fE, ?_, off_it nE (by kcf_all) ?sub (by repeat' (first | exact List.forall_mem_nil _ | refine List.forall_mem_cons.mpr ⟨rfl, ?_⟩)) ?cl, ⟨?kp, ?_⟩⟩
  case sub => kcf_all
  case cl => exact fun q hq => by rw [List.mem_singleton.mp hq]; exact cls_ne (by assumption)
  case kp => k_subL
  · exact cb_drop nE (by kcf_all)
  clear fE nE
  iterate 4 tb_rel
  (rename Fr _ _ _ _ => fE)
  exact ret _ _ _ fE
end
end Mine

namespace Mine
section
open PySem PySem.W PyProof.Rows PySem.Spec PySem.Calls
set_option maxRecDepth 100000
set_option maxHeartbeats 20000000
local macro_rules | `(tactic| tb_rel) => `(tactic| first | (k_unfold; (try dsimp only)) | (k_end; wrow_close) | walk1 | (dsimp only; walk1) | (leave1; walk_say "STEP leave1"; try dsimp only) | fail "no step")
abbrev cutF (k : Int) : Int := if 0 ≤ k then k.fmod (10 ^ Int.toNat 9) else -(-k).fmod (10 ^ Int.toNat 9)
theorem cut_len (ns : List Int) (f : Int → Int) : (List.map f (List.take 60 ns)).length ≤ 60 := by
  rw [List.length_map, List.length_take]; omega
theorem cut_bd (l : List Int) : ∀ x ∈ List.map (fun k' => if 0 ≤ k' then Int.fmod k' (10 ^ Int.toNat 9) else -Int.fmod (-k') (10 ^ Int.toNat 9)) l, -1000000000 ≤ x ∧ x ≤ 1000000000 := by
  intro x hx
  obtain ⟨k, _, rfl⟩ := List.mem_map.mp hx
  have e : (10 : Int) ^ Int.toNat 9 = 1000000000 := by decide
  rw [e]
  have h1 := Int.fmod_nonneg_of_pos k (show (0 : Int) < 1000000000 by decide)
  have h2 := Int.fmod_lt_of_pos k (show (0 : Int) < 1000000000 by decide)
  have h3 := Int.fmod_nonneg_of_pos (-k) (show (0 : Int) < 1000000000 by decide)
  have h4 := Int.fmod_lt_of_pos (-k) (show (0 : Int) < 1000000000 by decide)
  split <;> omega
theorem law0 (trig : PySem.Challenge.rw_xg0044_01 = PySem.Challenge.rw_xg0044_01) (w : World) (mean : ExcName → Option Value) (mg mb : Str → Option Value) (a : Addr) (cd : Value) (h₀ : Heap) (L : Addr) (s : Shared) (m : Str → Option Value) (Q : Flow → Shared → Prop) (E : Value → Shared → Prop)
    (B : Below callerA h₀ [] h₀) (Y : (KF w.params).In h₀)
    (o1 o2 o3 o4 o5 : Obj) (d1 : o1.data = Data.cell none)
    (sl : Addr) (svs : List Value) (ns : List Int) (hS : h₀.IsList sl svs.toArray) (hI : IntsAre svs ns) (hn : ns.length ≤ 63)
    (F : Fr h₀ L s.heap (fun z => if z = Str.ofString "script" then some (.ref sl) else m z))
    (N : News h₀ L s.heap [(L + 1 + 1 + 1 + 1 + 1, o5), (L + 1 + 1 + 1 + 1, o4), (L + 1 + 1 + 1, o3), (L + 1 + 1, o2), (L + 1, o1)])
    (T : Top VW LO mean mg mb h₀)
    (ret : ∀ (vc : Addr) (cvs : List Value) (cs : List Int) (nc : Nat) (o1' : Obj) (h : Heap) (tk : Nat), IntsAre cvs cs → cs.length ≤ 60 → (∀ x ∈ cs, -1000000000 ≤ x ∧ x ≤ 1000000000) → o1'.data = Data.cell (some (.ref vc)) → Fr h₀ L h (fun z => if z = Str.ofString "script" then some (.ref sl) else m z) →
      News h₀ L h [(vc, listOf cvs.toArray nc), (L + 1 + 1 + 1 + 1 + 1, o5), (L + 1 + 1 + 1 + 1, o4), (L + 1 + 1 + 1, o3), (L + 1 + 1, o2), (L + 1, o1')] →
      wpAny (model PG w) (callerA.deeper (lawEnv w.params L a cd)) (execs ((lawBody w.params).drop 1) (lawEnv w.params L a cd)) Q E { s with heap := h, toks := tk })
    : wpAny (model PG w) (callerA.deeper (lawEnv w.params L a cd)) (execs (lawBody w.params) (lawEnv w.params L a cd)) Q E s := by
  have : PySem.Challenge.rw_xg0044_01 = PySem.Challenge.rw_xg0044_01 ∧ (KF w.params).In h₀ := ⟨rfl, Y⟩
  revert this
  w_top off
  k_with_none
  k_fill
  intro ⟨_, Y2⟩
  clear trig
  refine lit (by with_unfolding_all rfl) (by with_unfolding_all rfl) ?_
  iterate 37 tb_rel
  (rename News _ _ _ _ => nE)
  (rename Fr _ _ _ _ => fE)
  refine' lit2 (by with_unfolding_all rfl) (ret _ _ _ _ _ _ _ (by assumption) (cut_len _ _) (cut_bd _) ?dd fE ?drp)
  case drp => exact cb_drop nE (by kcf_all)
  case dd => assumption
end
end Mine

namespace Mine
section
open PySem PyProof.Rows
theorem nat_and2 (m n a b : Nat) (ha : a < 2) (hb : b < 2) : ((2 * m + a) &&& (2 * n + b)) = 2 * (m &&& n) + (if a = 1 ∧ b = 1 then 1 else 0) := by
  have h1 := @Nat.and_div_two (2 * m + a) (2 * n + b)
  have e1 : (2 * m + a) / 2 = m := by omega
  have e2 : (2 * n + b) / 2 = n := by omega
  rw [e1, e2] at h1
  have h2 := @Nat.and_mod_two_eq_one (2 * m + a) (2 * n + b)
  generalize ((2 * m + a) &&& (2 * n + b)) = z at *
  have e3 : (2 * m + a) % 2 = a := by omega
  have e4 : (2 * n + b) % 2 = b := by omega
  rw [e3, e4] at h2
  split
  · rename_i h; have := h2.mpr h; omega
  · rename_i h
    have : ¬ z % 2 = 1 := fun q => h (h2.mp q)
    omega
theorem nat_or2 (m n a b : Nat) (ha : a < 2) (hb : b < 2) : ((2 * m + a) ||| (2 * n + b)) = 2 * (m ||| n) + (if a = 1 ∨ b = 1 then 1 else 0) := by
  have h1 := @Nat.or_div_two (2 * m + a) (2 * n + b)
  have e1 : (2 * m + a) / 2 = m := by omega
  have e2 : (2 * n + b) / 2 = n := by omega
  rw [e1, e2] at h1
  have h2 := @Nat.or_mod_two_eq_one (2 * m + a) (2 * n + b)
  generalize ((2 * m + a) ||| (2 * n + b)) = z at *
  have e3 : (2 * m + a) % 2 = a := by omega
  have e4 : (2 * n + b) % 2 = b := by omega
  rw [e3, e4] at h2
  split
  · rename_i h; have := h2.mpr h; omega
  · rename_i h
    have : ¬ z % 2 = 1 := fun q => h (h2.mp q)
    omega
theorem and2 (x y a b : Int) (ha : 0 ≤ a ∧ a < 2) (hb : 0 ≤ b ∧ b < 2) : Builtin.bitAnd (2 * x + a) (2 * y + b) = 2 * Builtin.bitAnd x y + (if a = 1 ∧ b = 1 then 1 else 0) := by
  obtain ⟨a', rfl⟩ : ∃ n : Nat, a = n := ⟨a.toNat, by omega⟩
  obtain ⟨b', rfl⟩ : ∃ n : Nat, b = n := ⟨b.toNat, by omega⟩
  have ha' : a' < 2 := by omega
  have hb' : b' < 2 := by omega
  by_cases hx : 0 ≤ x <;> by_cases hy : 0 ≤ y
  · rw [bitAnd_pp (by omega) (by omega), bitAnd_pp hx hy]
    have e1 : (2 * x + (a' : Int)).toNat = 2 * x.toNat + a' := by omega
    have e2 : (2 * y + (b' : Int)).toNat = 2 * y.toNat + b' := by omega
    rw [e1, e2, nat_and2 _ _ _ _ ha' hb']
    generalize (x.toNat &&& y.toNat) = z
    split <;> split <;> omega
  · rw [bitAnd_pn (by omega) (by omega), bitAnd_pn hx hy]
    have e1 : (2 * x + (a' : Int)).toNat = 2 * x.toNat + a' := by omega
    have e2 : (Builtin.bitNot (2 * y + (b' : Int))).toNat = 2 * (Builtin.bitNot y).toNat + (1 - b') := by unfold Builtin.bitNot; omega
    rw [e1, e2, nat_and2 _ _ _ _ ha' (by omega)]
    generalize (x.toNat &&& (Builtin.bitNot y).toNat) = z
    split <;> split <;> omega
  · rw [bitAnd_np (by omega) (by omega), bitAnd_np hx hy]
    have e1 : (2 * y + (b' : Int)).toNat = 2 * y.toNat + b' := by omega
    have e2 : (Builtin.bitNot (2 * x + (a' : Int))).toNat = 2 * (Builtin.bitNot x).toNat + (1 - a') := by unfold Builtin.bitNot; omega
    rw [e1, e2, nat_and2 _ _ _ _ hb' (by omega)]
    generalize (y.toNat &&& (Builtin.bitNot x).toNat) = z
    split <;> split <;> omega
  · rw [bitAnd_nn (by omega) (by omega), bitAnd_nn hx hy]
    have e1 : (Builtin.bitNot (2 * y + (b' : Int))).toNat = 2 * (Builtin.bitNot y).toNat + (1 - b') := by unfold Builtin.bitNot; omega
    have e2 : (Builtin.bitNot (2 * x + (a' : Int))).toNat = 2 * (Builtin.bitNot x).toNat + (1 - a') := by unfold Builtin.bitNot; omega
    rw [e1, e2, nat_or2 _ _ _ _ (by omega) (by omega)]
    generalize ((Builtin.bitNot x).toNat ||| (Builtin.bitNot y).toNat) = z
    unfold Builtin.bitNot
    split <;> split <;> omega
/-- and by low places and high ones -/
theorem and_split : ∀ (w : Nat) (a b x y : Int), (0 ≤ a ∧ a < 2 ^ w) → (0 ≤ b ∧ b < 2 ^ w) → Builtin.bitAnd (a + x * 2 ^ w) (b + y * 2 ^ w) = Builtin.bitAnd a b + Builtin.bitAnd x y * 2 ^ w
  | 0, a, b, x, y, ha, hb => by
    have e1 : a = 0 := by simp at ha; omega
    have e2 : b = 0 := by simp at hb; omega
    subst e1 e2
    rw [bitAnd_zero]; simp
  | w + 1, a, b, x, y, ha, hb => by
    have hp : (2 : Int) ^ (w + 1) = 2 * 2 ^ w := by rw [Int.pow_succ]; omega
    rw [hp] at ha hb
    have ih := and_split w (a / 2) (b / 2) x y (by omega) (by omega)
    have z := and2 (a / 2) (b / 2) (a % 2) (b % 2) (by omega) (by omega)
    have e1 : 2 * (a / 2) + a % 2 = a := by omega
    have e2 : 2 * (b / 2) + b % 2 = b := by omega
    rw [e1, e2] at z
    have q := and2 (a / 2 + x * 2 ^ w) (b / 2 + y * 2 ^ w) (a % 2) (b % 2) (by omega) (by omega)
    have e3 : 2 * (a / 2 + x * 2 ^ w) + a % 2 = a + x * 2 ^ (w + 1) := by
      rw [hp, Int.mul_left_comm]; omega
    have e4 : 2 * (b / 2 + y * 2 ^ w) + b % 2 = b + y * 2 ^ (w + 1) := by
      rw [hp, Int.mul_left_comm]; omega
    rw [e3, e4, ih] at q
    rw [q, z, hp, Int.mul_left_comm]
    omega
theorem xor_split (w : Nat) (a b x y : Int) (ha : 0 ≤ a ∧ a < 2 ^ w) (hb : 0 ≤ b ∧ b < 2 ^ w) : Builtin.bitXor (a + x * 2 ^ w) (b + y * 2 ^ w) = Builtin.bitXor a b + Builtin.bitXor x y * 2 ^ w := by
  rw [bitXor_and, bitXor_and, bitXor_and, and_split w a b x y ha hb]
  rw [Int.sub_mul, Int.add_mul, Int.mul_assoc]
  omega
theorem or_split (w : Nat) (a b x y : Int) (ha : 0 ≤ a ∧ a < 2 ^ w) (hb : 0 ≤ b ∧ b < 2 ^ w) : Builtin.bitOr (a + x * 2 ^ w) (b + y * 2 ^ w) = Builtin.bitOr a b + Builtin.bitOr x y * 2 ^ w := by
  rw [bitOr_and, bitOr_and, bitOr_and, and_split w a b x y ha hb]
  rw [Int.sub_mul, Int.add_mul]
  omega
theorem bitOr_zero (x : Int) : Builtin.bitOr x 0 = x := by rw [bitOr_and, bitAnd_zero]; omega
/-- one low part alone -/
theorem xor_low (w : Nat) (a b x : Int) (ha : 0 ≤ a ∧ a < 2 ^ w) (hb : 0 ≤ b ∧ b < 2 ^ w) : Builtin.bitXor (a + x * 2 ^ w) b = Builtin.bitXor a b + x * 2 ^ w := by
  have := xor_split w a b x 0 ha hb
  rw [bitXor_zero] at this
  rwa [Int.zero_mul, Int.add_zero] at this
theorem or_low (w : Nat) (a b x : Int) (ha : 0 ≤ a ∧ a < 2 ^ w) (hb : 0 ≤ b ∧ b < 2 ^ w) : Builtin.bitOr (a + x * 2 ^ w) b = Builtin.bitOr a b + x * 2 ^ w := by
  have := or_split w a b x 0 ha hb
  rw [bitOr_zero] at this
  rwa [Int.zero_mul, Int.add_zero] at this
/-- low and high apart -/
theorem or_disj (w : Nat) (a x : Int) (ha : 0 ≤ a ∧ a < 2 ^ w) : Builtin.bitOr a (x * 2 ^ w) = a + x * 2 ^ w := by
  have := or_split w a 0 0 x ha ⟨Int.le_refl _, by have : (0 : Int) < 2 ^ w := Int.pow_pos (by decide); omega⟩
  rw [Int.zero_mul, Int.add_zero, Int.zero_add, bitOr_zero, bitOr_comm 0 x, bitOr_zero] at this
  exact this
/-- one figure: f, its mask m, what is shown d -/
structure Dig (w : Nat) (f m d : Int) : Prop where
  f0 : 0 ≤ f ∧ f < 2 ^ w
  m0 : 0 ≤ m ∧ m < 2 ^ w
  d0 : 0 ≤ d ∧ d < 2 ^ w
  x1 : Builtin.bitXor d m = f
  x2 : Builtin.bitOr d m = Builtin.bitOr f m
  x3 : Builtin.bitXor (2 ^ w - 1 - d) (2 ^ w - 1 - m) = f
  x4 : Builtin.bitXor m (2 ^ w - 1) = 2 ^ w - 1 - m
  x5 : Builtin.bitXor f m = d
theorem dig_small : ∀ w : Fin 4, ∀ f : Fin 8, f.val < 2 ^ w.val →
    (Builtin.bitXor ((2 : Int) ^ w.val - 1 - (f.val : Int)) (2 ^ w.val - 1) = (f.val : Int)) ∧ (Builtin.bitXor (f.val : Int) ((2 : Int) ^ w.val - 1) = 2 ^ w.val - 1 - (f.val : Int)) ∧
    (Builtin.bitOr ((2 : Int) ^ w.val - 1 - (f.val : Int)) (2 ^ w.val - 1) = 2 ^ w.val - 1) ∧ (Builtin.bitOr (f.val : Int) ((2 : Int) ^ w.val - 1) = 2 ^ w.val - 1) ∧ (Builtin.bitXor 0 ((2 : Int) ^ w.val - 1) = 2 ^ w.val - 1) ∧ Builtin.bitXor ((2 : Int) ^ w.val - 1) (2 ^ w.val - 1) = 0 := by decide +kernel
theorem dig_facts {w : Nat} {f : Int} (hw : w ≤ 3) (hf : 0 ≤ f ∧ f < 2 ^ w) :
    (Builtin.bitXor ((2 : Int) ^ w - 1 - f) (2 ^ w - 1) = f) ∧ (Builtin.bitXor f ((2 : Int) ^ w - 1) = 2 ^ w - 1 - f) ∧
    (Builtin.bitOr ((2 : Int) ^ w - 1 - f) (2 ^ w - 1) = 2 ^ w - 1) ∧ (Builtin.bitOr f ((2 : Int) ^ w - 1) = 2 ^ w - 1) ∧ (Builtin.bitXor 0 ((2 : Int) ^ w - 1) = 2 ^ w - 1) ∧ Builtin.bitXor ((2 : Int) ^ w - 1) (2 ^ w - 1) = 0 := by
  obtain ⟨n, rfl⟩ : ∃ n : Nat, f = n := ⟨f.toNat, by omega⟩
  have h8 : (2 : Nat) ^ w ≤ 8 := Nat.pow_le_pow_right (n := 2) (by decide) hw
  have hn : n < 2 ^ w := by
    have := hf.2
    exact_mod_cast this
  exact dig_small ⟨w, by omega⟩ ⟨n, by omega⟩ hn
theorem dig_up {w : Nat} {f : Int} (hw : w ≤ 3) (hf : 0 ≤ f ∧ f < 2 ^ w) : Dig w f 0 f := by
  obtain ⟨a, b, c, d, e, g⟩ := dig_facts hw hf
  have hp : (0 : Int) < 2 ^ w := Int.pow_pos (by decide)
  refine ⟨hf, ⟨Int.le_refl _, hp⟩, hf, bitXor_zero _, rfl, ?_, ?_, bitXor_zero _⟩
  · rw [Int.sub_zero]; exact a
  · rw [e, Int.sub_zero]
theorem dig_down {w : Nat} {f : Int} (hw : w ≤ 3) (hf : 0 ≤ f ∧ f < 2 ^ w) : Dig w f (2 ^ w - 1) (2 ^ w - 1 - f) := by
  obtain ⟨a, b, c, d, e, g⟩ := dig_facts hw hf
  have hp : (0 : Int) < 2 ^ w := Int.pow_pos (by decide)
  refine ⟨hf, ⟨by omega, by omega⟩, ⟨by omega, by omega⟩, a, by rw [c, d], ?_, ?_, b⟩
  · have e1 : (2 : Int) ^ w - 1 - (2 ^ w - 1 - f) = f := by omega
    rw [e1, Int.sub_self]; exact bitXor_zero _
  · rw [g]; omega
/-- figures, mask, shown, together -/
theorem dig_join {p w : Nat} {B M X f m d : Int} (h : Dig p B M X) (k : Dig w f m d) : Dig (p + w) (B + f * 2 ^ p) (M + m * 2 ^ p) (X + d * 2 ^ p) := by
  have hq : (0 : Int) < 2 ^ p := Int.pow_pos (by decide)
  have hpw : (2 : Int) ^ (p + w) = 2 ^ w * 2 ^ p := by rw [Int.pow_add, Int.mul_comm]
  have bd : ∀ {a c : Int}, (0 ≤ a ∧ a < 2 ^ p) → (0 ≤ c ∧ c < 2 ^ w) → 0 ≤ a + c * 2 ^ p ∧ a + c * 2 ^ p < 2 ^ (p + w) := by
    intro a c ha hc
    have h1 : 0 ≤ c * 2 ^ p := Int.mul_nonneg hc.1 (by omega)
    have h2 : (c + 1) * 2 ^ p ≤ 2 ^ w * 2 ^ p := Int.mul_le_mul_of_nonneg_right (by omega) (by omega)
    rw [Int.add_mul, Int.one_mul] at h2
    rw [hpw]
    omega
  have e1 : ∀ a c : Int, (2 : Int) ^ (p + w) - 1 - (a + c * 2 ^ p) = (2 ^ p - 1 - a) + (2 ^ w - 1 - c) * 2 ^ p := by
    intro a c
    rw [hpw, Int.sub_mul, Int.sub_mul, Int.one_mul]
    omega
  have e2 : (2 : Int) ^ (p + w) - 1 = (2 ^ p - 1) + (2 ^ w - 1) * 2 ^ p := by
    rw [hpw, Int.sub_mul, Int.one_mul]
    omega
  have lo : ∀ {a : Int} {q : Nat}, (0 ≤ a ∧ a < 2 ^ q) → 0 ≤ (2 : Int) ^ q - 1 - a ∧ (2 : Int) ^ q - 1 - a < 2 ^ q := fun ha => by omega
  refine ⟨bd h.f0 k.f0, bd h.m0 k.m0, bd h.d0 k.d0, ?_, ?_, ?_, ?_, ?_⟩
  · rw [xor_split p _ _ _ _ h.d0 h.m0, h.x1, k.x1]
  · rw [or_split p _ _ _ _ h.d0 h.m0, or_split p _ _ _ _ h.f0 h.m0, h.x2, k.x2]
  · rw [e1, e1, xor_split p _ _ _ _ (lo h.d0) (lo h.m0), h.x3, k.x3]
  · rw [e1, e2, xor_split p _ _ _ _ h.m0 ⟨by omega, by omega⟩, h.x4, k.x4]
  · rw [xor_split p _ _ _ _ h.f0 h.m0, h.x5, k.x5]
theorem dig_nil : Dig 0 0 0 0 := by
  refine ⟨by decide, by decide, by decide, ?_, ?_, ?_, ?_, ?_⟩ <;> decide +kernel
end
end Mine

namespace Mine
section
open PySem PySem.W PyProof.Rows PySem.Spec PySem.Calls
def plN (ws : List Int) : Nat → Nat
  | 0 => 0
  | k + 1 => plN ws k + (ws.getD k 0).toNat
def xN (ws g : List Int) (sg : Str) : Nat → Int
  | 0 => 0
  | k + 1 => xN ws g sg k + hiD ws g sg k * 2 ^ plN ws k
def mkD (ws : List Int) (sg : Str) (k : Nat) : Int := if sg.cps.getD k 0 = 43 then 0 else 2 ^ (ws.getD k 0).toNat - 1
def mkN (ws : List Int) (sg : Str) : Nat → Int
  | 0 => 0
  | k + 1 => mkN ws sg k + mkD ws sg k * 2 ^ plN ws k
def loD (g : List Int) (sg : Str) (k : Nat) : Int := if sg.cps.getD k 0 = 43 then g.getD k 0 else -g.getD k 0
def loN (ws g : List Int) (sg : Str) : Nat → Int
  | 0 => 0
  | k + 1 => loN ws g sg k + loD g sg k * 2 ^ plN ws k
theorem x_lo (ws g : List Int) (sg : Str) : ∀ k, xN ws g sg k = loN ws g sg k + mkN ws sg k
  | 0 => rfl
  | k + 1 => by
    rw [xN, loN, mkN, x_lo ws g sg k]
    have : hiD ws g sg (k : Int) = loD g sg k + mkD ws sg k := by
      unfold hiD loD mkD
      rw [Int.toNat_natCast]
      split <;> omega
    rw [this, Int.add_mul]
    omega
theorem loN_congr {ws g g' : List Int} {sg : Str} : ∀ {k : Nat}, (∀ j, j < k → g.getD j 0 = g'.getD j 0) → loN ws g sg k = loN ws g' sg k
  | 0, _ => rfl
  | k + 1, h => by
    rw [loN, loN, loN_congr (k := k) (fun j hj => h j (by omega))]
    unfold loD
    rw [h k (by omega)]
theorem wid_nat {ws : List Int} (hw : ∀ x ∈ ws, 1 ≤ x ∧ x ≤ 3) {k : Nat} (hk : k < ws.length) : 1 ≤ (ws.getD k 0).toNat ∧ (ws.getD k 0).toNat ≤ 3 ∧ (((ws.getD k 0).toNat : Nat) : Int) = ws.getD k 0 := by
  have e : ws.getD k 0 = ws[k] := by rw [List.getD_eq_getElem?_getD, List.getElem?_eq_getElem hk]; rfl
  have := hw ws[k] (List.getElem_mem hk)
  rw [e]
  omega
theorem dig_at {ws g : List Int} {sg : Str} (hw : ∀ x ∈ ws, 1 ≤ x ∧ x ≤ 3) (hgw : ∀ j, j < ws.length → 0 ≤ g.getD j 0 ∧ g.getD j 0 < 2 ^ (ws.getD j 0).toNat) {k : Nat} (hk : k < ws.length) : Dig (ws.getD k 0).toNat (g.getD k 0) (mkD ws sg k) (hiD ws g sg (k : Int)) := by
  have h1 := (wid_nat hw hk).2.1
  have h2 := hgw k hk
  unfold mkD hiD
  rw [Int.toNat_natCast]
  split
  · exact dig_up h1 h2
  · exact dig_down h1 h2
theorem laid_inv {ws g : List Int} {sg : Str} (hw : ∀ x ∈ ws, 1 ≤ x ∧ x ≤ 3) (hgw : ∀ j, j < ws.length → 0 ≤ g.getD j 0 ∧ g.getD j 0 < 2 ^ (ws.getD j 0).toNat) (hs : ∀ j, j < ws.length → sg.cps.getD j 0 = 43 ∨ sg.cps.getD j 0 = 45) : ∀ k, k ≤ ws.length →
    Dig (plN ws k) (laidS ws g sg (2 * k)).1 (laidS ws g sg (2 * k)).2.1 (xN ws g sg k) ∧ (laidS ws g sg (2 * k)).2.2.1 = (plN ws k : Int) ∧ (laidS ws g sg (2 * k)).2.1 = mkN ws sg k
  | 0, _ => ⟨dig_nil, rfl, rfl⟩
  | k + 1, hk => by
    obtain ⟨D, e1, e2⟩ := laid_inv hw hgw hs k (by omega)
    have d := dig_at (sg := sg) hw hgw (show k < ws.length by omega)
    have J := dig_join D d
    have a0 : 2 * (k + 1) = (2 * k + 1) + 1 := by omega
    have a1 : (2 * k) % 2 = 0 := by omega
    have a2 : ¬ (2 * k + 1) % 2 = 0 := by omega
    have a3 : (2 * k + 1) / 2 = k := by omega
    have a4 : 2 * k / 2 = k := by omega
    have wn := wid_nat hw (show k < ws.length by omega)
    have hp : (2 : Int) ^ (laidS ws g sg (2 * k)).2.2.1.toNat = 2 ^ plN ws k := by rw [e1, Int.toNat_natCast]
    rw [a0]
    simp only [laidS, a1, a2, a3, a4, if_true, if_false, hp]
    have o1 : Builtin.bitOr (laidS ws g sg (2 * k)).1 (g.getD k 0 * 2 ^ plN ws k) = (laidS ws g sg (2 * k)).1 + g.getD k 0 * 2 ^ plN ws k := or_disj _ _ _ D.f0
    have o2 : (if decide (sg.cps.getD k 0 = 45) = true then Builtin.bitOr (laidS ws g sg (2 * k)).2.1 ((2 ^ (ws.getD k 0).toNat - 1) * 2 ^ plN ws k) else (laidS ws g sg (2 * k)).2.1) = (laidS ws g sg (2 * k)).2.1 + mkD ws sg k * 2 ^ plN ws k := by
      unfold mkD
      rcases hs k (by omega) with h | h
      · rw [h]; simp
      · rw [h]
        simp only [decide_true, if_true]
        rw [or_disj _ _ _ D.m0]
        rfl
    rw [o1, o2]
    refine ⟨J, ?_, ?_⟩
    · rw [e1, plN]; push_cast; omega
    · rw [mkN, e2]
theorem pl_le {ws : List Int} (hw : ∀ x ∈ ws, 1 ≤ x ∧ x ≤ 3) : ∀ k, k ≤ ws.length → plN ws k ≤ 3 * k
  | 0, _ => by simp [plN]
  | k + 1, hk => by
    have := pl_le hw k (by omega)
    have := (wid_nat hw (show k < ws.length by omega)).2.1
    rw [plN]; omega
theorem good_of {ws g : List Int} {sg : Str} {num r : Int} (hw : ∀ x ∈ ws, 1 ≤ x ∧ x ≤ 3) (hl : ws.length ≤ 60) (hgl : g.length = ws.length) (hgw : ∀ j, j < ws.length → 0 ≤ g.getD j 0 ∧ g.getD j 0 < 2 ^ (ws.getD j 0).toNat) (hs : ∀ j, j < ws.length → sg.cps.getD j 0 = 43 ∨ sg.cps.getD j 0 = 45)
    (hr : r.natAbs < 2 ^ 64) (hn : num = loN ws g sg ws.length + r * 2 ^ plN ws ws.length) : Good ws sg num g r (mkN ws sg ws.length) (plN ws ws.length) := by
  obtain ⟨D, e1, e2⟩ := laid_inv hw hgw hs ws.length (Nat.le_refl _)
  have ple := pl_le hw ws.length (Nat.le_refl _)
  have hx := x_lo ws g sg ws.length
  rw [e2] at D
  generalize mkN ws sg ws.length = M at *
  generalize xN ws g sg ws.length = X at *
  have t : ((plN ws ws.length : Nat) : Int).toNat = plN ws ws.length := Int.toNat_natCast _
  have n1 : num + M = X + r * 2 ^ plN ws ws.length := by omega
  have hp : (0 : Int) < 2 ^ plN ws ws.length := Int.pow_pos (by decide)
  refine ⟨hgl, ?_, hgw, hr, e2, e1, by omega, by omega, ?_, ?_, ?_, ?_⟩
  · intro x hx
    obtain ⟨j, hj, e⟩ := List.getElem_of_mem hx
    have e3 : g.getD j 0 = x := by rw [List.getD_eq_getElem?_getD, List.getElem?_eq_getElem hj]; exact e
    have h1 := hgw j (by omega)
    rw [e3] at h1
    have h2 := (wid_nat hw (show j < ws.length by omega)).2.1
    have h3 : (2 : Int) ^ (ws.getD j 0).toNat ≤ 8 := by
      have : (2 : Nat) ^ (ws.getD j 0).toNat ≤ 8 := Nat.pow_le_pow_right (n := 2) (by decide) h2
      exact_mod_cast this
    omega
  · rw [t, n1, xor_low _ _ _ _ D.d0 D.m0, D.x1]
  · rw [t, xor_low _ _ _ _ D.f0 D.m0, D.x5]; omega
  · rw [t, n1, or_low _ _ _ _ D.d0 D.m0, or_low _ _ _ _ D.f0 D.m0, D.x2]
  · rw [t, Int.one_mul, D.x4]
    have e4 : -num + (2 ^ plN ws ws.length - 1 - M) = (2 ^ plN ws ws.length - 1 - X) + -r * 2 ^ plN ws ws.length := by rw [Int.neg_mul]; omega
    have d0 := D.d0
    have m0 := D.m0
    rw [e4, xor_low _ _ _ _ ⟨by omega, by omega⟩ ⟨by omega, by omega⟩, D.x3]
theorem fdiv_sub {q b : Int} (hb : 0 < b) : q = Int.fmod q b + Int.fdiv (q - Int.fmod q b) b * b := by
  have h := Int.mul_fdiv_add_fmod q b
  have e : q - Int.fmod q b = b * Int.fdiv q b := by omega
  rw [e, Int.mul_fdiv_cancel_left _ (by omega), Int.mul_comm]
  omega
theorem fmod_bd {q b : Int} (hb : 0 < b) : 0 ≤ Int.fmod q b ∧ Int.fmod q b < b := ⟨Int.fmod_nonneg_of_pos q hb, Int.fmod_lt_of_pos q hb⟩
theorem abs_le {q b : Int} (hb : 2 ≤ b) {f t : Int} (hf : 0 ≤ f ∧ f < b) (h : q = f + t * b) : t.natAbs ≤ q.natAbs := by
  by_cases ht : 0 ≤ t
  · have : t * 1 ≤ t * b := Int.mul_le_mul_of_nonneg_left (by omega) ht
    omega
  · have h1 : (t + 1) * b ≤ (t + 1) * 1 := by
      have : (-(t + 1)) * 1 ≤ (-(t + 1)) * b := Int.mul_le_mul_of_nonneg_left (by omega) (by omega)
      rw [Int.neg_mul, Int.neg_mul] at this
      omega
    rw [Int.add_mul, Int.one_mul] at h1
    omega
theorem getD_app {l : List Int} {v : Int} {j : Nat} (h : j < l.length) : (l ++ [v]).getD j 0 = l.getD j 0 := by
  rw [List.getD_eq_getElem?_getD, List.getD_eq_getElem?_getD, List.getElem?_append_left h]
theorem getD_new {l : List Int} {v : Int} {j : Nat} (h : j = l.length) : (l ++ [v]).getD j 0 = v := by
  subst h
  rw [List.getD_eq_getElem?_getD, List.getElem?_append_right (Nat.le_refl _)]
  simp
theorem cps_43 {sg : Str} {k : Nat} (hk : k < sg.cps.size) : sg.cps[k]? = some 43 ↔ sg.cps.getD k 0 = 43 := by
  rw [Array.getD_eq_getD_getElem?, Array.getElem?_eq_getElem hk]
  simp
theorem part_inv {ws : List Int} {sg : Str} {num : Int} (hw : ∀ x ∈ ws, 1 ≤ x ∧ x ≤ 3) (hs1 : sg.cps.size = ws.length) : ∀ k, k ≤ ws.length →
    num = loN ws (partN num ws sg k).1 sg k + (partN num ws sg k).2 * 2 ^ plN ws k ∧ (∀ j, j < k → 0 ≤ (partN num ws sg k).1.getD j 0 ∧ (partN num ws sg k).1.getD j 0 < 2 ^ (ws.getD j 0).toNat) ∧ (partN num ws sg k).2.natAbs ≤ num.natAbs
  | 0, _ => by
    refine ⟨?_, fun j hj => absurd hj (Nat.not_lt_zero _), Nat.le_refl _⟩
    simp [partN, loN, plN]
  | k + 1, hk => by
    obtain ⟨i1, i2, i3⟩ := part_inv (num := num) hw hs1 k (by omega)
    have len := partN_len (num := num) (ws := ws) (sg := sg) (k := k)
    have wn := wid_nat hw (show k < ws.length by omega)
    have hb : (0 : Int) < 2 ^ (ws.getD k 0).toNat := Int.pow_pos (by decide)
    have hb2 : (2 : Int) ≤ 2 ^ (ws.getD k 0).toNat := by
      have : (2 : Nat) ^ 1 ≤ 2 ^ (ws.getD k 0).toNat := Nat.pow_le_pow_right (by decide) wn.1
      exact_mod_cast this
    have hpow : (2 : Int) ^ plN ws (k + 1) = 2 ^ plN ws k * 2 ^ (ws.getD k 0).toNat := by rw [plN, Int.pow_add]
    -- one step, said of whatever figure and rest come
    have step : ∀ (f q' : Int), (0 ≤ f ∧ f < 2 ^ (ws.getD k 0).toNat) → (partN num ws sg k).2 = (if sg.cps.getD k 0 = 43 then f else -f) + q' * 2 ^ (ws.getD k 0).toNat → q'.natAbs ≤ (partN num ws sg k).2.natAbs →
        num = loN ws ((partN num ws sg k).1 ++ [f]) sg (k + 1) + q' * 2 ^ plN ws (k + 1) ∧ (∀ j, j < k + 1 → 0 ≤ ((partN num ws sg k).1 ++ [f]).getD j 0 ∧ ((partN num ws sg k).1 ++ [f]).getD j 0 < 2 ^ (ws.getD j 0).toNat) ∧ q'.natAbs ≤ num.natAbs := by
      intro f q' hf hq ha
      refine ⟨?_, ?_, Nat.le_trans ha i3⟩
      · rw [loN, loN_congr (g' := (partN num ws sg k).1) (fun j hj => getD_app (by omega))]
        unfold loD
        rw [getD_new len.symm, hpow, Int.mul_comm (2 ^ plN ws k), ← Int.mul_assoc, Int.add_assoc, ← Int.add_mul, ← hq]
        exact i1
      · intro j hj
        by_cases h : j < k
        · rw [getD_app (by omega)]; exact i2 j h
        · have : j = k := by omega
          subst this
          rw [getD_new len.symm]; exact hf
    rw [partN]
    by_cases hc : sg.cps.getD k 0 = 43
    · rw [if_pos ((cps_43 (by omega)).mpr hc)]
      have e := fdiv_sub (q := (partN num ws sg k).2) hb
      exact step _ _ (fmod_bd hb) (by rw [if_pos hc]; exact e) (abs_le hb2 (fmod_bd hb) e)
    · rw [if_neg (fun h => hc ((cps_43 (by omega)).mp h))]
      have e := fdiv_sub (q := -(partN num ws sg k).2) hb
      have e2 : Int.fdiv ((partN num ws sg k).2 + Int.fmod (-(partN num ws sg k).2) (2 ^ (ws.getD k 0).toNat)) (2 ^ (ws.getD k 0).toNat) = -Int.fdiv (-(partN num ws sg k).2 - Int.fmod (-(partN num ws sg k).2) (2 ^ (ws.getD k 0).toNat)) (2 ^ (ws.getD k 0).toNat) := by
        have h := Int.mul_fdiv_add_fmod (-(partN num ws sg k).2) (2 ^ (ws.getD k 0).toNat)
        have a1 : -(partN num ws sg k).2 - Int.fmod (-(partN num ws sg k).2) (2 ^ (ws.getD k 0).toNat) = 2 ^ (ws.getD k 0).toNat * Int.fdiv (-(partN num ws sg k).2) (2 ^ (ws.getD k 0).toNat) := by omega
        have a2 : (partN num ws sg k).2 + Int.fmod (-(partN num ws sg k).2) (2 ^ (ws.getD k 0).toNat) = 2 ^ (ws.getD k 0).toNat * -Int.fdiv (-(partN num ws sg k).2) (2 ^ (ws.getD k 0).toNat) := by rw [Int.mul_neg]; omega
        rw [a1, a2, Int.mul_fdiv_cancel_left _ (by omega), Int.mul_fdiv_cancel_left _ (by omega)]
      rw [e2]
      have ha := abs_le hb2 (fmod_bd hb) e
      refine step _ _ (fmod_bd hb) ?_ (by omega)
      rw [if_neg hc, Int.neg_mul]
      omega
theorem item_43 {sg : Str} {k : Nat} (hk : k < sg.cps.size) : (Txt.item sg (k : Int) == Str.ofString "+") = true ↔ sg.cps.getD k 0 = 43 := by
  have e : Str.ofString "+" = Str.mk #[43] := by decide +kernel
  have h1 : (0 : Int) ≤ (k : Int) ∧ (k : Int) < (sg.length : Nat) := by
    unfold Str.length; omega
  rw [item_meets h1, e, Int.toNat_natCast]
  constructor
  · intro h
    have h2 := eq_of_beq h
    injection h2 with h2
    simpa using h2
  · intro h
    rw [h]; exact beq_self_eq_true _
theorem add_inv {ws g1 g2 : List Int} {sg : Str} (hw : ∀ x ∈ ws, 1 ≤ x ∧ x ≤ 3) (hs1 : sg.cps.size = ws.length) (h1 : ∀ j, j < ws.length → 0 ≤ g1.getD j 0 ∧ g1.getD j 0 < 2 ^ (ws.getD j 0).toNat) (h2 : ∀ j, j < ws.length → 0 ≤ g2.getD j 0 ∧ g2.getD j 0 < 2 ^ (ws.getD j 0).toNat) : ∀ k, k ≤ ws.length →
    loN ws g1 sg k + loN ws g2 sg k = loN ws (addN g1 g2 ws sg k).1 sg k + (addN g1 g2 ws sg k).2 * 2 ^ plN ws k ∧ (∀ j, j < k → 0 ≤ (addN g1 g2 ws sg k).1.getD j 0 ∧ (addN g1 g2 ws sg k).1.getD j 0 < 2 ^ (ws.getD j 0).toNat) ∧ (-1 ≤ (addN g1 g2 ws sg k).2 ∧ (addN g1 g2 ws sg k).2 ≤ 1)
  | 0, _ => by
    refine ⟨?_, fun j hj => absurd hj (Nat.not_lt_zero _), by simp [addN], by simp [addN]⟩
    simp [addN, loN, plN]
  | k + 1, hk => by
    obtain ⟨i1, i2, i3⟩ := add_inv hw hs1 h1 h2 k (by omega)
    have len := addN_len (g1 := g1) (g2 := g2) (ws := ws) (sg := sg) (k := k)
    have wn := wid_nat hw (show k < ws.length by omega)
    have b1 := h1 k (by omega)
    have b2 := h2 k (by omega)
    have hb : (0 : Int) < 2 ^ (ws.getD k 0).toNat := Int.pow_pos (by decide)
    have hpow : (2 : Int) ^ plN ws (k + 1) = 2 ^ plN ws k * 2 ^ (ws.getD k 0).toNat := by rw [plN, Int.pow_add]
    have key : ∀ up both : Int, (up = 1 ∧ sg.cps.getD k 0 = 43 ∨ up = -1 ∧ ¬ sg.cps.getD k 0 = 43) → both = g1.getD k 0 + g2.getD k 0 + up * (addN g1 g2 ws sg k).2 →
        loN ws g1 sg (k + 1) + loN ws g2 sg (k + 1) = loN ws ((addN g1 g2 ws sg k).1 ++ [Int.fmod both (2 ^ (ws.getD k 0).toNat)]) sg (k + 1) + (up * Int.fdiv both (2 ^ (ws.getD k 0).toNat)) * 2 ^ plN ws (k + 1) ∧
        (∀ j, j < k + 1 → 0 ≤ ((addN g1 g2 ws sg k).1 ++ [Int.fmod both (2 ^ (ws.getD k 0).toNat)]).getD j 0 ∧ ((addN g1 g2 ws sg k).1 ++ [Int.fmod both (2 ^ (ws.getD k 0).toNat)]).getD j 0 < 2 ^ (ws.getD j 0).toNat) ∧ (-1 ≤ up * Int.fdiv both (2 ^ (ws.getD k 0).toNat) ∧ up * Int.fdiv both (2 ^ (ws.getD k 0).toNat) ≤ 1) := by
      intro up both hup hboth
      have hf := fmod_bd (q := both) hb
      have hdm := Int.mul_fdiv_add_fmod both (2 ^ (ws.getD k 0).toNat)
      generalize (addN g1 g2 ws sg k).2 = c at *
      refine ⟨?_, ?_, ?_⟩
      · rw [loN, loN, loN, loN_congr (g := (addN g1 g2 ws sg k).1 ++ [Int.fmod both (2 ^ (ws.getD k 0).toNat)]) (g' := (addN g1 g2 ws sg k).1) (fun j hj => getD_app (by omega))]
        unfold loD
        rw [getD_new len.symm, hpow]
        generalize Int.fmod both (2 ^ (ws.getD k 0).toNat) = f at *
        generalize Int.fdiv both (2 ^ (ws.getD k 0).toNat) = t at *
        generalize (2 : Int) ^ (ws.getD k 0).toNat = b at *
        generalize (2 : Int) ^ plN ws k = p at *
        generalize g1.getD k 0 = x at *
        generalize g2.getD k 0 = y at *
        generalize loN ws g1 sg k = l1 at *
        generalize loN ws g2 sg k = l2 at *
        generalize loN ws (addN g1 g2 ws sg k).1 sg k = l3 at *
        rcases hup with ⟨hu, hc⟩ | ⟨hu, hc⟩
        · subst hu
          simp only [if_pos hc]
          have e1 : (x + y + c) * p = (b * t + f) * p := by rw [hdm, hboth]; congr 1; omega
          rw [Int.add_mul, Int.add_mul, Int.add_mul] at e1
          have e2 : 1 * t * (p * b) = b * t * p := by rw [Int.one_mul, Int.mul_comm p b, ← Int.mul_assoc, Int.mul_comm t b]
          rw [e2]
          omega
        · subst hu
          simp only [if_neg hc]
          have e1 : (x + y - c) * p = (b * t + f) * p := by rw [hdm, hboth]; congr 1; omega
          rw [Int.sub_mul, Int.add_mul, Int.add_mul] at e1
          have e2 : -1 * t * (p * b) = -(b * t * p) := by rw [Int.neg_mul, Int.one_mul, Int.neg_mul, Int.mul_comm p b, ← Int.mul_assoc, Int.mul_comm t b]
          rw [e2, Int.neg_mul, Int.neg_mul, Int.neg_mul]
          omega
      · intro j hj
        by_cases h : j < k
        · rw [getD_app (by omega)]; exact i2 j h
        · have : j = k := by omega
          subst this
          rw [getD_new len.symm]; exact hf
      · have hlo : -1 ≤ both := by rcases hup with ⟨hu, _⟩ | ⟨hu, _⟩ <;> subst hu <;> omega
        have hhi : both ≤ 2 * 2 ^ (ws.getD k 0).toNat - 1 := by rcases hup with ⟨hu, _⟩ | ⟨hu, _⟩ <;> subst hu <;> omega
        generalize Int.fmod both (2 ^ (ws.getD k 0).toNat) = f at *
        generalize Int.fdiv both (2 ^ (ws.getD k 0).toNat) = t at *
        generalize (2 : Int) ^ (ws.getD k 0).toNat = b at *
        have t1 : t ≤ 1 := by
          refine Int.not_lt.mp fun h => ?_
          have : b * 2 ≤ b * t := Int.mul_le_mul_of_nonneg_left (by omega) (by omega)
          omega
        have t2 : -1 ≤ t := by
          refine Int.not_lt.mp fun h => ?_
          have : b * t ≤ b * (-2) := Int.mul_le_mul_of_nonneg_left (by omega) (by omega)
          omega
        rcases hup with ⟨hu, _⟩ | ⟨hu, _⟩ <;> subst hu <;> omega
    rw [addN]
    by_cases hc : sg.cps.getD k 0 = 43
    · have hi := (item_43 (show k < sg.cps.size by omega)).mpr hc
      simp only [hi, if_true]
      exact key 1 _ (Or.inl ⟨rfl, hc⟩) rfl
    · have hi : ¬ (Txt.item sg (k : Int) == Str.ofString "+") = true := fun h => hc ((item_43 (show k < sg.cps.size by omega)).mp h)
      simp only [if_neg hi]
      exact key (-1) _ (Or.inr ⟨rfl, hc⟩) rfl
/-- the shown figures, the highest first, as signs -/
def shN (ws g : List Int) (sg : Str) (k : Nat) : List Nat := (List.range k).reverse.map fun (j : Nat) => 48 + (hiD ws g sg (j : Int)).toNat
theorem shN_succ (ws g : List Int) (sg : Str) (k : Nat) : shN ws g sg (k + 1) = (48 + (hiD ws g sg (k : Int)).toNat) :: shN ws g sg k := by
  unfold shN
  rw [List.range_succ, List.reverse_append]
  rfl
theorem nm_cps {ws g : List Int} {sg : Str} (hgw : ∀ j, j < ws.length → 0 ≤ g.getD j 0 ∧ g.getD j 0 < 2 ^ (ws.getD j 0).toNat) (hw : ∀ x ∈ ws, 1 ≤ x ∧ x ≤ 3) : (nm ws sg g).cps.toList = shN ws g sg ws.length := by
  unfold nm shN
  rw [tjoin_cps, rangeKs, ← List.map_reverse, List.map_map, List.flatMap_map]
  have : ∀ l : List Nat, (∀ j ∈ l, j < ws.length) → l.flatMap (fun a => ((hiT ws g sg ∘ fun (i : Nat) => (0 : Int) + (i : Int)) a).cps.toList) = l.map (fun (j : Nat) => 48 + (hiD ws g sg (j : Int)).toNat) := by
    intro l
    induction l with
    | nil => intro _; rfl
    | cons j l ih =>
      intro h
      rw [List.flatMap_cons, ih (fun x hx => h x (List.mem_cons_of_mem _ hx)), List.map_cons]
      have hj := h j List.mem_cons_self
      have e : (hiT ws g sg ∘ fun (i : Nat) => (0 : Int) + (i : Int)) j = ⟨#[48 + (hiD ws g sg (j : Int)).toNat]⟩ := by
        show hiT ws g sg (0 + (j : Int)) = _
        rw [Int.zero_add]
        exact hiT_eq hgw hw (by omega) (by omega)
      rw [e]
      rfl
  exact this _ (fun j hj => List.mem_range.mp (List.mem_reverse.mp hj))
theorem xN_bd {ws g : List Int} {sg : Str} (hw : ∀ x ∈ ws, 1 ≤ x ∧ x ≤ 3) (hgw : ∀ j, j < ws.length → 0 ≤ g.getD j 0 ∧ g.getD j 0 < 2 ^ (ws.getD j 0).toNat) (hs : ∀ j, j < ws.length → sg.cps.getD j 0 = 43 ∨ sg.cps.getD j 0 = 45) {k : Nat} (hk : k ≤ ws.length) : 0 ≤ xN ws g sg k ∧ xN ws g sg k < 2 ^ plN ws k := (laid_inv hw hgw hs k hk).1.d0
theorem cmp_iff {ws g g' : List Int} {sg : Str} (hw : ∀ x ∈ ws, 1 ≤ x ∧ x ≤ 3) (hgw : ∀ j, j < ws.length → 0 ≤ g.getD j 0 ∧ g.getD j 0 < 2 ^ (ws.getD j 0).toNat) (hgw' : ∀ j, j < ws.length → 0 ≤ g'.getD j 0 ∧ g'.getD j 0 < 2 ^ (ws.getD j 0).toNat) (hs : ∀ j, j < ws.length → sg.cps.getD j 0 = 43 ∨ sg.cps.getD j 0 = 45) : ∀ k, k ≤ ws.length →
    (shN ws g sg k < shN ws g' sg k ↔ xN ws g sg k < xN ws g' sg k)
  | 0, _ => by
    constructor
    · intro h; exact absurd (show ([] : List Nat) < [] from h) (List.lt_irrefl [])
    · intro h; exact absurd h (Int.lt_irrefl 0)
  | k + 1, hk => by
    have ih := cmp_iff hw hgw hgw' hs k (by omega)
    have x1 := xN_bd hw hgw hs (show k ≤ ws.length by omega)
    have x2 := xN_bd hw hgw' hs (show k ≤ ws.length by omega)
    have d1 := (dig_at (sg := sg) hw hgw (show k < ws.length by omega)).d0
    have d2 := (dig_at (sg := sg) hw hgw' (show k < ws.length by omega)).d0
    rw [shN_succ, shN_succ, List.cons_lt_cons_iff, ih, xN, xN]
    generalize hiD ws g sg (k : Int) = a at *
    generalize hiD ws g' sg (k : Int) = b at *
    generalize xN ws g sg k = u at *
    generalize xN ws g' sg k = v at *
    generalize (2 : Int) ^ plN ws k = p at *
    have up : ∀ c d : Int, c < d → c * p + p ≤ d * p := by
      intro c d h
      have h1 : (c + 1) * p ≤ d * p := Int.mul_le_mul_of_nonneg_right (by omega) (by omega)
      rw [Int.add_mul, Int.one_mul] at h1
      exact h1
    rcases Int.lt_trichotomy a b with h | h | h
    · have := up a b h
      constructor
      · intro _; omega
      · intro _; left; omega
    · subst h
      constructor
      · rintro (h | ⟨_, h⟩) <;> omega
      · intro h; right; exact ⟨rfl, by omega⟩
    · have := up b a h
      constructor
      · rintro (h | ⟨h, _⟩) <;> omega
      · intro h; omega
theorem cmp_dec {ws g g' : List Int} {sg : Str} {num num' r r' : Int} (hw : ∀ x ∈ ws, 1 ≤ x ∧ x ≤ 3) (hgw : ∀ j, j < ws.length → 0 ≤ g.getD j 0 ∧ g.getD j 0 < 2 ^ (ws.getD j 0).toNat) (hgw' : ∀ j, j < ws.length → 0 ≤ g'.getD j 0 ∧ g'.getD j 0 < 2 ^ (ws.getD j 0).toNat) (hs : ∀ j, j < ws.length → sg.cps.getD j 0 = 43 ∨ sg.cps.getD j 0 = 45)
    (hn : num = loN ws g sg ws.length + r * 2 ^ plN ws ws.length) (hn' : num' = loN ws g' sg ws.length + r' * 2 ^ plN ws ws.length) :
    decide ((nm ws sg g).cps.toList < (nm ws sg g').cps.toList) = decide (num - r * 2 ^ ((plN ws ws.length : Nat) : Int).toNat < num' - r' * 2 ^ ((plN ws ws.length : Nat) : Int).toNat) := by
  refine decide_eq_decide.mpr ?_
  rw [nm_cps hgw hw, nm_cps hgw' hw, cmp_iff hw hgw hgw' hs _ (Nat.le_refl _), x_lo, x_lo, Int.toNat_natCast]
  omega
/-- the plain law -/
theorem plain {ws : List Int} {sg : Str} (one two : Int) (htl : ws.length = 3 ∨ ws.length = 6) (hw : ∀ x ∈ ws, 1 ≤ x ∧ x ≤ 3) (hs1 : sg.cps.size = ws.length) (hs2 : ∀ j, j < sg.cps.size → sg.cps.getD j 0 = 43 ∨ sg.cps.getD j 0 = 45)
    (b1 : -100000000000 ≤ one ∧ one ≤ 100000000000) (b2 : -100000000000 ≤ two ∧ two ≤ 100000000000)
    (g1 g2 g3 : List Int) (r1 r2 r3 : Int) (e1 : g1 = (partN one ws sg ws.length).1) (e2 : g2 = (partN two ws sg ws.length).1) (e3 : g3 = (addN g1 g2 ws sg ws.length).1)
    (q1 : r1 = (partN one ws sg ws.length).2) (q2 : r2 = (partN two ws sg ws.length).2) (q3 : r3 = r1 + r2 + (addN g1 g2 ws sg ws.length).2) :
    ∃ M P : Int, Good ws sg one g1 r1 M P ∧ Good ws sg two g2 r2 M P ∧ Good ws sg (one + two) g3 r3 M P ∧
      Builtin.bitXor (Builtin.bitXor (wl ws sg g1 r1 P) M + Builtin.bitXor (wl ws sg g2 r2 P) M - M) M = wl ws sg g3 r3 P ∧
      (∀ g g' num num' r r', (g, num, r) ∈ [(g1, one, r1), (g2, two, r2), (g3, one + two, r3)] → (g', num', r') ∈ [(g1, one, r1), (g2, two, r2), (g3, one + two, r3)] → decide ((nm ws sg g).cps.toList < (nm ws sg g').cps.toList) = decide (num - r * 2 ^ P.toNat < num' - r' * 2 ^ P.toNat)) := by
  have hs : ∀ j, j < ws.length → sg.cps.getD j 0 = 43 ∨ sg.cps.getD j 0 = 45 := fun j hj => hs2 j (by omega)
  obtain ⟨i1, j1, a1⟩ := part_inv (num := one) hw hs1 ws.length (Nat.le_refl _)
  obtain ⟨i2, j2, a2⟩ := part_inv (num := two) hw hs1 ws.length (Nat.le_refl _)
  have l1 : g1.length = ws.length := by rw [e1]; exact partN_len
  have l2 : g2.length = ws.length := by rw [e2]; exact partN_len
  have l3 : g3.length = ws.length := by rw [e3]; exact addN_len
  rw [← e1] at i1 j1
  rw [← e2] at i2 j2
  rw [← q1] at i1 a1
  rw [← q2] at i2 a2
  obtain ⟨i3, j3, c1, c2⟩ := add_inv hw hs1 j1 j2 ws.length (Nat.le_refl _)
  rw [← e3] at i3 j3
  have n3 : one + two = loN ws g3 sg ws.length + r3 * 2 ^ plN ws ws.length := by
    rw [q3, Int.add_mul, Int.add_mul]; omega
  have hl : ws.length ≤ 60 := by omega
  have G1 := good_of hw hl l1 j1 hs (by omega) i1
  have G2 := good_of hw hl l2 j2 hs (by omega) i2
  have G3 := good_of hw hl l3 j3 hs (by omega) n3
  refine ⟨_, _, G1, G2, G3, ?_, ?_⟩
  · have x1 : Builtin.bitXor (wl ws sg g1 r1 (plN ws ws.length)) (mkN ws sg ws.length) = one + mkN ws sg ws.length := by have h : Builtin.bitXor (wl ws sg g1 r1 (plN ws ws.length)) (mkN ws sg ws.length) - mkN ws sg ws.length = one := G1.H2; omega
    have x2 : Builtin.bitXor (wl ws sg g2 r2 (plN ws ws.length)) (mkN ws sg ws.length) = two + mkN ws sg ws.length := by have h : Builtin.bitXor (wl ws sg g2 r2 (plN ws ws.length)) (mkN ws sg ws.length) - mkN ws sg ws.length = two := G2.H2; omega
    rw [x1, x2]
    have : one + mkN ws sg ws.length + (two + mkN ws sg ws.length) - mkN ws sg ws.length = one + two + mkN ws sg ws.length := by omega
    rw [this]
    exact G3.H1
  · intro g g' num num' r r' h h'
    have all : ∀ g num r, (g, num, r) ∈ [(g1, one, r1), (g2, two, r2), (g3, one + two, r3)] → (∀ j, j < ws.length → 0 ≤ g.getD j 0 ∧ g.getD j 0 < 2 ^ (ws.getD j 0).toNat) ∧ num = loN ws g sg ws.length + r * 2 ^ plN ws ws.length := by
      intro g num r h
      simp only [List.mem_cons, Prod.mk.injEq, List.not_mem_nil, or_false] at h
      rcases h with ⟨rfl, rfl, rfl⟩ | ⟨rfl, rfl, rfl⟩ | ⟨rfl, rfl, rfl⟩
      · exact ⟨j1, i1⟩
      · exact ⟨j2, i2⟩
      · exact ⟨j3, n3⟩
    obtain ⟨u1, u2⟩ := all _ _ _ h
    obtain ⟨v1, v2⟩ := all _ _ _ h'
    exact cmp_dec hw u1 v1 hs u2 v2
end
end Mine

namespace Mine
section
open PySem PySem.W PyProof.Rows PySem.Spec PySem.Calls
set_option maxRecDepth 100000
set_option maxHeartbeats 20000000
theorem lawAll (w : World) (mean : ExcName → Option Value) (mg mb : Str → Option Value) (a : Addr) (cd : Value) (h₀ : Heap) (L : Addr) (s : Shared) (m : Str → Option Value) (Q : Flow → Shared → Prop) (E : Value → Shared → Prop)
    (B : Below callerA h₀ [] h₀) (Y : (KF w.params).In h₀)
    (o1 o2 o3 o4 o5 : Obj) (d1 : o1.data = Data.cell none) (d2 : o2.data = Data.cell none) (d3 : o3.data = Data.cell none) (d4 : o4.data = Data.cell none) (d5 : o5.data = Data.cell none)
    (sl : Addr) (svs : List Value) (ns : List Int) (hS : h₀.IsList sl svs.toArray) (hI : IntsAre svs ns) (hn : ns.length ≤ 63)
    (hm : m (Str.ofString "script") = some (.ref sl)) (F : Fr h₀ L s.heap m)
    (N : News h₀ L s.heap [(L + 1 + 1 + 1 + 1 + 1, o5), (L + 1 + 1 + 1 + 1, o4), (L + 1 + 1 + 1, o3), (L + 1 + 1, o2), (L + 1, o1)])
    (T : Top VW LO mean mg mb h₀) (hg : s.gens = #[])
    (hE : PassesOwn (model PG w) (callerA.deeper (lawEnv w.params L a cd)) (lawEnv w.params L a cd) E)
    (ret : ∀ (h : Heap) (tk : Nat) (gens : Array GenState) (m' : Str → Option Value), AllBare gens → Fr h₀ L h m' → Q (.ret (.bool true)) { s with heap := h, toks := tk, gens := gens })
    : wpAny (model PG w) (callerA.deeper (lawEnv w.params L a cd)) (execs (lawBody w.params) (lawEnv w.params L a cd)) Q E s := by
  have em : m = fun z => if z = Str.ofString "script" then some (.ref sl) else m z := by
    funext z
    split
    · rename_i h; rw [h, hm]
    · rfl
  rw [em] at F
  refine law0 rfl w mean mg mb a cd h₀ L s m Q E B Y o1 o2 o3 o4 o5 d1 sl svs ns hS hI hn F N T ?_
  intro vc cvs cs nc o1' h0 tk0 hcs hcl hcb d1' F0 N0
  refine law1 rfl w mean mg mb a cd h₀ L _ _ Q E B F0 Y o1' o2 o3 o4 o5 vc d1' cvs cs nc hcs hcl N0 T ?_
  intro D x1 x2 x3 t1 t2 t3 n h1 tk1 b1 b2 b3 F1 N1
  refine law2 rfl w mean mg mb a cd h₀ L _ _ Q E B Y o1' o2 o3 o4 o5 vc d1' d2 d3 d4 d5 cvs cs nc hcs hcl D x1 x2 x3 t1 t2 t3 n b1 b2 b3 F1 N1 T hg ?_
  intro r tvs ws nt o2' h2 tk2 gens m2 hti htl hw d2' F2 N2 hb
  refine law3 rfl w mean mg mb a cd h₀ L _ m2 Q E B Y o1' o2' o3 o4 o5 vc d1' d3 d4 d5 cvs cs nc hcs hcl r tvs ws nt hti htl hw d2' F2 N2 T ?_
  intro sg tg o3' o4' v3 h3 tk3 hs1 hs2 d3' d4' F3 N3
  refine law4 rfl w mean mg mb a cd h₀ L _ m2 Q E B Y o1' o2' o3' o4' o5 vc d1' cvs cs nc hcs hcl hcb r tvs ws nt hti htl hw d2' sg tg hs1 hs2 d4' F3 N3 T ?_
  intro one two ti1 ti2 tm p1 p2 p3 f1 f2 f3 y1 y2 y3 t1 t2 t3 n1 n2 n3 n1' n2' n3' lp wh sh np h4 tk4 hy1 hy2 hy3 k1 k2 hws F4 N4
  obtain ⟨M, P, G1, G2, G3, H5, C⟩ := plain one two htl hw hs1 hs2 k1 k2 _ _ _ _ _ _ rfl rfl rfl rfl rfl rfl
  refine law5 rfl w mean mg mb a cd h₀ L _ m2 Q E B Y o1' o2' o3' o4' o5 r tvs ws nt hti htl hw d2' sg tg hs1 hs2 d4' d5 one two ti1 ti2 tm p1 p2 p3 f1 f2 f3 y1 y2 y3 t1 t2 t3 n1 n2 n3 n1' n2' n3' lp wh sh np _ _ _ _ _ _ hy1 hy2 hy3 M P G1 G2 G3 (some (.ref vc)) v3 d1' d3' hE hws F4 N4 T ?_
  intro e1 e2 e3 jt1 jt2 jt3 te1 te2 te3 tw1 tw2 tw3 tm3 h5 tk5 m5 as5 aw5 am5 F5 N5
  have e5 : m5 = fun z => if z = Str.ofString "mask" then some (.int M tm3) else if z = Str.ofString "shown" then some (.ref sh) else if z = Str.ofString "wholes" then some (.ref wh) else m5 z := by
    funext z
    split
    · rename_i h; rw [h, am5]
    split
    · rename_i h; rw [h, as5]
    split
    · rename_i h; rw [h, aw5]
    rfl
  rw [e5] at F5
  refine law6 rfl w mean mg mb a cd h₀ L _ m5 Q E B Y sh wh e1 e2 e3 _ _ _ _ _ _ _ _ _ M jt1 jt2 jt3 te1 te2 te3 tw1 tw2 tw3 tm3 F5 N5 hE H5 ?_ ?_ ?_ ?_ ?_ ?_ ?_ ?_ ?_ T ?_
  iterate 9 (exact C _ _ _ _ _ _ (by simp) (by simp))
  intro h6 tk6 m6 F6
  exact ret h6 tk6 gens m6 hb F6
end
end Mine

namespace Mine
section
open PySem PySem.W PyProof.Rows PySem.Spec PySem.Calls
set_option maxRecDepth 100000
set_option maxHeartbeats 20000000
noncomputable abbrev RW : OpenRow := PySem.Challenge.rw_xg0044_01.row
noncomputable abbrev HO : Hook := kHook KF AD (fun _ => by kernel_rfl)
noncomputable abbrev XT (s : Shared) : Bool := xlAt VW [] s && recOk (RowW.records RW.toRowW) s
abbrev OneWay (w : World) : Prop := (openEnds treeTable RW.prog w 3906).map (fun s => (openSeen VW LS (importedModules RW.prog.main.body) XT true s, Hook.obs HO s)) = some (openGood VW LS, Hook.val HO w)
theorem way_f (w : World) : OneWay (w.withFollow "special-get-raises" false) := by
  unfold OneWay
  kernel_rfl
theorem way_t (w : World) : OneWay (w.withFollow "special-get-raises" true) := by
  unfold OneWay
  kernel_rfl
theorem leftO : LeftO RW.prog VW LS XT (Hook.obs HO) (Hook.val HO) 3906 := fun w => byRow2 "special-get-raises" (P := OneWay) way_f way_t w
theorem law_said : PySem.Challenge.rw_xg0044_01.wellSaid = true := by
  kernel_rfl
theorem looks_ok : (chainsOk VW && opensWell RW.prog && (frees RW.toRowW && RW.within.isEmpty)) = true := by
  decide +kernel
theorem goodG {c : ClaimW} {cl : Str → Option Addr} {mean : ExcName → Option Value} {args : List WData} {s₁ s' : Shared} {v : Value} {L : Addr} {m : Str → Option Value} (F : Fr s₁.heap L s'.heap m) (hb : AllBare s'.gens) (hos : s'.os = s₁.os)
  (h : (#[] : Array GenState) = #[] → GoodW c cl mean args s₁ (.ok (.ret v)) { s' with gens := #[] }) : GoodWG c cl mean args s₁ (.ok (.ret v)) s' :=
  ⟨(h rfl).1, .of_keep (fun b o e => F.keep b o e), hos, hb⟩
theorem lit5 {prog : Program} {w : World} {Q : Flow → Shared → Prop} {E : Value → Shared → Prop} {s : Shared} {q q' : Str} {sc sc' : Scope} {b b' : List Stmt} {L a : Addr} {cd : Value}
  (hE : PassesOwn (model prog w) (callerA.deeper (envOfC q' sc' L a cd)) (envOfC q' sc' L a cd) E) (e0 : q' = q) (e1 : b' = b) (e2 : sc' = sc)
  (h : PassesOwn (model prog w) (callerA.deeper (envOfC q sc L a cd)) (envOfC q sc L a cd) E → wpAny (model prog w) (callerA.deeper (envOfC q sc L a cd)) (execs b (envOfC q sc L a cd)) Q E s) : wpAny (model prog w) (callerA.deeper (envOfC q' sc' L a cd)) (execs b' (envOfC q' sc' L a cd)) Q E s := by subst e0 e1 e2; exact h hE
theorem fin : PySem.Challenge.rw_xg0044_01.Holds := by
  w_on
  refine holds_law law_said fun said => ?_
  refine holds_open (q := VW) (loose := LS) (Xt := XT) (XP := XL VW []) (Yf := Hook.obs HO) (Ya := Hook.val HO) (YP := Hook.says HO) (N := 3906) leftO (Hook.of HO) (Hook.keeps HO) (fun s e => xl_of s (Bool.and_eq_true_iff.mp e).1) XL.keeps (by rfl) (by rfl) (by rfl) (fun s e => recFacts_of (Bool.and_eq_true_iff.mp e).2) (by rfl) said looks_ok ⟨rfl, rfl, rfl, rfl, rfl, by decide +kernel⟩ ?hw ?hc
  case hw => w_witness2
  k_fill
  intro w s₀ s₁ mg mb G Y fa o pm cd doc dV kV ho hd1 hcd hD hmg hg args vals as hpre hlay hrd hwl hlo
  have KX := kIn_of Y
  have X := (Ground.X G).1
  have V := (Ground.X G).2
  refine Ground.open G ?_
  intro T B D TE TW
  try (refine guard_noD D (by decide +kernel) ?_; clear D)
  obtain ⟨_, _, M⟩ := bmod_of_top T
  have TA := at_of_top T
  try (obtain ⟨_, _, he, B0⟩ := based_of_top T rfl hmg ho hd1; have he' : cd = _ := he; subst he'; clear he)
  clear hmg
  wrow_args hpre hlay hrd hwl hlo
  first | refine callC_kw (enter_call ?_) | refine enter_call ?_ | refine callC_kw (enter_callW ?_) | refine enter_callW ?_
  w_top on
  have K0 := below_caller (Top.heap T)
  w_call any ho hd1 hcd hD T F
  clear hd1 TA
  k_drop
  refine lit5 ?hE (by with_unfolding_all rfl) (by with_unfolding_all rfl) (by with_unfolding_all rfl) (fun hE => ?_)
  case hE => passes_own
  refine' lawAll w _ mg mb fa _ s₁.heap s₁.heap.objs.size _ _ _ _ (below_caller _) KX _ _ _ _ _ ?ad1 ?ad2 ?ad3 ?ad4 ?ad5 _ _ _ ?ahS ?ahI ?ahn ?ahm ?aF ?aN ?aT ?ahg hE ?aret
  case ahS => assumption
  case ahI => assumption
  case aN => assumption
  case aF => assumption
  case aT => with_unfolding_all exact T
  case ahg => exact hg
  case ahm => with_unfolding_all rfl
  case ad1 => with_unfolding_all assumption
  case ad2 => with_unfolding_all assumption
  case ad3 => with_unfolding_all assumption
  case ad4 => with_unfolding_all assumption
  case ad5 => with_unfolding_all assumption
  case ahn => omega
  case aret =>
    intro h6 tk6 gens m6 hb F6
    show GoodWG _ _ _ _ _ (.ok (.ret (.bool true))) _
    refine goodG (by assumption) hb rfl (fun hz => ?_)
    wrow_close
end
end Mine

theorem PySem.Challenge.cw_xg0044_01_holds : PySem.Challenge.rw_xg0044_01.Holds :=
  Mine.fin
