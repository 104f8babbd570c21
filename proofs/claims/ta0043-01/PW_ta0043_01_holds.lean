import PyProof.Rows.All
import Wide.All
import OpenK.AllK
import Wide.FinOn
import PySem.Challenge.RW_ta0043_01
open PySem PySem.W PySem.Calls PyProof.Rows PySem.Spec
set_option Elab.async false
set_option compiler.extract_closed false
set_option maxRecDepth 100000
set_option maxHeartbeats 0
set_option pp.maxSteps 6000
namespace Mine
section
abbrev pw : Program := PySem.Challenge.pw_ta0043_01
noncomputable def defAt (i : Nat) : Arguments × List Stmt × Scope := match pw.main.body.drop i with
  | .FunctionDef _ a b _ _ _ s _ _ _ :: _ => (a, b, s)
  | _ => default
noncomputable def heap39 : Params → Frag := fun P => (fun
  (p22 : Arguments) (b22 : List Stmt) (s22 : Scope)
  (p29 : Arguments) (b29 : List Stmt) (s29 : Scope)
  (p36 : Arguments) (b36 : List Stmt) (s36 : Scope)
  (p43 : Arguments) (b43 : List Stmt) (s43 : Scope)
  (p50 : Arguments) (b50 : List Stmt) (s50 : Scope)
  (p57 : Arguments) (b57 : List Stmt) (s57 : Scope)
  (p64 : Arguments) (b64 : List Stmt) (s64 : Scope)
  (p71 : Arguments) (b71 : List Stmt) (s71 : Scope)
  (p78 : Arguments) (b78 : List Stmt) (s78 : Scope)
  (p85 : Arguments) (b85 : List Stmt) (s85 : Scope)
  (p95 : Arguments) (b95 : List Stmt) (s95 : Scope)
  (p102 : Arguments) (b102 : List Stmt) (s102 : Scope)
  (p109 : Arguments) (b109 : List Stmt) (s109 : Scope)
  (p116 : Arguments) (b116 : List Stmt) (s116 : Scope)
  (p123 : Arguments) (b123 : List Stmt) (s123 : Scope)
  (p130 : Arguments) (b130 : List Stmt) (s130 : Scope)
  (p135 : Arguments) (b135 : List Stmt) (s135 : Scope)
  (p142 : Arguments) (b142 : List Stmt) (s142 : Scope)
  (p147 : Arguments) (b147 : List Stmt) (s147 : Scope)
  (p154 : Arguments) (b154 : List Stmt) (s154 : Scope)
  (p159 : Arguments) (b159 : List Stmt) (s159 : Scope)
  (p164 : Arguments) (b164 : List Stmt) (s164 : Scope)
  (p169 : Arguments) (b169 : List Stmt) (s169 : Scope)
  (p174 : Arguments) (b174 : List Stmt) (s174 : Scope)
  (p181 : Arguments) (b181 : List Stmt) (s181 : Scope)
  (p186 : Arguments) (b186 : List Stmt) (s186 : Scope)
  (p193 : Arguments) (b193 : List Stmt) (s193 : Scope)
  (p198 : Arguments) (b198 : List Stmt) (s198 : Scope)
  (p203 : Arguments) (b203 : List Stmt) (s203 : Scope)
  (_ : defAt 2 = (p22, b22, s22) ∧ defAt 3 = (p29, b29, s29) ∧ defAt 5 = (p36, b36, s36) ∧ defAt 6 = (p43, b43, s43) ∧ defAt 7 = (p50, b50, s50) ∧ defAt 8 = (p57, b57, s57) ∧ defAt 9 = (p64, b64, s64) ∧ defAt 10 = (p71, b71, s71) ∧ defAt 11 = (p78, b78, s78) ∧ defAt 12 = (p85, b85, s85) ∧ defAt 65 = (p95, b95, s95) ∧ defAt 66 = (p102, b102, s102) ∧ defAt 67 = (p109, b109, s109) ∧ defAt 72 = (p116, b116, s116) ∧ defAt 73 = (p123, b123, s123) ∧ defAt 75 = (p130, b130, s130) ∧ defAt 76 = (p135, b135, s135) ∧ defAt 77 = (p142, b142, s142) ∧ defAt 78 = (p147, b147, s147) ∧ defAt 79 = (p154, b154, s154) ∧ defAt 80 = (p159, b159, s159) ∧ defAt 81 = (p164, b164, s164) ∧ defAt 82 = (p169, b169, s169) ∧ defAt 83 = (p174, b174, s174) ∧ defAt 84 = (p181, b181, s181) ∧ defAt 85 = (p186, b186, s186) ∧ defAt 86 = (p193, b193, s193) ∧ defAt 87 = (p198, b198, s198) ∧ defAt 88 = (p203, b203, s203)) => (
(nat_lit 2, Obj.mk Value.none none (Data.dict #[]) #[]) ::
(nat_lit 3, Obj.mk (Value.type "dict") none
  (Data.dict
    #[DictEntry.mk (PyData.keyHash P (Str.ofString "__name__")) (Value.str (Str.ofString "__name__") 165)
        (Value.str (Str.ofString "law_ta0043_01") 560),
      DictEntry.mk (PyData.keyHash P (Str.ofString "__doc__")) (Value.str (Str.ofString "__doc__") 166) Value.none,
      DictEntry.mk (PyData.keyHash P (Str.ofString "__package__")) (Value.str (Str.ofString "__package__") 167)
        Value.none,
      DictEntry.mk (PyData.keyHash P (Str.ofString "__loader__")) (Value.str (Str.ofString "__loader__") 168)
        (Value.builtin "__main__.__loader__#opaque"),
      DictEntry.mk (PyData.keyHash P (Str.ofString "__spec__")) (Value.str (Str.ofString "__spec__") 169) Value.none,
      DictEntry.mk (PyData.keyHash P (Str.ofString "__annotations__")) (Value.str (Str.ofString "__annotations__") 170)
        (Value.ref 6),
      DictEntry.mk (PyData.keyHash P (Str.ofString "__builtins__")) (Value.str (Str.ofString "__builtins__") 171)
        (Value.ref 4),
      DictEntry.mk (PyData.keyHash P (Str.ofString "__file__")) (Value.str (Str.ofString "__file__") 173)
        (Value.str (Str.ofString "/claim/cut.py") 172),
      DictEntry.mk (PyData.keyHash P (Str.ofString "__cached__")) (Value.str (Str.ofString "__cached__") 174)
        Value.none,
      DictEntry.mk (PyData.keyHash P (Str.ofString "COMPILER_FLAG_NAMES"))
        (Value.str (Str.ofString "COMPILER_FLAG_NAMES") 219) (Value.ref 15),
      DictEntry.mk (PyData.keyHash P (Str.ofString "pretty_flags")) (Value.str (Str.ofString "pretty_flags") 229)
        (Value.ref 22),
      DictEntry.mk (PyData.keyHash P (Str.ofString "_parse_varint")) (Value.str (Str.ofString "_parse_varint") 238)
        (Value.ref 29),
      DictEntry.mk (PyData.keyHash P (Str.ofString "add")) (Value.str (Str.ofString "add") 248) (Value.ref 36),
      DictEntry.mk (PyData.keyHash P (Str.ofString "and_")) (Value.str (Str.ofString "and_") 256) (Value.ref 43),
      DictEntry.mk (PyData.keyHash P (Str.ofString "lshift")) (Value.str (Str.ofString "lshift") 264) (Value.ref 50),
      DictEntry.mk (PyData.keyHash P (Str.ofString "mul")) (Value.str (Str.ofString "mul") 272) (Value.ref 57),
      DictEntry.mk (PyData.keyHash P (Str.ofString "neg")) (Value.str (Str.ofString "neg") 279) (Value.ref 64),
      DictEntry.mk (PyData.keyHash P (Str.ofString "or_")) (Value.str (Str.ofString "or_") 287) (Value.ref 71),
      DictEntry.mk (PyData.keyHash P (Str.ofString "rshift")) (Value.str (Str.ofString "rshift") 295) (Value.ref 78),
      DictEntry.mk (PyData.keyHash P (Str.ofString "sub")) (Value.str (Str.ofString "sub") 303) (Value.ref 85),
      DictEntry.mk (PyData.keyHash P (Str.ofString "ENDMARKER")) (Value.str (Str.ofString "ENDMARKER") 307)
        (Value.int 0 306),
      DictEntry.mk (PyData.keyHash P (Str.ofString "LPAR")) (Value.str (Str.ofString "LPAR") 309) (Value.int 7 308),
      DictEntry.mk (PyData.keyHash P (Str.ofString "RPAR")) (Value.str (Str.ofString "RPAR") 311) (Value.int 8 310),
      DictEntry.mk (PyData.keyHash P (Str.ofString "LSQB")) (Value.str (Str.ofString "LSQB") 313) (Value.int 9 312),
      DictEntry.mk (PyData.keyHash P (Str.ofString "RSQB")) (Value.str (Str.ofString "RSQB") 315) (Value.int 10 314),
      DictEntry.mk (PyData.keyHash P (Str.ofString "COLON")) (Value.str (Str.ofString "COLON") 317) (Value.int 11 316),
      DictEntry.mk (PyData.keyHash P (Str.ofString "COMMA")) (Value.str (Str.ofString "COMMA") 319) (Value.int 12 318),
      DictEntry.mk (PyData.keyHash P (Str.ofString "SEMI")) (Value.str (Str.ofString "SEMI") 321) (Value.int 13 320),
      DictEntry.mk (PyData.keyHash P (Str.ofString "PLUS")) (Value.str (Str.ofString "PLUS") 323) (Value.int 14 322),
      DictEntry.mk (PyData.keyHash P (Str.ofString "MINUS")) (Value.str (Str.ofString "MINUS") 325) (Value.int 15 324),
      DictEntry.mk (PyData.keyHash P (Str.ofString "STAR")) (Value.str (Str.ofString "STAR") 327) (Value.int 16 326),
      DictEntry.mk (PyData.keyHash P (Str.ofString "SLASH")) (Value.str (Str.ofString "SLASH") 329) (Value.int 17 328),
      DictEntry.mk (PyData.keyHash P (Str.ofString "VBAR")) (Value.str (Str.ofString "VBAR") 331) (Value.int 18 330),
      DictEntry.mk (PyData.keyHash P (Str.ofString "AMPER")) (Value.str (Str.ofString "AMPER") 333) (Value.int 19 332),
      DictEntry.mk (PyData.keyHash P (Str.ofString "LESS")) (Value.str (Str.ofString "LESS") 335) (Value.int 20 334),
      DictEntry.mk (PyData.keyHash P (Str.ofString "GREATER")) (Value.str (Str.ofString "GREATER") 337)
        (Value.int 21 336),
      DictEntry.mk (PyData.keyHash P (Str.ofString "EQUAL")) (Value.str (Str.ofString "EQUAL") 339) (Value.int 22 338),
      DictEntry.mk (PyData.keyHash P (Str.ofString "DOT")) (Value.str (Str.ofString "DOT") 341) (Value.int 23 340),
      DictEntry.mk (PyData.keyHash P (Str.ofString "PERCENT")) (Value.str (Str.ofString "PERCENT") 343)
        (Value.int 24 342),
      DictEntry.mk (PyData.keyHash P (Str.ofString "LBRACE")) (Value.str (Str.ofString "LBRACE") 345)
        (Value.int 25 344),
      DictEntry.mk (PyData.keyHash P (Str.ofString "RBRACE")) (Value.str (Str.ofString "RBRACE") 347)
        (Value.int 26 346),
      DictEntry.mk (PyData.keyHash P (Str.ofString "EQEQUAL")) (Value.str (Str.ofString "EQEQUAL") 349)
        (Value.int 27 348),
      DictEntry.mk (PyData.keyHash P (Str.ofString "NOTEQUAL")) (Value.str (Str.ofString "NOTEQUAL") 351)
        (Value.int 28 350),
      DictEntry.mk (PyData.keyHash P (Str.ofString "LESSEQUAL")) (Value.str (Str.ofString "LESSEQUAL") 353)
        (Value.int 29 352),
      DictEntry.mk (PyData.keyHash P (Str.ofString "GREATEREQUAL")) (Value.str (Str.ofString "GREATEREQUAL") 355)
        (Value.int 30 354),
      DictEntry.mk (PyData.keyHash P (Str.ofString "TILDE")) (Value.str (Str.ofString "TILDE") 357) (Value.int 31 356),
      DictEntry.mk (PyData.keyHash P (Str.ofString "CIRCUMFLEX")) (Value.str (Str.ofString "CIRCUMFLEX") 359)
        (Value.int 32 358),
      DictEntry.mk (PyData.keyHash P (Str.ofString "LEFTSHIFT")) (Value.str (Str.ofString "LEFTSHIFT") 361)
        (Value.int 33 360),
      DictEntry.mk (PyData.keyHash P (Str.ofString "RIGHTSHIFT")) (Value.str (Str.ofString "RIGHTSHIFT") 363)
        (Value.int 34 362),
      DictEntry.mk (PyData.keyHash P (Str.ofString "DOUBLESTAR")) (Value.str (Str.ofString "DOUBLESTAR") 365)
        (Value.int 35 364),
      DictEntry.mk (PyData.keyHash P (Str.ofString "PLUSEQUAL")) (Value.str (Str.ofString "PLUSEQUAL") 367)
        (Value.int 36 366),
      DictEntry.mk (PyData.keyHash P (Str.ofString "MINEQUAL")) (Value.str (Str.ofString "MINEQUAL") 369)
        (Value.int 37 368),
      DictEntry.mk (PyData.keyHash P (Str.ofString "STAREQUAL")) (Value.str (Str.ofString "STAREQUAL") 371)
        (Value.int 38 370),
      DictEntry.mk (PyData.keyHash P (Str.ofString "SLASHEQUAL")) (Value.str (Str.ofString "SLASHEQUAL") 373)
        (Value.int 39 372),
      DictEntry.mk (PyData.keyHash P (Str.ofString "PERCENTEQUAL")) (Value.str (Str.ofString "PERCENTEQUAL") 375)
        (Value.int 40 374),
      DictEntry.mk (PyData.keyHash P (Str.ofString "AMPEREQUAL")) (Value.str (Str.ofString "AMPEREQUAL") 377)
        (Value.int 41 376),
      DictEntry.mk (PyData.keyHash P (Str.ofString "VBAREQUAL")) (Value.str (Str.ofString "VBAREQUAL") 379)
        (Value.int 42 378),
      DictEntry.mk (PyData.keyHash P (Str.ofString "CIRCUMFLEXEQUAL")) (Value.str (Str.ofString "CIRCUMFLEXEQUAL") 381)
        (Value.int 43 380),
      DictEntry.mk (PyData.keyHash P (Str.ofString "LEFTSHIFTEQUAL")) (Value.str (Str.ofString "LEFTSHIFTEQUAL") 383)
        (Value.int 44 382),
      DictEntry.mk (PyData.keyHash P (Str.ofString "RIGHTSHIFTEQUAL")) (Value.str (Str.ofString "RIGHTSHIFTEQUAL") 385)
        (Value.int 45 384),
      DictEntry.mk (PyData.keyHash P (Str.ofString "DOUBLESTAREQUAL")) (Value.str (Str.ofString "DOUBLESTAREQUAL") 387)
        (Value.int 46 386),
      DictEntry.mk (PyData.keyHash P (Str.ofString "DOUBLESLASH")) (Value.str (Str.ofString "DOUBLESLASH") 389)
        (Value.int 47 388),
      DictEntry.mk (PyData.keyHash P (Str.ofString "DOUBLESLASHEQUAL"))
        (Value.str (Str.ofString "DOUBLESLASHEQUAL") 391) (Value.int 48 390),
      DictEntry.mk (PyData.keyHash P (Str.ofString "AT")) (Value.str (Str.ofString "AT") 393) (Value.int 49 392),
      DictEntry.mk (PyData.keyHash P (Str.ofString "ATEQUAL")) (Value.str (Str.ofString "ATEQUAL") 395)
        (Value.int 50 394),
      DictEntry.mk (PyData.keyHash P (Str.ofString "RARROW")) (Value.str (Str.ofString "RARROW") 397)
        (Value.int 51 396),
      DictEntry.mk (PyData.keyHash P (Str.ofString "ELLIPSIS")) (Value.str (Str.ofString "ELLIPSIS") 399)
        (Value.int 52 398),
      DictEntry.mk (PyData.keyHash P (Str.ofString "COLONEQUAL")) (Value.str (Str.ofString "COLONEQUAL") 401)
        (Value.int 53 400),
      DictEntry.mk (PyData.keyHash P (Str.ofString "EXCLAMATION")) (Value.str (Str.ofString "EXCLAMATION") 403)
        (Value.int 54 402),
      DictEntry.mk (PyData.keyHash P (Str.ofString "NT_OFFSET")) (Value.str (Str.ofString "NT_OFFSET") 405)
        (Value.int 256 404),
      DictEntry.mk (PyData.keyHash P (Str.ofString "EXACT_TOKEN_TYPES"))
        (Value.str (Str.ofString "EXACT_TOKEN_TYPES") 502) (Value.ref 86),
      DictEntry.mk (PyData.keyHash P (Str.ofString "ISTERMINAL")) (Value.str (Str.ofString "ISTERMINAL") 509)
        (Value.ref 95),
      DictEntry.mk (PyData.keyHash P (Str.ofString "ISNONTERMINAL")) (Value.str (Str.ofString "ISNONTERMINAL") 516)
        (Value.ref 102),
      DictEntry.mk (PyData.keyHash P (Str.ofString "ISEOF")) (Value.str (Str.ofString "ISEOF") 523) (Value.ref 109),
      DictEntry.mk (PyData.keyHash P (Str.ofString "_MAX_STRING_SIZE"))
        (Value.str (Str.ofString "_MAX_STRING_SIZE") 527) (Value.int 40 526),
      DictEntry.mk (PyData.keyHash P (Str.ofString "_MOVE_COST")) (Value.str (Str.ofString "_MOVE_COST") 529)
        (Value.int 2 528),
      DictEntry.mk (PyData.keyHash P (Str.ofString "_CASE_COST")) (Value.str (Str.ofString "_CASE_COST") 531)
        (Value.int 1 530),
      DictEntry.mk (PyData.keyHash P (Str.ofString "_substitution_cost"))
        (Value.str (Str.ofString "_substitution_cost") 539) (Value.ref 116),
      DictEntry.mk (PyData.keyHash P (Str.ofString "_levenshtein_distance"))
        (Value.str (Str.ofString "_levenshtein_distance") 559) (Value.ref 123),
      DictEntry.mk (PyData.keyHash P (Str.ofString "_law_statement")) (Value.str (Str.ofString "_law_statement") 569)
        (Value.ref 130),
      DictEntry.mk (PyData.keyHash P (Str.ofString "_law_spelled")) (Value.str (Str.ofString "_law_spelled") 575)
        (Value.ref 135),
      DictEntry.mk (PyData.keyHash P (Str.ofString "_law_octets")) (Value.str (Str.ofString "_law_octets") 583)
        (Value.ref 142),
      DictEntry.mk (PyData.keyHash P (Str.ofString "_law_texts")) (Value.str (Str.ofString "_law_texts") 589)
        (Value.ref 147),
      DictEntry.mk (PyData.keyHash P (Str.ofString "_law_cost")) (Value.str (Str.ofString "_law_cost") 597)
        (Value.ref 154),
      DictEntry.mk (PyData.keyHash P (Str.ofString "_law_distance")) (Value.str (Str.ofString "_law_distance") 603)
        (Value.ref 159),
      DictEntry.mk (PyData.keyHash P (Str.ofString "_law_trees")) (Value.str (Str.ofString "_law_trees") 609)
        (Value.ref 164),
      DictEntry.mk (PyData.keyHash P (Str.ofString "_law_number")) (Value.str (Str.ofString "_law_number") 615)
        (Value.ref 169),
      DictEntry.mk (PyData.keyHash P (Str.ofString "_law_weights")) (Value.str (Str.ofString "_law_weights") 621)
        (Value.ref 174),
      DictEntry.mk (PyData.keyHash P (Str.ofString "_law_struck")) (Value.str (Str.ofString "_law_struck") 636)
        (Value.ref 181),
      DictEntry.mk (PyData.keyHash P (Str.ofString "_law_determinant"))
        (Value.str (Str.ofString "_law_determinant") 642) (Value.ref 186),
      DictEntry.mk (PyData.keyHash P (Str.ofString "_law_totals")) (Value.str (Str.ofString "_law_totals") 651)
        (Value.ref 193),
      DictEntry.mk (PyData.keyHash P (Str.ofString "_law_words")) (Value.str (Str.ofString "_law_words") 657)
        (Value.ref 198),
      DictEntry.mk (PyData.keyHash P (Str.ofString "law")) (Value.str (Str.ofString "law") 663) (Value.ref 203)]
    93)
  #[]) ::
(nat_lit 15, Obj.mk (Value.type "dict") none
  (Data.dict
    #[DictEntry.mk 1 (Value.int 1 189) (Value.str (Str.ofString "OPTIMIZED") 190),
      DictEntry.mk 2 (Value.int 2 191) (Value.str (Str.ofString "NEWLOCALS") 192),
      DictEntry.mk 4 (Value.int 4 193) (Value.str (Str.ofString "VARARGS") 194),
      DictEntry.mk 8 (Value.int 8 195) (Value.str (Str.ofString "VARKEYWORDS") 196),
      DictEntry.mk 16 (Value.int 16 197) (Value.str (Str.ofString "NESTED") 198),
      DictEntry.mk 32 (Value.int 32 199) (Value.str (Str.ofString "GENERATOR") 200),
      DictEntry.mk 64 (Value.int 64 201) (Value.str (Str.ofString "NOFREE") 202),
      DictEntry.mk 128 (Value.int 128 203) (Value.str (Str.ofString "COROUTINE") 204),
      DictEntry.mk 256 (Value.int 256 205) (Value.str (Str.ofString "ITERABLE_COROUTINE") 206),
      DictEntry.mk 512 (Value.int 512 207) (Value.str (Str.ofString "ASYNC_GENERATOR") 208)]
    10)
  #[]) ::
(nat_lit 16, Obj.mk (Value.type "tuple") none (Data.seq #[]) #[]) ::
(nat_lit 18, Obj.mk (Value.type "tuple") none
  (Data.seq
    #[Value.str (Str.ofString "flags") 223, Value.str (Str.ofString "names") 224, Value.str (Str.ofString "i") 225,
      Value.str (Str.ofString "flag") 226])
  #[]) ::
(nat_lit 19, Obj.mk (Value.type "tuple") none (Data.seq #[]) #[]) ::
(nat_lit 21, Obj.mk (Value.type "code") none
  (Data.fields
    #[Value.str (Str.ofString "pretty_flags") 220, Value.str (Str.ofString "pretty_flags") 221,
      Value.str (Str.ofString "/claim/cut.py") 222, Value.int 3 0, Value.int 1 0, Value.int 0 0, Value.int 0 0,
      Value.int 3 0, Value.ref 16, Value.bool true, Value.int 181 0, Value.ref 17, Value.none, Value.ref 18,
      Value.ref 19, Value.ref 20, Value.int 227 0, Value.int 3 0, Value.str (Str.ofString "/claim/cut.py") 228])
  #[]) ::
(nat_lit 22, Obj.mk (Value.type "function") none
  (Data.func
    (FuncData.mk (Str.ofString "pretty_flags") (Str.ofString "pretty_flags") p22 (FuncBody.stmts b22) s22 3 []
      Value.none Value.none Value.none (Value.str (Str.ofString "cpy313.dis") 187) none (Value.ref 21) Value.none 0))
  #[]) ::
(nat_lit 23, Obj.mk (Value.type "tuple") none (Data.seq #[]) #[]) ::
(nat_lit 25, Obj.mk (Value.type "tuple") none
  (Data.seq
    #[Value.str (Str.ofString "iterator") 233, Value.str (Str.ofString "b") 234, Value.str (Str.ofString "val") 235])
  #[]) ::
(nat_lit 26, Obj.mk (Value.type "tuple") none (Data.seq #[]) #[]) ::
(nat_lit 28, Obj.mk (Value.type "code") none
  (Data.fields
    #[Value.str (Str.ofString "_parse_varint") 230, Value.str (Str.ofString "_parse_varint") 231,
      Value.str (Str.ofString "/claim/cut.py") 232, Value.int 15 0, Value.int 1 0, Value.int 0 0, Value.int 0 0,
      Value.int 3 0, Value.ref 23, Value.bool true, Value.int 181 0, Value.ref 24, Value.none, Value.ref 25,
      Value.ref 26, Value.ref 27, Value.int 236 0, Value.int 15 0, Value.str (Str.ofString "/claim/cut.py") 237])
  #[]) ::
(nat_lit 29, Obj.mk (Value.type "function") none
  (Data.func
    (FuncData.mk (Str.ofString "_parse_varint") (Str.ofString "_parse_varint") p29 (FuncBody.stmts b29) s29 3 []
      Value.none Value.none Value.none (Value.str (Str.ofString "cpy313.dis") 187) none (Value.ref 28) Value.none 0))
  #[]) ::
(nat_lit 30, Obj.mk (Value.type "tuple") none (Data.seq #[]) #[]) ::
(nat_lit 32, Obj.mk (Value.type "tuple") none (Data.seq #[Value.str (Str.ofString "a") 244, Value.str (Str.ofString "b") 245]) #[]) ::
(nat_lit 33, Obj.mk (Value.type "tuple") none (Data.seq #[]) #[]) ::
(nat_lit 35, Obj.mk (Value.type "code") none
  (Data.fields
    #[Value.str (Str.ofString "add") 241, Value.str (Str.ofString "add") 242,
      Value.str (Str.ofString "/claim/cut.py") 243, Value.int 24 0, Value.int 2 0, Value.int 0 0, Value.int 0 0,
      Value.int 3 0, Value.ref 30, Value.bool true, Value.int 181 0, Value.ref 31, Value.none, Value.ref 32,
      Value.ref 33, Value.ref 34, Value.int 246 0, Value.int 24 0, Value.str (Str.ofString "/claim/cut.py") 247])
  #[]) ::
(nat_lit 36, Obj.mk (Value.type "function") none
  (Data.func
    (FuncData.mk (Str.ofString "add") (Str.ofString "add") p36 (FuncBody.stmts b36) s36 3 [] Value.none Value.none
      Value.none (Value.str (Str.ofString "cpy313.operator") 239) none (Value.ref 35) Value.none 0))
  #[]) ::
(nat_lit 37, Obj.mk (Value.type "tuple") none (Data.seq #[]) #[]) ::
(nat_lit 39, Obj.mk (Value.type "tuple") none (Data.seq #[Value.str (Str.ofString "a") 252, Value.str (Str.ofString "b") 253]) #[]) ::
(nat_lit 40, Obj.mk (Value.type "tuple") none (Data.seq #[]) #[]) ::
(nat_lit 42, Obj.mk (Value.type "code") none
  (Data.fields
    #[Value.str (Str.ofString "and_") 249, Value.str (Str.ofString "and_") 250,
      Value.str (Str.ofString "/claim/cut.py") 251, Value.int 26 0, Value.int 2 0, Value.int 0 0, Value.int 0 0,
      Value.int 3 0, Value.ref 37, Value.bool true, Value.int 181 0, Value.ref 38, Value.none, Value.ref 39,
      Value.ref 40, Value.ref 41, Value.int 254 0, Value.int 26 0, Value.str (Str.ofString "/claim/cut.py") 255])
  #[]) ::
(nat_lit 43, Obj.mk (Value.type "function") none
  (Data.func
    (FuncData.mk (Str.ofString "and_") (Str.ofString "and_") p43 (FuncBody.stmts b43) s43 3 [] Value.none Value.none
      Value.none (Value.str (Str.ofString "cpy313.operator") 239) none (Value.ref 42) Value.none 0))
  #[]) ::
(nat_lit 44, Obj.mk (Value.type "tuple") none (Data.seq #[]) #[]) ::
(nat_lit 46, Obj.mk (Value.type "tuple") none (Data.seq #[Value.str (Str.ofString "a") 260, Value.str (Str.ofString "b") 261]) #[]) ::
(nat_lit 47, Obj.mk (Value.type "tuple") none (Data.seq #[]) #[]) ::
(nat_lit 49, Obj.mk (Value.type "code") none
  (Data.fields
    #[Value.str (Str.ofString "lshift") 257, Value.str (Str.ofString "lshift") 258,
      Value.str (Str.ofString "/claim/cut.py") 259, Value.int 28 0, Value.int 2 0, Value.int 0 0, Value.int 0 0,
      Value.int 3 0, Value.ref 44, Value.bool true, Value.int 181 0, Value.ref 45, Value.none, Value.ref 46,
      Value.ref 47, Value.ref 48, Value.int 262 0, Value.int 28 0, Value.str (Str.ofString "/claim/cut.py") 263])
  #[]) ::
(nat_lit 50, Obj.mk (Value.type "function") none
  (Data.func
    (FuncData.mk (Str.ofString "lshift") (Str.ofString "lshift") p50 (FuncBody.stmts b50) s50 3 [] Value.none Value.none
      Value.none (Value.str (Str.ofString "cpy313.operator") 239) none (Value.ref 49) Value.none 0))
  #[]) ::
(nat_lit 51, Obj.mk (Value.type "tuple") none (Data.seq #[]) #[]) ::
(nat_lit 53, Obj.mk (Value.type "tuple") none (Data.seq #[Value.str (Str.ofString "a") 268, Value.str (Str.ofString "b") 269]) #[]) ::
(nat_lit 54, Obj.mk (Value.type "tuple") none (Data.seq #[]) #[]) ::
(nat_lit 56, Obj.mk (Value.type "code") none
  (Data.fields
    #[Value.str (Str.ofString "mul") 265, Value.str (Str.ofString "mul") 266,
      Value.str (Str.ofString "/claim/cut.py") 267, Value.int 30 0, Value.int 2 0, Value.int 0 0, Value.int 0 0,
      Value.int 3 0, Value.ref 51, Value.bool true, Value.int 181 0, Value.ref 52, Value.none, Value.ref 53,
      Value.ref 54, Value.ref 55, Value.int 270 0, Value.int 30 0, Value.str (Str.ofString "/claim/cut.py") 271])
  #[]) ::
(nat_lit 57, Obj.mk (Value.type "function") none
  (Data.func
    (FuncData.mk (Str.ofString "mul") (Str.ofString "mul") p57 (FuncBody.stmts b57) s57 3 [] Value.none Value.none
      Value.none (Value.str (Str.ofString "cpy313.operator") 239) none (Value.ref 56) Value.none 0))
  #[]) ::
(nat_lit 58, Obj.mk (Value.type "tuple") none (Data.seq #[]) #[]) ::
(nat_lit 60, Obj.mk (Value.type "tuple") none (Data.seq #[Value.str (Str.ofString "a") 276]) #[]) ::
(nat_lit 61, Obj.mk (Value.type "tuple") none (Data.seq #[]) #[]) ::
(nat_lit 63, Obj.mk (Value.type "code") none
  (Data.fields
    #[Value.str (Str.ofString "neg") 273, Value.str (Str.ofString "neg") 274,
      Value.str (Str.ofString "/claim/cut.py") 275, Value.int 32 0, Value.int 1 0, Value.int 0 0, Value.int 0 0,
      Value.int 3 0, Value.ref 58, Value.bool true, Value.int 181 0, Value.ref 59, Value.none, Value.ref 60,
      Value.ref 61, Value.ref 62, Value.int 277 0, Value.int 32 0, Value.str (Str.ofString "/claim/cut.py") 278])
  #[]) ::
(nat_lit 64, Obj.mk (Value.type "function") none
  (Data.func
    (FuncData.mk (Str.ofString "neg") (Str.ofString "neg") p64 (FuncBody.stmts b64) s64 3 [] Value.none Value.none
      Value.none (Value.str (Str.ofString "cpy313.operator") 239) none (Value.ref 63) Value.none 0))
  #[]) ::
(nat_lit 65, Obj.mk (Value.type "tuple") none (Data.seq #[]) #[]) ::
(nat_lit 67, Obj.mk (Value.type "tuple") none (Data.seq #[Value.str (Str.ofString "a") 283, Value.str (Str.ofString "b") 284]) #[]) ::
(nat_lit 68, Obj.mk (Value.type "tuple") none (Data.seq #[]) #[]) ::
(nat_lit 70, Obj.mk (Value.type "code") none
  (Data.fields
    #[Value.str (Str.ofString "or_") 280, Value.str (Str.ofString "or_") 281,
      Value.str (Str.ofString "/claim/cut.py") 282, Value.int 34 0, Value.int 2 0, Value.int 0 0, Value.int 0 0,
      Value.int 3 0, Value.ref 65, Value.bool true, Value.int 181 0, Value.ref 66, Value.none, Value.ref 67,
      Value.ref 68, Value.ref 69, Value.int 285 0, Value.int 34 0, Value.str (Str.ofString "/claim/cut.py") 286])
  #[]) ::
(nat_lit 71, Obj.mk (Value.type "function") none
  (Data.func
    (FuncData.mk (Str.ofString "or_") (Str.ofString "or_") p71 (FuncBody.stmts b71) s71 3 [] Value.none Value.none
      Value.none (Value.str (Str.ofString "cpy313.operator") 239) none (Value.ref 70) Value.none 0))
  #[]) ::
(nat_lit 72, Obj.mk (Value.type "tuple") none (Data.seq #[]) #[]) ::
(nat_lit 74, Obj.mk (Value.type "tuple") none (Data.seq #[Value.str (Str.ofString "a") 291, Value.str (Str.ofString "b") 292]) #[]) ::
(nat_lit 75, Obj.mk (Value.type "tuple") none (Data.seq #[]) #[]) ::
(nat_lit 77, Obj.mk (Value.type "code") none
  (Data.fields
    #[Value.str (Str.ofString "rshift") 288, Value.str (Str.ofString "rshift") 289,
      Value.str (Str.ofString "/claim/cut.py") 290, Value.int 36 0, Value.int 2 0, Value.int 0 0, Value.int 0 0,
      Value.int 3 0, Value.ref 72, Value.bool true, Value.int 181 0, Value.ref 73, Value.none, Value.ref 74,
      Value.ref 75, Value.ref 76, Value.int 293 0, Value.int 36 0, Value.str (Str.ofString "/claim/cut.py") 294])
  #[]) ::
(nat_lit 78, Obj.mk (Value.type "function") none
  (Data.func
    (FuncData.mk (Str.ofString "rshift") (Str.ofString "rshift") p78 (FuncBody.stmts b78) s78 3 [] Value.none Value.none
      Value.none (Value.str (Str.ofString "cpy313.operator") 239) none (Value.ref 77) Value.none 0))
  #[]) ::
(nat_lit 79, Obj.mk (Value.type "tuple") none (Data.seq #[]) #[]) ::
(nat_lit 81, Obj.mk (Value.type "tuple") none (Data.seq #[Value.str (Str.ofString "a") 299, Value.str (Str.ofString "b") 300]) #[]) ::
(nat_lit 82, Obj.mk (Value.type "tuple") none (Data.seq #[]) #[]) ::
(nat_lit 84, Obj.mk (Value.type "code") none
  (Data.fields
    #[Value.str (Str.ofString "sub") 296, Value.str (Str.ofString "sub") 297,
      Value.str (Str.ofString "/claim/cut.py") 298, Value.int 38 0, Value.int 2 0, Value.int 0 0, Value.int 0 0,
      Value.int 3 0, Value.ref 79, Value.bool true, Value.int 181 0, Value.ref 80, Value.none, Value.ref 81,
      Value.ref 82, Value.ref 83, Value.int 301 0, Value.int 38 0, Value.str (Str.ofString "/claim/cut.py") 302])
  #[]) ::
(nat_lit 85, Obj.mk (Value.type "function") none
  (Data.func
    (FuncData.mk (Str.ofString "sub") (Str.ofString "sub") p85 (FuncBody.stmts b85) s85 3 [] Value.none Value.none
      Value.none (Value.str (Str.ofString "cpy313.operator") 239) none (Value.ref 84) Value.none 0))
  #[]) ::
(nat_lit 86, Obj.mk (Value.type "dict") none
  (Data.dict
    #[DictEntry.mk (PyData.keyHash P (Str.ofString "!")) (Value.str (Str.ofString "!") 406) (Value.int 54 402),
      DictEntry.mk (PyData.keyHash P (Str.ofString "!=")) (Value.str (Str.ofString "!=") 408) (Value.int 28 350),
      DictEntry.mk (PyData.keyHash P (Str.ofString "%")) (Value.str (Str.ofString "%") 410) (Value.int 24 342),
      DictEntry.mk (PyData.keyHash P (Str.ofString "%=")) (Value.str (Str.ofString "%=") 412) (Value.int 40 374),
      DictEntry.mk (PyData.keyHash P (Str.ofString "&")) (Value.str (Str.ofString "&") 414) (Value.int 19 332),
      DictEntry.mk (PyData.keyHash P (Str.ofString "&=")) (Value.str (Str.ofString "&=") 416) (Value.int 41 376),
      DictEntry.mk (PyData.keyHash P (Str.ofString "(")) (Value.str (Str.ofString "(") 418) (Value.int 7 308),
      DictEntry.mk (PyData.keyHash P (Str.ofString ")")) (Value.str (Str.ofString ")") 420) (Value.int 8 310),
      DictEntry.mk (PyData.keyHash P (Str.ofString "*")) (Value.str (Str.ofString "*") 422) (Value.int 16 326),
      DictEntry.mk (PyData.keyHash P (Str.ofString "**")) (Value.str (Str.ofString "**") 424) (Value.int 35 364),
      DictEntry.mk (PyData.keyHash P (Str.ofString "**=")) (Value.str (Str.ofString "**=") 426) (Value.int 46 386),
      DictEntry.mk (PyData.keyHash P (Str.ofString "*=")) (Value.str (Str.ofString "*=") 428) (Value.int 38 370),
      DictEntry.mk (PyData.keyHash P (Str.ofString "+")) (Value.str (Str.ofString "+") 430) (Value.int 14 322),
      DictEntry.mk (PyData.keyHash P (Str.ofString "+=")) (Value.str (Str.ofString "+=") 432) (Value.int 36 366),
      DictEntry.mk (PyData.keyHash P (Str.ofString ",")) (Value.str (Str.ofString ",") 434) (Value.int 12 318),
      DictEntry.mk (PyData.keyHash P (Str.ofString "-")) (Value.str (Str.ofString "-") 436) (Value.int 15 324),
      DictEntry.mk (PyData.keyHash P (Str.ofString "-=")) (Value.str (Str.ofString "-=") 438) (Value.int 37 368),
      DictEntry.mk (PyData.keyHash P (Str.ofString "->")) (Value.str (Str.ofString "->") 440) (Value.int 51 396),
      DictEntry.mk (PyData.keyHash P (Str.ofString ".")) (Value.str (Str.ofString ".") 442) (Value.int 23 340),
      DictEntry.mk (PyData.keyHash P (Str.ofString "...")) (Value.str (Str.ofString "...") 444) (Value.int 52 398),
      DictEntry.mk (PyData.keyHash P (Str.ofString "/")) (Value.str (Str.ofString "/") 446) (Value.int 17 328),
      DictEntry.mk (PyData.keyHash P (Str.ofString "//")) (Value.str (Str.ofString "//") 448) (Value.int 47 388),
      DictEntry.mk (PyData.keyHash P (Str.ofString "//=")) (Value.str (Str.ofString "//=") 450) (Value.int 48 390),
      DictEntry.mk (PyData.keyHash P (Str.ofString "/=")) (Value.str (Str.ofString "/=") 452) (Value.int 39 372),
      DictEntry.mk (PyData.keyHash P (Str.ofString ":")) (Value.str (Str.ofString ":") 454) (Value.int 11 316),
      DictEntry.mk (PyData.keyHash P (Str.ofString ":=")) (Value.str (Str.ofString ":=") 456) (Value.int 53 400),
      DictEntry.mk (PyData.keyHash P (Str.ofString ";")) (Value.str (Str.ofString ";") 458) (Value.int 13 320),
      DictEntry.mk (PyData.keyHash P (Str.ofString "<")) (Value.str (Str.ofString "<") 460) (Value.int 20 334),
      DictEntry.mk (PyData.keyHash P (Str.ofString "<<")) (Value.str (Str.ofString "<<") 462) (Value.int 33 360),
      DictEntry.mk (PyData.keyHash P (Str.ofString "<<=")) (Value.str (Str.ofString "<<=") 464) (Value.int 44 382),
      DictEntry.mk (PyData.keyHash P (Str.ofString "<=")) (Value.str (Str.ofString "<=") 466) (Value.int 29 352),
      DictEntry.mk (PyData.keyHash P (Str.ofString "=")) (Value.str (Str.ofString "=") 468) (Value.int 22 338),
      DictEntry.mk (PyData.keyHash P (Str.ofString "==")) (Value.str (Str.ofString "==") 470) (Value.int 27 348),
      DictEntry.mk (PyData.keyHash P (Str.ofString ">")) (Value.str (Str.ofString ">") 472) (Value.int 21 336),
      DictEntry.mk (PyData.keyHash P (Str.ofString ">=")) (Value.str (Str.ofString ">=") 474) (Value.int 30 354),
      DictEntry.mk (PyData.keyHash P (Str.ofString ">>")) (Value.str (Str.ofString ">>") 475) (Value.int 34 362),
      DictEntry.mk (PyData.keyHash P (Str.ofString ">>=")) (Value.str (Str.ofString ">>=") 476) (Value.int 45 384),
      DictEntry.mk (PyData.keyHash P (Str.ofString "@")) (Value.str (Str.ofString "@") 477) (Value.int 49 392),
      DictEntry.mk (PyData.keyHash P (Str.ofString "@=")) (Value.str (Str.ofString "@=") 478) (Value.int 50 394),
      DictEntry.mk (PyData.keyHash P (Str.ofString "[")) (Value.str (Str.ofString "[") 479) (Value.int 9 312),
      DictEntry.mk (PyData.keyHash P (Str.ofString "]")) (Value.str (Str.ofString "]") 480) (Value.int 10 314),
      DictEntry.mk (PyData.keyHash P (Str.ofString "^")) (Value.str (Str.ofString "^") 481) (Value.int 32 358),
      DictEntry.mk (PyData.keyHash P (Str.ofString "^=")) (Value.str (Str.ofString "^=") 482) (Value.int 43 380),
      DictEntry.mk (PyData.keyHash P (Str.ofString "{")) (Value.str (Str.ofString "{") 483) (Value.int 25 344),
      DictEntry.mk (PyData.keyHash P (Str.ofString "|")) (Value.str (Str.ofString "|") 484) (Value.int 18 330),
      DictEntry.mk (PyData.keyHash P (Str.ofString "|=")) (Value.str (Str.ofString "|=") 485) (Value.int 42 378),
      DictEntry.mk (PyData.keyHash P (Str.ofString "}")) (Value.str (Str.ofString "}") 486) (Value.int 26 346),
      DictEntry.mk (PyData.keyHash P (Str.ofString "~")) (Value.str (Str.ofString "~") 487) (Value.int 31 356)]
    48)
  #[]) ::
(nat_lit 89, Obj.mk (Value.type "tuple") none (Data.seq #[]) #[]) ::
(nat_lit 91, Obj.mk (Value.type "tuple") none (Data.seq #[Value.str (Str.ofString "x") 506]) #[]) ::
(nat_lit 92, Obj.mk (Value.type "tuple") none (Data.seq #[]) #[]) ::
(nat_lit 94, Obj.mk (Value.type "code") none
  (Data.fields
    #[Value.str (Str.ofString "ISTERMINAL") 503, Value.str (Str.ofString "ISTERMINAL") 504,
      Value.str (Str.ofString "/claim/cut.py") 505, Value.int 92 0, Value.int 1 0, Value.int 0 0, Value.int 0 0,
      Value.int 3 0, Value.ref 89, Value.bool true, Value.int 181 0, Value.ref 90, Value.none, Value.ref 91,
      Value.ref 92, Value.ref 93, Value.int 507 0, Value.int 92 0, Value.str (Str.ofString "/claim/cut.py") 508])
  #[]) ::
(nat_lit 95, Obj.mk (Value.type "function") none
  (Data.func
    (FuncData.mk (Str.ofString "ISTERMINAL") (Str.ofString "ISTERMINAL") p95 (FuncBody.stmts b95) s95 3 [] Value.none
      Value.none Value.none (Value.str (Str.ofString "cpy313.token") 304) none (Value.ref 94) Value.none 0))
  #[]) ::
(nat_lit 96, Obj.mk (Value.type "tuple") none (Data.seq #[]) #[]) ::
(nat_lit 98, Obj.mk (Value.type "tuple") none (Data.seq #[Value.str (Str.ofString "x") 513]) #[]) ::
(nat_lit 99, Obj.mk (Value.type "tuple") none (Data.seq #[]) #[]) ::
(nat_lit 101, Obj.mk (Value.type "code") none
  (Data.fields
    #[Value.str (Str.ofString "ISNONTERMINAL") 510, Value.str (Str.ofString "ISNONTERMINAL") 511,
      Value.str (Str.ofString "/claim/cut.py") 512, Value.int 94 0, Value.int 1 0, Value.int 0 0, Value.int 0 0,
      Value.int 3 0, Value.ref 96, Value.bool true, Value.int 181 0, Value.ref 97, Value.none, Value.ref 98,
      Value.ref 99, Value.ref 100, Value.int 514 0, Value.int 94 0, Value.str (Str.ofString "/claim/cut.py") 515])
  #[]) ::
(nat_lit 102, Obj.mk (Value.type "function") none
  (Data.func
    (FuncData.mk (Str.ofString "ISNONTERMINAL") (Str.ofString "ISNONTERMINAL") p102 (FuncBody.stmts b102) s102 3 []
      Value.none Value.none Value.none (Value.str (Str.ofString "cpy313.token") 304) none (Value.ref 101) Value.none 0))
  #[]) ::
(nat_lit 103, Obj.mk (Value.type "tuple") none (Data.seq #[]) #[]) ::
(nat_lit 105, Obj.mk (Value.type "tuple") none (Data.seq #[Value.str (Str.ofString "x") 520]) #[]) ::
(nat_lit 106, Obj.mk (Value.type "tuple") none (Data.seq #[]) #[]) ::
(nat_lit 108, Obj.mk (Value.type "code") none
  (Data.fields
    #[Value.str (Str.ofString "ISEOF") 517, Value.str (Str.ofString "ISEOF") 518,
      Value.str (Str.ofString "/claim/cut.py") 519, Value.int 96 0, Value.int 1 0, Value.int 0 0, Value.int 0 0,
      Value.int 3 0, Value.ref 103, Value.bool true, Value.int 181 0, Value.ref 104, Value.none, Value.ref 105,
      Value.ref 106, Value.ref 107, Value.int 521 0, Value.int 96 0, Value.str (Str.ofString "/claim/cut.py") 522])
  #[]) ::
(nat_lit 109, Obj.mk (Value.type "function") none
  (Data.func
    (FuncData.mk (Str.ofString "ISEOF") (Str.ofString "ISEOF") p109 (FuncBody.stmts b109) s109 3 [] Value.none
      Value.none Value.none (Value.str (Str.ofString "cpy313.token") 304) none (Value.ref 108) Value.none 0))
  #[]) ::
(nat_lit 110, Obj.mk (Value.type "tuple") none (Data.seq #[]) #[]) ::
(nat_lit 112, Obj.mk (Value.type "tuple") none (Data.seq #[Value.str (Str.ofString "ch_a") 535, Value.str (Str.ofString "ch_b") 536])
  #[]) ::
(nat_lit 113, Obj.mk (Value.type "tuple") none (Data.seq #[]) #[]) ::
(nat_lit 115, Obj.mk (Value.type "code") none
  (Data.fields
    #[Value.str (Str.ofString "_substitution_cost") 532, Value.str (Str.ofString "_substitution_cost") 533,
      Value.str (Str.ofString "/claim/cut.py") 534, Value.int 102 0, Value.int 2 0, Value.int 0 0, Value.int 0 0,
      Value.int 3 0, Value.ref 110, Value.bool true, Value.int 181 0, Value.ref 111, Value.none, Value.ref 112,
      Value.ref 113, Value.ref 114, Value.int 537 0, Value.int 102 0, Value.str (Str.ofString "/claim/cut.py") 538])
  #[]) ::
(nat_lit 116, Obj.mk (Value.type "function") none
  (Data.func
    (FuncData.mk (Str.ofString "_substitution_cost") (Str.ofString "_substitution_cost") p116 (FuncBody.stmts b116) s116
      3 [] Value.none Value.none Value.none (Value.str (Str.ofString "cpy313.traceback") 524) none (Value.ref 115)
      Value.none 0))
  #[]) ::
(nat_lit 117, Obj.mk (Value.type "tuple") none (Data.seq #[]) #[]) ::
(nat_lit 119, Obj.mk (Value.type "tuple") none
  (Data.seq
    #[Value.str (Str.ofString "a") 543, Value.str (Str.ofString "b") 544, Value.str (Str.ofString "max_cost") 545,
      Value.str (Str.ofString "pre") 546, Value.str (Str.ofString "post") 547, Value.str (Str.ofString "row") 548,
      Value.str (Str.ofString "result") 549, Value.str (Str.ofString "bindex") 550,
      Value.str (Str.ofString "bchar") 551, Value.str (Str.ofString "distance") 552,
      Value.str (Str.ofString "minimum") 553, Value.str (Str.ofString "index") 554,
      Value.str (Str.ofString "substitute") 555, Value.str (Str.ofString "insert_delete") 556])
  #[]) ::
(nat_lit 120, Obj.mk (Value.type "tuple") none (Data.seq #[]) #[]) ::
(nat_lit 122, Obj.mk (Value.type "code") none
  (Data.fields
    #[Value.str (Str.ofString "_levenshtein_distance") 540, Value.str (Str.ofString "_levenshtein_distance") 541,
      Value.str (Str.ofString "/claim/cut.py") 542, Value.int 108 0, Value.int 3 0, Value.int 0 0, Value.int 0 0,
      Value.int 3 0, Value.ref 117, Value.bool true, Value.int 181 0, Value.ref 118, Value.none, Value.ref 119,
      Value.ref 120, Value.ref 121, Value.int 557 0, Value.int 108 0, Value.str (Str.ofString "/claim/cut.py") 558])
  #[]) ::
(nat_lit 123, Obj.mk (Value.type "function") none
  (Data.func
    (FuncData.mk (Str.ofString "_levenshtein_distance") (Str.ofString "_levenshtein_distance") p123
      (FuncBody.stmts b123) s123 3 [] Value.none Value.none Value.none (Value.str (Str.ofString "cpy313.traceback") 524)
      none (Value.ref 122) Value.none 0))
  #[]) ::
(nat_lit 124, Obj.mk (Value.type "tuple") none (Data.seq #[]) #[]) ::
(nat_lit 126, Obj.mk (Value.type "tuple") none (Data.seq #[Value.str (Str.ofString "number") 565, Value.str (Str.ofString "row") 566])
  #[]) ::
(nat_lit 127, Obj.mk (Value.type "tuple") none (Data.seq #[]) #[]) ::
(nat_lit 129, Obj.mk (Value.type "code") none
  (Data.fields
    #[Value.str (Str.ofString "_law_statement") 562, Value.str (Str.ofString "_law_statement") 563,
      Value.str (Str.ofString "/claim/cut.py") 564, Value.int 147 0, Value.int 1 0, Value.int 0 0, Value.int 0 0,
      Value.int 3 0, Value.ref 124, Value.bool true, Value.int 181 0, Value.ref 125, Value.none, Value.ref 126,
      Value.ref 127, Value.ref 128, Value.int 567 0, Value.int 147 0, Value.str (Str.ofString "/claim/cut.py") 568])
  #[]) ::
(nat_lit 130, Obj.mk (Value.type "function") none
  (Data.func
    (FuncData.mk (Str.ofString "_law_statement") (Str.ofString "_law_statement") p130 (FuncBody.stmts b130) s130 3 []
      Value.none Value.none Value.none (Value.str (Str.ofString "law_ta0043_01") 560) none (Value.ref 129) Value.none
      0))
  #[]) ::
(nat_lit 131, Obj.mk (Value.type "tuple") none (Data.seq #[]) #[]) ::
(nat_lit 134, Obj.mk (Value.type "code") none
  (Data.fields
    #[Value.str (Str.ofString "_law_spelled") 570, Value.str (Str.ofString "_law_spelled") 571,
      Value.str (Str.ofString "/claim/cut.py") 572, Value.int 152 0, Value.int 1 0, Value.int 0 0, Value.int 0 0,
      Value.int 3 0, Value.ref 131, Value.bool true, Value.int 181 0, Value.ref 132, Value.none, Value.none, Value.none,
      Value.ref 133, Value.int 573 0, Value.int 152 0, Value.str (Str.ofString "/claim/cut.py") 574])
  #[]) ::
(nat_lit 135, Obj.mk (Value.type "function") none
  (Data.func
    (FuncData.mk (Str.ofString "_law_spelled") (Str.ofString "_law_spelled") p135 (FuncBody.stmts b135) s135 3 []
      Value.none Value.none Value.none (Value.str (Str.ofString "law_ta0043_01") 560) none (Value.ref 134) Value.none
      0))
  #[]) ::
(nat_lit 136, Obj.mk (Value.type "tuple") none (Data.seq #[]) #[]) ::
(nat_lit 138, Obj.mk (Value.type "tuple") none
  (Data.seq #[Value.str (Str.ofString "number") 579, Value.str (Str.ofString "octets") 580]) #[]) ::
(nat_lit 139, Obj.mk (Value.type "tuple") none (Data.seq #[]) #[]) ::
(nat_lit 141, Obj.mk (Value.type "code") none
  (Data.fields
    #[Value.str (Str.ofString "_law_octets") 576, Value.str (Str.ofString "_law_octets") 577,
      Value.str (Str.ofString "/claim/cut.py") 578, Value.int 155 0, Value.int 1 0, Value.int 0 0, Value.int 0 0,
      Value.int 3 0, Value.ref 136, Value.bool true, Value.int 181 0, Value.ref 137, Value.none, Value.ref 138,
      Value.ref 139, Value.ref 140, Value.int 581 0, Value.int 155 0, Value.str (Str.ofString "/claim/cut.py") 582])
  #[]) ::
(nat_lit 142, Obj.mk (Value.type "function") none
  (Data.func
    (FuncData.mk (Str.ofString "_law_octets") (Str.ofString "_law_octets") p142 (FuncBody.stmts b142) s142 3 []
      Value.none Value.none Value.none (Value.str (Str.ofString "law_ta0043_01") 560) none (Value.ref 141) Value.none
      0))
  #[]) ::
(nat_lit 143, Obj.mk (Value.type "tuple") none (Data.seq #[]) #[]) ::
(nat_lit 146, Obj.mk (Value.type "code") none
  (Data.fields
    #[Value.str (Str.ofString "_law_texts") 584, Value.str (Str.ofString "_law_texts") 585,
      Value.str (Str.ofString "/claim/cut.py") 586, Value.int 162 0, Value.int 1 0, Value.int 0 0, Value.int 0 0,
      Value.int 3 0, Value.ref 143, Value.bool true, Value.int 181 0, Value.ref 144, Value.none, Value.none, Value.none,
      Value.ref 145, Value.int 587 0, Value.int 162 0, Value.str (Str.ofString "/claim/cut.py") 588])
  #[]) ::
(nat_lit 147, Obj.mk (Value.type "function") none
  (Data.func
    (FuncData.mk (Str.ofString "_law_texts") (Str.ofString "_law_texts") p147 (FuncBody.stmts b147) s147 3 [] Value.none
      Value.none Value.none (Value.str (Str.ofString "law_ta0043_01") 560) none (Value.ref 146) Value.none 0))
  #[]) ::
(nat_lit 148, Obj.mk (Value.type "tuple") none (Data.seq #[]) #[]) ::
(nat_lit 150, Obj.mk (Value.type "tuple") none (Data.seq #[Value.str (Str.ofString "sign") 593, Value.str (Str.ofString "other") 594])
  #[]) ::
(nat_lit 151, Obj.mk (Value.type "tuple") none (Data.seq #[]) #[]) ::
(nat_lit 153, Obj.mk (Value.type "code") none
  (Data.fields
    #[Value.str (Str.ofString "_law_cost") 590, Value.str (Str.ofString "_law_cost") 591,
      Value.str (Str.ofString "/claim/cut.py") 592, Value.int 179 0, Value.int 2 0, Value.int 0 0, Value.int 0 0,
      Value.int 3 0, Value.ref 148, Value.bool true, Value.int 181 0, Value.ref 149, Value.none, Value.ref 150,
      Value.ref 151, Value.ref 152, Value.int 595 0, Value.int 179 0, Value.str (Str.ofString "/claim/cut.py") 596])
  #[]) ::
(nat_lit 154, Obj.mk (Value.type "function") none
  (Data.func
    (FuncData.mk (Str.ofString "_law_cost") (Str.ofString "_law_cost") p154 (FuncBody.stmts b154) s154 3 [] Value.none
      Value.none Value.none (Value.str (Str.ofString "law_ta0043_01") 560) none (Value.ref 153) Value.none 0))
  #[]) ::
(nat_lit 155, Obj.mk (Value.type "tuple") none (Data.seq #[]) #[]) ::
(nat_lit 158, Obj.mk (Value.type "code") none
  (Data.fields
    #[Value.str (Str.ofString "_law_distance") 598, Value.str (Str.ofString "_law_distance") 599,
      Value.str (Str.ofString "/claim/cut.py") 600, Value.int 183 0, Value.int 2 0, Value.int 0 0, Value.int 0 0,
      Value.int 3 0, Value.ref 155, Value.bool true, Value.int 181 0, Value.ref 156, Value.none, Value.none, Value.none,
      Value.ref 157, Value.int 601 0, Value.int 183 0, Value.str (Str.ofString "/claim/cut.py") 602])
  #[]) ::
(nat_lit 159, Obj.mk (Value.type "function") none
  (Data.func
    (FuncData.mk (Str.ofString "_law_distance") (Str.ofString "_law_distance") p159 (FuncBody.stmts b159) s159 3 []
      Value.none Value.none Value.none (Value.str (Str.ofString "law_ta0043_01") 560) none (Value.ref 158) Value.none
      0))
  #[]) ::
(nat_lit 160, Obj.mk (Value.type "tuple") none (Data.seq #[]) #[]) ::
(nat_lit 163, Obj.mk (Value.type "code") none
  (Data.fields
    #[Value.str (Str.ofString "_law_trees") 604, Value.str (Str.ofString "_law_trees") 605,
      Value.str (Str.ofString "/claim/cut.py") 606, Value.int 191 0, Value.int 1 0, Value.int 0 0, Value.int 0 0,
      Value.int 3 0, Value.ref 160, Value.bool true, Value.int 181 0, Value.ref 161, Value.none, Value.none, Value.none,
      Value.ref 162, Value.int 607 0, Value.int 191 0, Value.str (Str.ofString "/claim/cut.py") 608])
  #[]) ::
(nat_lit 164, Obj.mk (Value.type "function") none
  (Data.func
    (FuncData.mk (Str.ofString "_law_trees") (Str.ofString "_law_trees") p164 (FuncBody.stmts b164) s164 3 [] Value.none
      Value.none Value.none (Value.str (Str.ofString "law_ta0043_01") 560) none (Value.ref 163) Value.none 0))
  #[]) ::
(nat_lit 165, Obj.mk (Value.type "tuple") none (Data.seq #[]) #[]) ::
(nat_lit 168, Obj.mk (Value.type "code") none
  (Data.fields
    #[Value.str (Str.ofString "_law_number") 610, Value.str (Str.ofString "_law_number") 611,
      Value.str (Str.ofString "/claim/cut.py") 612, Value.int 202 0, Value.int 1 0, Value.int 0 0, Value.int 0 0,
      Value.int 3 0, Value.ref 165, Value.bool true, Value.int 181 0, Value.ref 166, Value.none, Value.none, Value.none,
      Value.ref 167, Value.int 613 0, Value.int 202 0, Value.str (Str.ofString "/claim/cut.py") 614])
  #[]) ::
(nat_lit 169, Obj.mk (Value.type "function") none
  (Data.func
    (FuncData.mk (Str.ofString "_law_number") (Str.ofString "_law_number") p169 (FuncBody.stmts b169) s169 3 []
      Value.none Value.none Value.none (Value.str (Str.ofString "law_ta0043_01") 560) none (Value.ref 168) Value.none
      0))
  #[]) ::
(nat_lit 170, Obj.mk (Value.type "tuple") none (Data.seq #[]) #[]) ::
(nat_lit 173, Obj.mk (Value.type "code") none
  (Data.fields
    #[Value.str (Str.ofString "_law_weights") 616, Value.str (Str.ofString "_law_weights") 617,
      Value.str (Str.ofString "/claim/cut.py") 618, Value.int 204 0, Value.int 1 0, Value.int 0 0, Value.int 0 0,
      Value.int 3 0, Value.ref 170, Value.bool true, Value.int 181 0, Value.ref 171, Value.none, Value.none, Value.none,
      Value.ref 172, Value.int 619 0, Value.int 204 0, Value.str (Str.ofString "/claim/cut.py") 620])
  #[]) ::
(nat_lit 174, Obj.mk (Value.type "function") none
  (Data.func
    (FuncData.mk (Str.ofString "_law_weights") (Str.ofString "_law_weights") p174 (FuncBody.stmts b174) s174 3 []
      Value.none Value.none Value.none (Value.str (Str.ofString "law_ta0043_01") 560) none (Value.ref 173) Value.none
      0))
  #[]) ::
(nat_lit 175, Obj.mk (Value.type "tuple") none (Data.seq #[]) #[]) ::
(nat_lit 177, Obj.mk (Value.type "tuple") none
  (Data.seq
    #[Value.str (Str.ofString "weights") 625, Value.str (Str.ofString "rows") 626,
      Value.str (Str.ofString "columns") 627, Value.str (Str.ofString "table") 628, Value.str (Str.ofString "a") 629,
      Value.str (Str.ofString "line") 630, Value.str (Str.ofString "b") 631, Value.str (Str.ofString "cell") 632,
      Value.str (Str.ofString "other") 633])
  #[]) ::
(nat_lit 178, Obj.mk (Value.type "tuple") none (Data.seq #[]) #[]) ::
(nat_lit 180, Obj.mk (Value.type "code") none
  (Data.fields
    #[Value.str (Str.ofString "_law_struck") 622, Value.str (Str.ofString "_law_struck") 623,
      Value.str (Str.ofString "/claim/cut.py") 624, Value.int 206 0, Value.int 3 0, Value.int 0 0, Value.int 0 0,
      Value.int 3 0, Value.ref 175, Value.bool true, Value.int 181 0, Value.ref 176, Value.none, Value.ref 177,
      Value.ref 178, Value.ref 179, Value.int 634 0, Value.int 206 0, Value.str (Str.ofString "/claim/cut.py") 635])
  #[]) ::
(nat_lit 181, Obj.mk (Value.type "function") none
  (Data.func
    (FuncData.mk (Str.ofString "_law_struck") (Str.ofString "_law_struck") p181 (FuncBody.stmts b181) s181 3 []
      Value.none Value.none Value.none (Value.str (Str.ofString "law_ta0043_01") 560) none (Value.ref 180) Value.none
      0))
  #[]) ::
(nat_lit 182, Obj.mk (Value.type "tuple") none (Data.seq #[]) #[]) ::
(nat_lit 185, Obj.mk (Value.type "code") none
  (Data.fields
    #[Value.str (Str.ofString "_law_determinant") 637, Value.str (Str.ofString "_law_determinant") 638,
      Value.str (Str.ofString "/claim/cut.py") 639, Value.int 225 0, Value.int 1 0, Value.int 0 0, Value.int 0 0,
      Value.int 3 0, Value.ref 182, Value.bool true, Value.int 181 0, Value.ref 183, Value.none, Value.none, Value.none,
      Value.ref 184, Value.int 640 0, Value.int 225 0, Value.str (Str.ofString "/claim/cut.py") 641])
  #[]) ::
(nat_lit 186, Obj.mk (Value.type "function") none
  (Data.func
    (FuncData.mk (Str.ofString "_law_determinant") (Str.ofString "_law_determinant") p186 (FuncBody.stmts b186) s186 3
      [] Value.none Value.none Value.none (Value.str (Str.ofString "law_ta0043_01") 560) none (Value.ref 185) Value.none
      0))
  #[]) ::
(nat_lit 187, Obj.mk (Value.type "tuple") none (Data.seq #[]) #[]) ::
(nat_lit 189, Obj.mk (Value.type "tuple") none
  (Data.seq
    #[Value.str (Str.ofString "number") 646, Value.str (Str.ofString "flags") 647, Value.str (Str.ofString "k") 648])
  #[]) ::
(nat_lit 190, Obj.mk (Value.type "tuple") none (Data.seq #[]) #[]) ::
(nat_lit 192, Obj.mk (Value.type "code") none
  (Data.fields
    #[Value.str (Str.ofString "_law_totals") 643, Value.str (Str.ofString "_law_totals") 644,
      Value.str (Str.ofString "/claim/cut.py") 645, Value.int 236 0, Value.int 1 0, Value.int 0 0, Value.int 0 0,
      Value.int 3 0, Value.ref 187, Value.bool true, Value.int 181 0, Value.ref 188, Value.none, Value.ref 189,
      Value.ref 190, Value.ref 191, Value.int 649 0, Value.int 236 0, Value.str (Str.ofString "/claim/cut.py") 650])
  #[]) ::
(nat_lit 193, Obj.mk (Value.type "function") none
  (Data.func
    (FuncData.mk (Str.ofString "_law_totals") (Str.ofString "_law_totals") p193 (FuncBody.stmts b193) s193 3 []
      Value.none Value.none Value.none (Value.str (Str.ofString "law_ta0043_01") 560) none (Value.ref 192) Value.none
      0))
  #[]) ::
(nat_lit 194, Obj.mk (Value.type "tuple") none (Data.seq #[]) #[]) ::
(nat_lit 197, Obj.mk (Value.type "code") none
  (Data.fields
    #[Value.str (Str.ofString "_law_words") 652, Value.str (Str.ofString "_law_words") 653,
      Value.str (Str.ofString "/claim/cut.py") 654, Value.int 242 0, Value.int 1 0, Value.int 0 0, Value.int 0 0,
      Value.int 3 0, Value.ref 194, Value.bool true, Value.int 181 0, Value.ref 195, Value.none, Value.none, Value.none,
      Value.ref 196, Value.int 655 0, Value.int 242 0, Value.str (Str.ofString "/claim/cut.py") 656])
  #[]) ::
(nat_lit 198, Obj.mk (Value.type "function") none
  (Data.func
    (FuncData.mk (Str.ofString "_law_words") (Str.ofString "_law_words") p198 (FuncBody.stmts b198) s198 3 [] Value.none
      Value.none Value.none (Value.str (Str.ofString "law_ta0043_01") 560) none (Value.ref 197) Value.none 0))
  #[]) ::
(nat_lit 199, Obj.mk (Value.type "tuple") none (Data.seq #[]) #[]) ::
(nat_lit 202, Obj.mk (Value.type "code") none
  (Data.fields
    #[Value.str (Str.ofString "law") 658, Value.str (Str.ofString "law") 659,
      Value.str (Str.ofString "/claim/cut.py") 660, Value.int 245 0, Value.int 1 0, Value.int 0 0, Value.int 0 0,
      Value.int 3 0, Value.ref 199, Value.bool true, Value.int 181 0, Value.ref 200, Value.none, Value.none, Value.none,
      Value.ref 201, Value.int 661 0, Value.int 245 0, Value.str (Str.ofString "/claim/cut.py") 662])
  #[]) ::
(nat_lit 203, Obj.mk (Value.type "function") none
  (Data.func
    (FuncData.mk (Str.ofString "law") (Str.ofString "law") p203 (FuncBody.stmts b203) s203 3 [] Value.none Value.none
      Value.none (Value.str (Str.ofString "law_ta0043_01") 560) none (Value.ref 202) Value.none 0))
  #[]) ::
[] : Frag))
  _ _ _ _ _ _ _ _ _ _ _ _ _ _ _ _ _ _ _ _ _ _ _ _ _ _ _ _ _ _ _ _ _ _ _ _ _ _ _ _ _ _ _ _ _ _ _ _ _ _ _ _ _ _ _ _ _ _ _ _ _ _ _ _ _ _ _ _ _ _ _ _ _ _ _ _ _ _ _ _ _ _ _ _ _ _ _ ⟨rfl, rfl, rfl, rfl, rfl, rfl, rfl, rfl, rfl, rfl, rfl, rfl, rfl, rfl, rfl, rfl, rfl, rfl, rfl, rfl, rfl, rfl, rfl, rfl, rfl, rfl, rfl, rfl, rfl⟩
noncomputable def view39 : Program := view pw [1, 2, 3, 5, 6, 7, 8, 9, 10, 11, 12, 14, 15, 16, 17, 18, 19, 20, 21, 22, 23, 24, 25, 26, 27, 28, 29, 30, 31, 32, 33, 34, 35, 36, 37, 38, 39, 40, 41, 42, 43, 44, 45, 46, 47, 48, 49, 50, 51, 52, 53, 54, 55, 56, 57, 58, 59, 60, 61, 62, 63, 64, 65, 66, 67, 69, 70, 71, 72, 73, 75, 76, 77, 78, 79, 80, 81, 82, 83, 84, 85, 86, 87, 88]
end
section

abbrev TopM (mean : ExcName → Option Value) (mg mb : Str → Option Value) (h : Heap) : Prop :=
  Top view39 (looseW view39 [Str.ofString "COMPILER_FLAG_NAMES", Str.ofString "EXACT_TOKEN_TYPES"]) mean mg mb h

theorem nat1 (p : Nat) : (0 + (p : Int)).toNat = p := by omega
theorem idx0 (p : Nat) : (0 : Int) ≤ 0 + (p : Int) := by omega
theorem idx1 {p n : Nat} (h : p < n) : (0 + (p : Int)).toNat < n := by omega
theorem idx2 {p n : Nat} (h : p < n) (hn : n ≤ 1000000) : 0 + (p : Int) < 2 ^ 63 := by omega
theorem idx3 {p n : Nat} (h : p < n) : 0 + (p : Int) < (n : Int) := by omega
theorem nat1s (p : Nat) : (0 + (p : Int) + 1).toNat = p + 1 := by omega
theorem idx4 {p n : Nat} (h : p < n) (hn : n ≤ 1000000) : 0 + (p : Int) + 1 < 2 ^ 63 := by omega
theorem idx5 (p : Nat) : (0 : Int) ≤ 0 + (p : Int) + 1 := by omega
theorem dep_lt {d a b R : Nat} (h : d + a < R) (hb : b ≤ a) : d + b < R := by omega
theorem dep_0 {d a R : Nat} (h : d + a < R) : d < R := by omega
theorem fill : (fun (_ : OpenLaw) => heap39) PySem.Challenge.rw_ta0043_01 = heap39 := by
  k_fill
  rfl

/-- the text's own objects and the top's facts stand in h -/
structure Amb (w : World) (mean : ExcName → Option Value) (mg mb : Str → Option Value) (h : Heap) : Prop where
  kx : (heap39 w.params).In h
  top : TopM mean mg mb h
theorem Amb.keeps {w : World} {mean : ExcName → Option Value} {mg mb : Str → Option Value} {h h' : Heap} (X : Amb w mean mg mb h) (k : h.StaysIn h') : Amb w mean mg mb h' :=
  ⟨X.kx.keeps k, X.top.keeps k⟩

section
variable {w : World} {mean : ExcName → Option Value} {mg mb : Str → Option Value} {A : Around} {s : Shared} {Q E : Value → Shared → Prop} {K : Frag} {f : Addr} {args : List Value}
  {name qual : Str} {params : Arguments} {body : List Stmt} {scope : Scope} {dV kV doc pm cdv ct oc : Value} {an od : Option Addr} {osl : Array (Option Value)}

theorem enterP (binds : List (Str × Value)) (X : (heap39 w.params).In s.heap) (T : TopM mean mg mb s.heap) (hdep : A.depth < recursionLimit)
    (ho : (heap39 w.params).lookup f = some ⟨oc, od, .func (fnOf name qual params body scope dV kV doc pm an cdv ct), osl⟩) (hcd : codeIn (heap39 w.params) cdv qual = true)
    (hbind : bindArgs (fnOf name qual params body scope dV kV doc pm an cdv ct) ⟨args, []⟩ = pure binds) (hloc : ∀ y ∈ binds, scope.names.lookup y.1 = some .local)
    (hco : scope.isCoroutine = false) (hgen : scope.isGenerator = false) (hk : scope.kind = .function)
    (hcell : ∀ x ∈ scope.names, x.2 ≠ .cell)
    (h : ∀ h₁, Fr s.heap s.heap.objs.size h₁ (fun y => binds.reverse.lookup y) → News s.heap s.heap.objs.size h₁ [] →
      wpAny (model pw w) (A.deeper (envOf qual scope s.heap.objs.size f cdv)) (execs body (envOf qual scope s.heap.objs.size f cdv))
        (fun fl s' => Q (match fl with | .ret v => v | _ => .none) s') (fun _ _ => False)
        { s with heap := h₁, toks := s.toks + binds.length }) :
    wpAny (model pw w) A (call (.ref f) args) Q E s := by
  refine wpAny_call ?_
  refine codeAny_call_def (fd := fnOf name qual params body scope dV kV doc pm an cdv ct) (body := body) (binds := binds) hdep (X _ _ ho) rfl T.nolimit (codeRec_of X hcd) rfl (BindsTo.of_eq hbind) hcell hloc (fun h₁ hns hk₁ => ?_) hco hgen hk
  exact wpAny_mono (h h₁ ⟨hns, hk₁, Nat.le_refl _⟩ News.nil) (fun _ _ x => x) fun _ _ x => x.elim

theorem enterC (binds : List (Str × Value)) (X : (heap39 w.params).In s.heap) (T : TopM mean mg mb s.heap) (hdep : A.depth < recursionLimit)
    (ho : (heap39 w.params).lookup f = some ⟨oc, od, .func (fnOf name qual params body scope dV kV doc pm an cdv ct), osl⟩) (hcd : codeIn (heap39 w.params) cdv qual = true)
    (hbind : bindArgs (fnOf name qual params body scope dV kV doc pm an cdv ct) ⟨args, []⟩ = pure binds)
    (hkind : (binds.all fun y => scope.names.lookup y.1 == some .local || scope.names.lookup y.1 == some .cell) = true)
    (hnd : ((cellsFrom 0 scope.names []).map (·.1)).Nodup)
    (hco : scope.isCoroutine = false) (hgen : scope.isGenerator = false) (hk : scope.kind = .function)
    (h : ∀ h₁ tk cells, Fr s.heap s.heap.objs.size h₁ (bindL (envOfC qual scope s.heap.objs.size f cdv).kindOf binds fun _ => none) → News s.heap s.heap.objs.size h₁ cells →
      CellsAre (bindC (envOfC qual scope s.heap.objs.size f cdv).kindOf binds fun _ => none) (cellsFrom (s.heap.objs.size + 1) scope.names []) cells →
      wpAny (model pw w) (A.deeper (envOfC qual scope s.heap.objs.size f cdv)) (execs body (envOfC qual scope s.heap.objs.size f cdv))
        (fun fl s' => Q (match fl with | .ret v => v | _ => .none) s') (fun _ _ => False)
        { s with heap := h₁, toks := tk }) :
    wpAny (model pw w) A (call (.ref f) args) Q E s := by
  refine wpAny_call ?_
  refine codeAny_call_cells (fd := fnOf name qual params body scope dV kV doc pm an cdv ct) (body := body) (binds := binds) hdep (X _ _ ho) rfl T.nolimit (codeRec_of X hcd) rfl hbind rfl (kindsX hkind _) (fun s₁ x => ?_) hco hgen hk
  obtain ⟨h₁, tk, rfl, _⟩ := x.done
  obtain ⟨cells, NC, Y⟩ := Cl.news (h₀ := s.heap) (Nat.le_refl _) fun n c hm => ⟨x.cell n c (lookup_of_mem_nodup (cellsFrom_names scope.names 0 (s.heap.objs.size + 1) [] [] rfl ▸ hnd) hm), x.above n c hm⟩
  exact wpAny_mono (h h₁ tk cells ⟨x.toInCall.ns, x.toInCall.keep, x.toInCall.fresh⟩ NC Y) (fun _ _ x => x) fun _ _ x => x.elim
end
end
section
local macro_rules | `(tactic| omega) => `(tactic| first | with_reducible assumption | decide | (with_reducible first | exact nat1 _ | exact idx0 _ | exact idx1 (by assumption) | exact idx3 (by assumption) | exact idx2 (by assumption) (by first | decide | assumption) | exact nat1s _ | exact idx5 _ | exact idx4 (by assumption) (by assumption) | exact Nat.le_of_lt (by assumption) | exact dep_lt (by assumption) (by decide) | exact dep_0 (by assumption)) | ((repeat ((with_reducible (rename (@Ne _ _ _) => hne9)); clear hne9)); omega +splitDisjunctions) | omega +splitDisjunctions)
section
section
variable {prog : Program} {w : World} {A : Around} {s : Shared} {env : Env} {h₀ : Heap}

theorem noted_false {E' : Value → Shared → Prop} {α : Type} {t : Sem α} {Q : α → Shared → Prop} (h : wpAny (model prog w) A t Q (fun _ _ => False) s) : wpAny (model prog w) A t Q E' s :=
  wpAny_mono h (fun _ _ x => x) fun _ _ x => x.elim

def Again (I : Nat → Shared → Prop) (n : Nat) (s₃ : Shared) : Prop := ∃ m, m < n ∧ I m s₃
/-- a while by an invariant over the whole state; nothing raises -/
theorem whileI {test : Expr} {body orelse : List Stmt} {pos : Pos} {Q : Flow → Shared → Prop} (I : Nat → Shared → Prop)
    (turn : ∀ n s₁, I n s₁ → wpAny (model prog w) A (isTrue test env (eval test env)) (fun b s₂ =>
      if b = true then wpAny (model prog w) A (execs body env) (fun f s₃ => match f with
          | .next | .cont => Again I n s₃
          | .brk => Q .next s₃
          | .ret v => Q (.ret v) s₃) (fun _ _ => False) s₂
      else wpAny (model prog w) A (execs orelse env) Q (fun _ _ => False) s₂) (fun _ _ => False) s₁)
    (n : Nat) (h : I n s) : wpAny (model prog w) A (exec (.While test body orelse pos) env) Q (fun _ _ => False) s := by
  refine wpAny_While (codeAny_whileLoop I (fun n s₁ hI => noted_false (wpAny_mono (turn n s₁ hI) (fun b s₂ hb => ?_) fun _ _ x => x)) n h)
  cases b
  · simp only [Bool.false_eq_true, if_false] at hb ⊢
    exact noted_false hb
  · simp only [if_true] at hb ⊢
    refine noted_false (wpAny_mono hb (fun f s₃ hf => ?_) fun _ _ x => x)
    cases f <;> exact hf

inductive TurnBack (h₀ : Heap) (L I : Addr) (oI : Obj) (fx : List (Addr × Obj)) (J : (Str → Option Value) → List (Addr × Obj) → Prop) (s₂ s₃ : Shared) : Prop
  | mk (h' tk' m₂ news₂ : _) (e : s₃ = { s₂ with heap := h', toks := tk' }) (F : Fr h₀ L h' m₂) (N : News h₀ L h' ((I, oI) :: news₂)) (off : ∀ p ∈ news₂, p.1 ≠ I) (hfx : ∀ p ∈ fx, p ∈ news₂) (hJ : J m₂ news₂)
/-- what a turn of a for must bring back -/
def TurnOk (h₀ : Heap) (L I : Addr) (oI : Obj) (fx : List (Addr × Obj)) (J : (Str → Option Value) → List (Addr × Obj) → Prop) (s₂ : Shared) (Q : Flow → Shared → Prop) (f : Flow) (s₃ : Shared) : Prop :=
  match f with
  | .ret v => Q (.ret v) s₃
  | .brk => Q .next s₃
  | _ => TurnBack h₀ L I oI fx J s₂ s₃

/-- an iterator stands ready at s₂: n items, each as P says; fx are the ledger's rows that it reads -/
inductive IterAt (prog : Program) (w : World) (A : Around) (h₀ : Heap) (L : Addr) (it : Value) (n : Nat) (P : Nat → Value → Prop) (fx : List (Addr × Obj)) (s₂ : Shared) : Prop
  | mk (I fp St : _) (h0 : it = .ref I) (h1 : Walks prog w A I fp [I] n P St) (h2 : (∀ i h, St i h → ∃ o, h.get? I = some o)) (h3 : St 0 s₂.heap) (h4 : h₀.get? I = none) (h5 : L ≠ I) (h6 : (∀ b ∈ fp, b = I ∨ (∃ o, h₀.get? b = some o) ∨ (∃ o, (b, o) ∈ fx)))

/-- what the loop of a for keeps -/
inductive LoopAt (h₀ : Heap) (L I : Addr) (fx : List (Addr × Obj)) (J : Nat → (Str → Option Value) → List (Addr × Obj) → Prop) (St : Nat → Heap → Prop) (n : Nat) (s₂ : Shared) (k : Nat) (s' : Shared) : Prop
  | mk (h' tk m' news' i : _) (e : s' = { s₂ with heap := h', toks := tk }) (hs : St i h') (F : Fr h₀ L h' m') (N : News h₀ L h' news') (off : ∀ p ∈ news', p.1 ≠ I) (hfx : ∀ p ∈ fx, p ∈ news') (hJ : J i m' news') (hi : i ≤ n) (hk : k = n + 1 - i)
/-- what a for asks for when its iterator stands -/
inductive ForSrc (prog : Program) (w : World) (A : Around) (env : Env) (h₀ : Heap) (x : Str) (body orelse : List Stmt) (Q : Flow → Shared → Prop) (J : Nat → (Str → Option Value) → List (Addr × Obj) → Prop) (it : Value) (s₂ : Shared) : Prop
  | mk (n : Nat) (P : Nat → Value → Prop) (fx : List (Addr × Obj)) (m : Str → Option Value) (news : List (Addr × Obj)) (hit : IterAt prog w A h₀ env.locals it n P fx s₂) (F : Fr h₀ env.locals s₂.heap m) (N : News h₀ env.locals s₂.heap news) (off : ∀ I, it = .ref I → ∀ p ∈ news, p.1 ≠ I) (hfx : ∀ p ∈ fx, p ∈ news) (hJ : J 0 m news)
    (turn : ∀ i v m₁ news₁ h₁ tk I oI, i < n → P i v → J i m₁ news₁ → Fr h₀ env.locals h₁ (fun y => if y = x then some v else m₁ y) → News h₀ env.locals h₁ ((I, oI) :: news₁) → (∀ p ∈ news₁, p.1 ≠ I) → (∀ p ∈ fx, p ∈ news₁) →
        wpAny (model prog w) A (execs body env) (TurnOk h₀ env.locals I oI fx (J (i + 1)) { s₂ with heap := h₁, toks := tk } Q) (fun _ _ => False) { s₂ with heap := h₁, toks := tk })
    (done : ∀ m₁ news₁ h₁ tk, J n m₁ news₁ → Fr h₀ env.locals h₁ m₁ → News h₀ env.locals h₁ news₁ → (∀ p ∈ fx, p ∈ news₁) → wpAny (model prog w) A (execs orelse env) Q (fun _ _ => False) { s₂ with heap := h₁, toks := tk })

theorem forJ {x : Str} {px pos : Pos} {iter : Expr} {body orelse : List Stmt} {Q : Flow → Shared → Prop} (h₀ : Heap) (hx : env.kindOf x = some .local)
    (hp : (env.scope.kind == .class || (env.scope.kind == .module && env.locals != env.globals)) = false)
    (h : wpAny (model prog w) A (eval iter env) (fun xv s₁ => wpAny (model prog w) A (pyIter xv) (fun it s₂ =>
      ∃ J, ForSrc prog w A env h₀ x body orelse Q J it s₂) (fun _ _ => False) s₁) (fun _ _ => False) s)
    (hs : ∀ x, foldedSetIterable iter env x = pure x := by intro _; rfl) :
    wpAny (model prog w) A (exec (.For (.Name x px) iter body orelse pos) env) Q (fun _ _ => False) s := by
  refine wpAny_For (wpAny_mono h (fun xv s₁ h₁ => wpAny_mono h₁ (fun it s₂ h₂ => ?_) fun _ _ e => e) fun _ _ e => e) hs
  obtain ⟨J, n, P, fx, m, news, ⟨I, fp, St, rfl, W, hIo, hst, hI₀, hLI, hfp⟩, F, N, hoff, hfx, hJ, turn, done⟩ := h₂
  have hoff := hoff I rfl
  have keep1 : ∀ {h h' : Heap} {m : Str → Option Value} {nw : List (Addr × Obj)}, Fr h₀ env.locals h m → News h₀ env.locals h nw → (∀ p ∈ nw, p.1 ≠ I) → (∀ b o, b ∉ [I] → h.get? b = some o → h'.get? b = some o) → Fr h₀ env.locals h' m ∧ News h₀ env.locals h' nw :=
    fun F N off k => ⟨⟨F.ns.at' fun o e => k _ o (by simpa using hLI) e, fun b o e => k b o (fun hm => by rw [List.mem_singleton.mp hm, hI₀] at e; cases e) (F.keep b o e), F.above⟩, fun p hp => ⟨k _ _ (by simpa using off p hp) (N p hp).1, (N p hp).2⟩⟩
  refine codeAny_forLoop (LoopAt h₀ env.locals I fx J St n s₂) ?_ (n + 1)
    ⟨s₂.heap, s₂.toks, m, news, 0, rfl, hst, F, N, hoff, hfx, hJ, Nat.zero_le _, rfl⟩
  rintro k s' ⟨h', tk, m', news', i, rfl, hst', F', N', hoff', hfx', hJ', hi, rfl⟩
  by_cases hlt : i < n
  · refine W.item i _ _ _ hlt hst' fun v h₁ tk₁ hP hst₁ hk₁ => ?_
    obtain ⟨F₁, N₁⟩ := keep1 F' N' hoff' hk₁
    refine wpAny_assign_Name (wpAny_storeName_local hx F₁.ns (fun h₂ hn₂ hs₂ => ?_) hp)
    have F₂ := F₁.set hn₂ hs₂
    obtain ⟨oI, heI⟩ := hIo _ _ hst₁
    have heI₂ : h₂.get? I = some oI := (hs₂.2 I (Ne.symm hLI)).trans heI
    have N₂ : News h₀ env.locals h₂ ((I, oI) :: news') := fun p hp => by
      rcases List.mem_cons.mp hp with rfl | hp
      · exact ⟨heI₂, Ne.symm hLI, hI₀⟩
      · exact (N₁.set hs₂) p hp
    have hst₂ : St (i + 1) h₂ := W.frame _ _ _ hst₁ fun b hb o e => by
      refine (hs₂.2 b ?_).trans e
      rcases hfp b hb with rfl | ⟨o', ho'⟩ | ⟨o', ho'⟩
      · exact Ne.symm hLI
      · exact Nat.ne_of_lt (Nat.lt_of_lt_of_le (Heap.lt_size ho') F.above)
      · exact (N₁ _ (hfx' _ ho')).2.1
    refine noted_false (wpAny_mono (turn i v m' news' h₂ _ I oI hlt hP hJ' F₂ N₂ hoff' hfx') (fun f s₃ hT => ?_) fun _ _ e => e)
    have fin : ∀ t, TurnBack h₀ env.locals I oI fx (J (i + 1)) { s₂ with heap := h₂, toks := t } s₃ → ∃ m, m < n + 1 - i ∧ LoopAt h₀ env.locals I fx J St n s₂ m s₃ := by
      rintro t ⟨h₃, tk₃, m₂, news₂, rfl, F₃, N₃, off₃, fx₃, J₃⟩
      refine ⟨n + 1 - (i + 1), by omega, h₃, tk₃, m₂, news₂, i + 1, rfl, ?_, F₃, fun p hp => N₃ p (List.mem_cons_of_mem _ hp), off₃, fx₃, J₃, hlt, rfl⟩
      refine W.frame _ _ _ hst₂ fun b hb o e => ?_
      rcases hfp b hb with rfl | ⟨o', ho'⟩ | ⟨o', ho'⟩
      · rw [heI₂] at e; cases e
        exact (N₃ _ List.mem_cons_self).1
      · have := F₂.keep b o' ho'; rw [e] at this; cases this
        exact F₃.keep b _ ho'
      · have := (N₂ _ (List.mem_cons_of_mem _ (hfx' _ ho'))).1; rw [e] at this; cases this
        exact (N₃ _ (List.mem_cons_of_mem _ (fx₃ _ ho'))).1
    cases f with
    | ret v => exact hT
    | brk => exact hT
    | next => exact fin _ hT
    | cont => exact fin _ hT
  · have hin : i = n := by omega
    subst hin
    refine W.done _ _ _ hst' fun h₁ tk₁ hk₁ => ?_
    obtain ⟨F₁, N₁⟩ := keep1 F' N' hoff' hk₁
    exact noted_false (wpAny_mono (done m' news' h₁ tk₁ hJ' F₁ N₁ hfx') (fun f s₃ h₃ => h₃) fun _ _ e => e)

theorem forN {x : Str} {px pos : Pos} {iter : Expr} {body orelse : List Stmt} {Q : Flow → Shared → Prop} (h₀ : Heap) (J : Nat → (Str → Option Value) → List (Addr × Obj) → Prop) (hx : env.kindOf x = some .local)
    (hp : (env.scope.kind == .class || (env.scope.kind == .module && env.locals != env.globals)) = false)
    (h : wpAny (model prog w) A (eval iter env) (fun xv s₁ => wpAny (model prog w) A (pyIter xv) (ForSrc prog w A env h₀ x body orelse Q J) (fun _ _ => False) s₁) (fun _ _ => False) s)
    (hs : ∀ x, foldedSetIterable iter env x = pure x := by intro _; rfl) :
    wpAny (model prog w) A (exec (.For (.Name x px) iter body orelse pos) env) Q (fun _ _ => False) s :=
  forJ h₀ hx hp (wpAny_mono h (fun _ _ h₁ => wpAny_mono h₁ (fun _ _ q => ⟨J, q⟩) fun _ _ e => e) fun _ _ e => e) hs

/-- the iterator of a list of the ledger -/
theorem iter_led {L l : Addr} {items : Array Value} {ep : Nat} {m : Str → Option Value} {news : List (Addr × Obj)} {Q : Value → Shared → Prop} {E : Value → Shared → Prop} (hh : A.handled = none) (hl : (l, listOf items ep) ∈ news) (F : Fr h₀ L s.heap m) (N : News h₀ L s.heap news)
    (h : ∀ it h', IterAt prog w A h₀ L it items.size (fun i v => items[i]? = some v) [(l, listOf items ep)] { s with heap := h' } → Fr h₀ L h' m → News h₀ L h' news → (∀ I, it = .ref I → ∀ p ∈ news, p.1 ≠ I) → Q it { s with heap := h' }) :
    wpAny (model prog w) A (pyIter (.ref l)) Q E s := by
  have hls : s.heap.IsList l items := ⟨_, (N _ hl).1, rfl, _, rfl⟩
  have hlt : l < s.heap.objs.size := Heap.lt_size (N _ hl).1
  refine wpAny_pyIter_list hls ?_
  have up : ∀ b o, s.heap.get? b = some o → (s.heap.push { cls := .type "list_iterator", data := .fields #[.ref l, .int 0 0] }).get? b = some o := fun b o e => Heap.get?_push_of_some _ e
  refine h _ _ ⟨s.heap.objs.size, [s.heap.objs.size, l], _, rfl, Walks.list hh s.heap.objs.size l (Nat.ne_of_lt hlt) items, fun i h st => let ⟨o, ho, _⟩ := st.1; ⟨o, ho⟩, ⟨⟨_, Heap.get?_push_size _ rfl, rfl, rfl⟩, hls.push _⟩, next_is_new F, Nat.ne_of_lt F.ns.lt, ?_⟩
    (F.push _) (fun p hp => ⟨up _ _ (N p hp).1, (N p hp).2⟩) (fun I e p hp => ?_)
  · intro b hb
    rcases List.mem_cons.mp hb with rfl | hb
    · exact .inl rfl
    · obtain rfl := List.mem_singleton.mp hb
      exact .inr (.inr ⟨_, List.mem_singleton.mpr rfl⟩)
  · cases e; exact Nat.ne_of_lt (Heap.lt_size (N p hp).1)

/-- the iterator of a range by ones -/
theorem iter_range {L r : Addr} {a b : Int} {t u v : Tok} {n : Nat} {m : Str → Option Value} {news : List (Addr × Obj)} {Q : Value → Shared → Prop} {E : Value → Shared → Prop} (hh : A.handled = none) (hr : IsRange s.heap r a b 1 t u v) (hsm : Builtin.Range.small a b 1 = true) (hn : Builtin.Range.rangeSize a b 1 = ((n : Nat) : Int))
    (F : Fr h₀ L s.heap m) (N : News h₀ L s.heap news)
    (h : ∀ it h', IterAt prog w A h₀ L it n (fun i v => ∃ t, v = .int (a + (i : Int)) t) [] { s with heap := h' } → Fr h₀ L h' m → News h₀ L h' news → (∀ I, it = .ref I → ∀ p ∈ news, p.1 ≠ I) → Q it { s with heap := h' }) :
    wpAny (model prog w) A (pyIter (.ref r)) Q E s := by
  refine wpAny_pyIter_range hr hsm ?_
  refine h _ _ ⟨s.heap.objs.size, [s.heap.objs.size], _, rfl, LCg.range_walks hh a n, fun i h st => ⟨_, st⟩, by show IsRangeIter _ _ _ _ _; rw [hn]; simpa using Heap.get?_push_size _ rfl, next_is_new F, Nat.ne_of_lt F.ns.lt, ?_⟩
    (F.push _) (fun p hp => ⟨Heap.get?_push_of_some _ (N p hp).1, (N p hp).2⟩) (fun I e p hp => ?_)
  · intro b hb
    exact .inl (List.mem_singleton.mp hb)
  · cases e; exact Nat.ne_of_lt (Heap.lt_size (N p hp).1)
/-- the iterator of a text -/
theorem iter_str {L : Addr} {x : Str} {t : Tok} {m : Str → Option Value} {news : List (Addr × Obj)} {Q : Value → Shared → Prop} {E : Value → Shared → Prop} (hh : A.handled = none) (F : Fr h₀ L s.heap m) (N : News h₀ L s.heap news)
    (h : ∀ it h', IterAt prog w A h₀ L it x.cps.size (SignAt x) [] { s with heap := h' } → Fr h₀ L h' m → News h₀ L h' news → (∀ I, it = .ref I → ∀ p ∈ news, p.1 ≠ I) → Q it { s with heap := h' }) :
    wpAny (model prog w) A (pyIter (.str x t)) Q E s := by
  have live : ∀ (k : String) i (h : Heap), h.IsStrIter s.heap.objs.size k x t i → ∃ o, h.get? s.heap.objs.size = some o := fun k i h st => let ⟨o, ho, _⟩ := st; ⟨o, ho⟩
  cases ha : x.cps.all (· < 128)
  · refine wpAny_pyIter_wide ha (h _ _ ⟨s.heap.objs.size, [s.heap.objs.size], _, rfl, Walks.strWide hh _ x t, live _, ⟨_, Heap.get?_push_size _ rfl, rfl, rfl⟩, next_is_new F, Nat.ne_of_lt F.ns.lt, fun b hb => .inl (List.mem_singleton.mp hb)⟩
      (F.push _) (fun p hp => ⟨Heap.get?_push_of_some _ (N p hp).1, (N p hp).2⟩) (fun I e p hp => ?_))
    cases e; exact Nat.ne_of_lt (Heap.lt_size (N p hp).1)
  · refine wpAny_pyIter_ascii ha (h _ _ ⟨s.heap.objs.size, [s.heap.objs.size], _, rfl, Walks.strAscii hh _ x t, live _, ⟨_, Heap.get?_push_size _ rfl, rfl, rfl⟩, next_is_new F, Nat.ne_of_lt F.ns.lt, fun b hb => .inl (List.mem_singleton.mp hb)⟩
      (F.push _) (fun p hp => ⟨Heap.get?_push_of_some _ (N p hp).1, (N p hp).2⟩) (fun I e p hp => ?_))
    cases e; exact Nat.ne_of_lt (Heap.lt_size (N p hp).1)
end

end
section
theorem entry_set_eq : entryFor table "set.__eq__" = some Builtin.«frozenset.__eq__» :=
  entryFor_alias (id' := "frozenset.__eq__") (by kernel_rfl) rfl (by decide +kernel) (by kernel_rfl)
theorem sub_set_frozenset : isSubtype (.type "set") (.type "frozenset") = pure false := by rw [isSubtype_type]; kernel_rfl
section
variable {prog : Program} {w : World} {A : Around} {E : Value → Shared → Prop} {s : Shared} {h₀ : Heap} {L a b : Addr} {news : List (Addr × Obj)} {oa ob : Obj} {S S' : Int → Bool} {n n' : Nat} {Q : Value → Shared → Prop}
theorem set_eq_ints (N : News h₀ L s.heap news) (ha : (a, oa) ∈ news) (hb : (b, ob) ∈ news) (hoa : oa.SetObjOf (intKind prog w) S n) (hob : ob.SetObjOf (intKind prog w) S' n') (hn : n < scanBound) (hn' : n' < scanBound) (sub : n = n' → ∀ k, S k = true → S' k = true) (hu : A.units < cLine)
    (h : Q (.bool (decide (n = n'))) s) : wpAny (model prog w) A (compareOp .Eq (.ref a) (.ref b)) Q E s := by
  have ga := (N _ ha).1
  have gb := (N _ hb).1
  have hS' : s.heap.SetOf (intKind prog w) b S' n' := hob.setOf gb hn'
  obtain ⟨xa, es, ep, t, hd, hel, hmem, hsz, hf⟩ := hoa
  obtain ⟨xb, es', ep', t', hd', hel', hmem', hsz', hf'⟩ := hob
  have Ta : s.TypeIs (.ref a) "set" := ⟨oa, ga, xa.1⟩
  have Tb : s.TypeIs (.ref b) "set" := ⟨ob, gb, xb.1⟩
  show wpAny _ _ (richCompare .Eq _ _) _ _ _
  refine wpAny_richCompare_same_room Ta Tb F.slot_set_eq (wpAny_call_entry F.slot_set_eq Ta entry_set_eq ?_ (F.args_set_eq_2 _ _)) hu
  refine wpAny_bind (m := Builtin.Frozenset.slot1 "__eq__" _) ?_
  unfold Builtin.Frozenset.slot1 slotArgs
  simp only [List.isEmpty_nil, Bool.not_true, Bool.false_eq_true, ↓reduceIte, bind_assoc, List.length_cons, List.length_nil, bne_self_eq_false]
  refine wpAny_bind (wpAny_pure ?_)
  refine wpAny_bind (wpAny_pure ?_)
  refine wpAny_pure ?_
  dsimp only
  refine wpAny_bind ?_
  show wpAny _ _ (isInstance (Value.ref b) (.type "set") >>= _) _ _ _
  refine wpAny_bind (wpAny_isInstance Tb sub_set_self ?_)
  refine wpAny_pure ?_
  rw [if_neg (by decide)]
  refine wpAny_bind (m := Builtin.Frozenset.addrOf _) (wpAny_pure ?_)
  refine wpAny_bind (m := Builtin.Frozenset.addrOf _) (wpAny_pure ?_)
  have size1 : ∀ {Q : Nat → Shared → Prop} {E : Value → Shared → Prop}, Q es.size s → wpAny (model prog w) A.in1 (Builtin.Frozenset.sizeOf a) Q E s := fun h => by
    unfold Builtin.Frozenset.sizeOf
    exact wpAny_bind (wpAny_setEntries_of ga hd hf (wpAny_pure h))
  have size2 : ∀ {Q : Nat → Shared → Prop} {E : Value → Shared → Prop}, Q es'.size s → wpAny (model prog w) A.in1 (Builtin.Frozenset.sizeOf b) Q E s := fun h => by
    unfold Builtin.Frozenset.sizeOf
    exact wpAny_bind (wpAny_setEntries_of gb hd' hf' (wpAny_pure h))
  refine wpAny_bind (size1 ?_)
  refine wpAny_bind (size2 ?_)
  rw [hsz, hsz']
  by_cases hnn : n = n'
  · have hb : (n != n') = false := by rw [hnn]; exact bne_self_eq_false ..
    rw [hb, if_neg Bool.false_ne_true]
    rw [decide_eq_true hnn] at h
    refine wpAny_bind ?_
    refine wpAny_bind ?_
    show wpAny _ _ (isInstance (Value.ref a) (.type "frozenset") >>= _) _ _ _
    refine wpAny_bind (wpAny_isInstance Ta sub_set_frozenset ?_)
    refine wpAny_pure ?_
    rw [if_neg Bool.false_ne_true]
    show wpAny _ _ (Builtin.Frozenset.subsetOf _ a b) _ _ _
    unfold Builtin.Frozenset.subsetOf
    refine wpAny_bind (size1 (wpAny_bind (size2 ?_)))
    rw [if_neg (by omega)]
    refine wpAny_bind (wpAny_setEpoch_of ga hd hf ?_)
    have walk : ∀ {Q : List (Int × Value) → Shared → Prop} {E : Value → Shared → Prop}, Q es.toList s → wpAny (model prog w) A.in1 (Builtin.Frozenset.walkUnseen a b) Q E s := fun h => by
      unfold Builtin.Frozenset.walkUnseen
      refine wpAny_bind (wpAny_setEntries_of ga hd hf ?_)
      refine wpAny_bind (wpAny_setEntries_of gb hd' hf' ?_)
      have quiet : ∀ e ∈ es.toList ++ es'.toList, Builtin.Frozenset.quietEq e.2 = pure true := fun e hx => by
        have hc : carriedByValue e.2 = true := by
          rcases List.mem_append.mp hx with hx | hx
          · obtain ⟨⟨k, hk, _⟩, _⟩ := hel _ hx
            exact (intKind prog w).byValue k _ hk
          · obtain ⟨⟨k, hk, _⟩, _⟩ := hel' _ hx
            exact (intKind prog w).byValue k _ hk
        obtain ⟨hh, x⟩ := e
        cases x <;> first | rfl | exact absurd hc Bool.false_ne_true
      refine wpAny_bind ?_
      refine wpAny_forIn_list _ (fun rest bb s' => bb = (none, ()) ∧ s' = s ∧ ∀ e ∈ rest, e ∈ es.toList ++ es'.toList) _ ?_ ?_ (es.toList ++ es'.toList) _ ⟨rfl, rfl, fun _ h => h⟩
      · rintro ⟨hv, x⟩ rest bb s' ⟨rfl, rfl, hin⟩
        dsimp only
        refine wpAny_bind (wpAny_of_eq (quiet _ (hin _ List.mem_cons_self)) ?_)
        exact wpAny_pure ⟨rfl, rfl, fun e he => hin e (List.mem_cons_of_mem _ he)⟩
      · rintro bb s' ⟨rfl, rfl, _⟩
        exact wpAny_pure h
    refine wpAny_bind (walk ?_)
    refine wpAny_bind ?_
    refine wpAny_forIn_list _ (fun rest bb s' => bb = (none, ()) ∧ s' = s ∧ ∀ e ∈ rest, e ∈ es.toList) _ ?_ ?_ es.toList _ ⟨rfl, rfl, fun _ h => h⟩
    · rintro ⟨hv, x⟩ rest bb s' ⟨rfl, rfl, hin⟩
      obtain ⟨⟨k, hk, hkh⟩, hsc⟩ := hel _ (hin _ List.mem_cons_self)
      have hSk : S k = true := (hmem k).mpr ⟨_, hin _ List.mem_cons_self, hk⟩
      have hSk' := sub hnn k hSk
      dsimp only
      refine wpAny_bind (wpAny_holding ?_)
      have hkh' : hv = (intKind prog w).hash k := hkh
      rw [hkh']
      refine wpAny_setFind_of hk hsc hS' fun r hr => ?_
      rw [hSk'] at hr
      have hrn : r.isNone = false := by cases r <;> simp_all
      rw [if_neg (by rw [hrn]; exact Bool.false_ne_true)]
      refine wpAny_bind (m := Builtin.Frozenset.unchanged _ a ep) ?_
      unfold Builtin.Frozenset.unchanged
      refine wpAny_bind (wpAny_setEpoch_of ga hd hf ?_)
      rw [if_neg (by simp)]
      exact wpAny_pure (wpAny_pure ⟨rfl, rfl, fun e he => hin e (List.mem_cons_of_mem _ he)⟩)
    · rintro bb s' ⟨rfl, rfl, _⟩
      exact wpAny_pure (wpAny_pure ⟨_, rfl, (fun e => nomatch e), h⟩)
  · have hb : (n != n') = true := by simpa using hnn
    rw [hb, if_pos rfl]
    refine wpAny_bind (wpAny_pure ?_)
    rw [decide_eq_false hnn] at h
    exact wpAny_pure ⟨_, rfl, (fun e => nomatch e), h⟩
end
noncomputable def card : List Int → Nat
  | [] => 0
  | x :: l => if l.contains x then card l else card l + 1
theorem card_le : ∀ l : List Int, card l ≤ l.length
  | [] => Nat.le_refl _
  | x :: l => by
    have := card_le l
    unfold card
    split <;> (rw [List.length_cons]; omega)
/-- a set of whole numbers that were put in one by one, the last first -/
structure SetL (prog : Program) (w : World) (o : Obj) (xs : List Int) : Prop where
  is : o.SetObjOf (intKind prog w) (fun x => xs.contains x) (card xs)
section
variable {prog : Program} {w : World} {A : Around} {E : Value → Shared → Prop} {s : Shared} {h₀ : Heap} {L sa a b : Addr} {m : Str → Option Value} {news : List (Addr × Obj)} {g : Obj → List (Addr × Obj)} {so oa ob : Obj} {xs ys : List Int} {k : Int} {t : Tok}
theorem setL_nil (h : Obj.SetObjOf (intKind prog w) so (fun _ => false) 0) : SetL prog w so [] := ⟨h⟩
theorem setL_unled {Q : Unit → Shared → Prop} (F : Fr h₀ L s.heap m) (N : News h₀ L s.heap news) (U : UpdF sa so news g) (hso : SetL prog w so xs) (hb : xs.length ≤ 100)
    (h : ∀ h' so', Fr h₀ L h' m → News h₀ L h' (g so') → SetL prog w so' xs → Q () { s with heap := h' }) : wpAny (model prog w) A (setUnled sa) Q E s := by
  have hc := card_le xs
  exact kds_unled (knd := PySem.intKind prog w) F N U hso.is (by unfold scanBound; omega) fun h' so' F' N' hs => h h' so' F' N' ⟨hs⟩
theorem setL_add {Q : Bool → Shared → Prop} (F : Fr h₀ L s.heap m) (N : News h₀ L s.heap news) (U : UpdF sa so news g) (hso : SetL prog w so xs) (hb : xs.length ≤ 100)
    (h : ∀ h' so' b, Fr h₀ L h' m → News h₀ L h' (g so') → SetL prog w so' (k :: xs) → Q b { s with heap := h', toks := s.toks + 1 }) :
    wpAny (model prog w) A (setAdd sa (.int k t)) Q E s := by
  have hc := card_le xs
  refine kds_add (knd := PySem.intKind prog w) F N U hso.is (by unfold scanBound; omega) (intKind_is _ _ _ _) rfl fun h' so' F' N' hs => h h' so' _ F' N' ⟨?_⟩
  have e1 : (fun x => (k :: xs).contains x) = fun k' => xs.contains k' || decide (k' = k) := by
    funext x
    rw [List.contains_cons, Bool.or_comm]
    congr 1
  have e2 : card (k :: xs) = if xs.contains k then card xs else card xs + 1 := rfl
  rw [e1, e2]
  exact hs
theorem set_eq_L {Q : Value → Shared → Prop} (N : News h₀ L s.heap news) (ha : (a, oa) ∈ news) (hb : (b, ob) ∈ news) (hoa : SetL prog w oa xs) (hob : SetL prog w ob ys) (hx : xs.length ≤ 100) (hy : ys.length ≤ 100) (sub : ∀ x ∈ xs, x ∈ ys) (hu : A.units < cLine)
    (h : Q (.bool (decide (card xs = card ys))) s) : wpAny (model prog w) A (compareOp .Eq (.ref a) (.ref b)) Q E s := by
  have h1 := card_le xs
  have h2 := card_le ys
  exact set_eq_ints N ha hb hoa.is hob.is (by unfold scanBound; omega) (by unfold scanBound; omega) (fun _ k hk => by simpa using sub k (by simpa using hk)) hu h
end

end
section
section
variable {h₀ : Heap} {L : Addr} {h : Heap} {m : Str → Option Value} {x x1 x2 x3 x4 x5 x6 x7 x8 : Str} {v v1 v2 v3 v4 v5 v6 v7 v8 : Value}
theorem pe1 (h1 : m x1 = some v1) : (fun y => if y = x1 then some v1 else m y) = m := by
  funext y
  by_cases e : y = x1
  · rw [if_pos e, e]; exact h1.symm
  · exact if_neg e
theorem pe2 (h1 : m x1 = some v1) (h2 : m x2 = some v2) : (fun y => if y = x1 then some v1 else if y = x2 then some v2 else m y) = m :=
  (congrArg (fun (z : Str → Option Value) (y : Str) => if y = x1 then some v1 else z y) (pe1 h2)).trans (pe1 h1)
theorem pe3 (h1 : m x1 = some v1) (h2 : m x2 = some v2) (h3 : m x3 = some v3) : (fun y => if y = x1 then some v1 else if y = x2 then some v2 else if y = x3 then some v3 else m y) = m :=
  (congrArg (fun (z : Str → Option Value) (y : Str) => if y = x1 then some v1 else z y) (pe2 h2 h3)).trans (pe1 h1)
theorem pe4 (h1 : m x1 = some v1) (h2 : m x2 = some v2) (h3 : m x3 = some v3) (h4 : m x4 = some v4) : (fun y => if y = x1 then some v1 else if y = x2 then some v2 else if y = x3 then some v3 else if y = x4 then some v4 else m y) = m :=
  (congrArg (fun (z : Str → Option Value) (y : Str) => if y = x1 then some v1 else z y) (pe3 h2 h3 h4)).trans (pe1 h1)
theorem pe5 (h1 : m x1 = some v1) (h2 : m x2 = some v2) (h3 : m x3 = some v3) (h4 : m x4 = some v4) (h5 : m x5 = some v5) : (fun y => if y = x1 then some v1 else if y = x2 then some v2 else if y = x3 then some v3 else if y = x4 then some v4 else if y = x5 then some v5 else m y) = m :=
  (congrArg (fun (z : Str → Option Value) (y : Str) => if y = x1 then some v1 else z y) (pe4 h2 h3 h4 h5)).trans (pe1 h1)
theorem pe6 (h1 : m x1 = some v1) (h2 : m x2 = some v2) (h3 : m x3 = some v3) (h4 : m x4 = some v4) (h5 : m x5 = some v5) (h6 : m x6 = some v6) : (fun y => if y = x1 then some v1 else if y = x2 then some v2 else if y = x3 then some v3 else if y = x4 then some v4 else if y = x5 then some v5 else if y = x6 then some v6 else m y) = m :=
  (congrArg (fun (z : Str → Option Value) (y : Str) => if y = x1 then some v1 else z y) (pe5 h2 h3 h4 h5 h6)).trans (pe1 h1)
theorem pe7 (h1 : m x1 = some v1) (h2 : m x2 = some v2) (h3 : m x3 = some v3) (h4 : m x4 = some v4) (h5 : m x5 = some v5) (h6 : m x6 = some v6) (h7 : m x7 = some v7) : (fun y => if y = x1 then some v1 else if y = x2 then some v2 else if y = x3 then some v3 else if y = x4 then some v4 else if y = x5 then some v5 else if y = x6 then some v6 else if y = x7 then some v7 else m y) = m :=
  (congrArg (fun (z : Str → Option Value) (y : Str) => if y = x1 then some v1 else z y) (pe6 h2 h3 h4 h5 h6 h7)).trans (pe1 h1)
theorem pe8 (h1 : m x1 = some v1) (h2 : m x2 = some v2) (h3 : m x3 = some v3) (h4 : m x4 = some v4) (h5 : m x5 = some v5) (h6 : m x6 = some v6) (h7 : m x7 = some v7) (h8 : m x8 = some v8) : (fun y => if y = x1 then some v1 else if y = x2 then some v2 else if y = x3 then some v3 else if y = x4 then some v4 else if y = x5 then some v5 else if y = x6 then some v6 else if y = x7 then some v7 else if y = x8 then some v8 else m y) = m :=
  (congrArg (fun (z : Str → Option Value) (y : Str) => if y = x1 then some v1 else z y) (pe7 h2 h3 h4 h5 h6 h7 h8)).trans (pe1 h1)
theorem fr2 (F : Fr h₀ L h m) (h1 : m x1 = some v1) (h2 : m x2 = some v2) : Fr h₀ L h (fun y => if y = x1 then some v1 else if y = x2 then some v2 else m y) :=
  (pe2 h1 h2).symm ▸ F
theorem fr3 (F : Fr h₀ L h m) (h1 : m x1 = some v1) (h2 : m x2 = some v2) (h3 : m x3 = some v3) : Fr h₀ L h (fun y => if y = x1 then some v1 else if y = x2 then some v2 else if y = x3 then some v3 else m y) :=
  (pe3 h1 h2 h3).symm ▸ F
theorem fr4 (F : Fr h₀ L h m) (h1 : m x1 = some v1) (h2 : m x2 = some v2) (h3 : m x3 = some v3) (h4 : m x4 = some v4) : Fr h₀ L h (fun y => if y = x1 then some v1 else if y = x2 then some v2 else if y = x3 then some v3 else if y = x4 then some v4 else m y) :=
  (pe4 h1 h2 h3 h4).symm ▸ F
theorem fr5 (F : Fr h₀ L h m) (h1 : m x1 = some v1) (h2 : m x2 = some v2) (h3 : m x3 = some v3) (h4 : m x4 = some v4) (h5 : m x5 = some v5) : Fr h₀ L h (fun y => if y = x1 then some v1 else if y = x2 then some v2 else if y = x3 then some v3 else if y = x4 then some v4 else if y = x5 then some v5 else m y) :=
  (pe5 h1 h2 h3 h4 h5).symm ▸ F
theorem fr6 (F : Fr h₀ L h m) (h1 : m x1 = some v1) (h2 : m x2 = some v2) (h3 : m x3 = some v3) (h4 : m x4 = some v4) (h5 : m x5 = some v5) (h6 : m x6 = some v6) : Fr h₀ L h (fun y => if y = x1 then some v1 else if y = x2 then some v2 else if y = x3 then some v3 else if y = x4 then some v4 else if y = x5 then some v5 else if y = x6 then some v6 else m y) :=
  (pe6 h1 h2 h3 h4 h5 h6).symm ▸ F
theorem fr7 (F : Fr h₀ L h m) (h1 : m x1 = some v1) (h2 : m x2 = some v2) (h3 : m x3 = some v3) (h4 : m x4 = some v4) (h5 : m x5 = some v5) (h6 : m x6 = some v6) (h7 : m x7 = some v7) : Fr h₀ L h (fun y => if y = x1 then some v1 else if y = x2 then some v2 else if y = x3 then some v3 else if y = x4 then some v4 else if y = x5 then some v5 else if y = x6 then some v6 else if y = x7 then some v7 else m y) :=
  (pe7 h1 h2 h3 h4 h5 h6 h7).symm ▸ F
theorem fs_of {m' : Str → Option Value} (F : Fr h₀ L h (fun y => if y = x then some v else m y)) (e : m' = m) : Fr h₀ L h (fun y => if y = x then some v else m' y) := e ▸ F
theorem fs1 (F : Fr h₀ L h (fun y => if y = x then some v else m y)) (h1 : m x1 = some v1) : Fr h₀ L h (fun y => if y = x then some v else if y = x1 then some v1 else m y) :=
  fs_of F (pe1 h1)
theorem fs2 (F : Fr h₀ L h (fun y => if y = x then some v else m y)) (h1 : m x1 = some v1) (h2 : m x2 = some v2) : Fr h₀ L h (fun y => if y = x then some v else if y = x1 then some v1 else if y = x2 then some v2 else m y) :=
  fs_of F (pe2 h1 h2)
theorem fs3 (F : Fr h₀ L h (fun y => if y = x then some v else m y)) (h1 : m x1 = some v1) (h2 : m x2 = some v2) (h3 : m x3 = some v3) : Fr h₀ L h (fun y => if y = x then some v else if y = x1 then some v1 else if y = x2 then some v2 else if y = x3 then some v3 else m y) :=
  fs_of F (pe3 h1 h2 h3)
theorem fs4 (F : Fr h₀ L h (fun y => if y = x then some v else m y)) (h1 : m x1 = some v1) (h2 : m x2 = some v2) (h3 : m x3 = some v3) (h4 : m x4 = some v4) : Fr h₀ L h (fun y => if y = x then some v else if y = x1 then some v1 else if y = x2 then some v2 else if y = x3 then some v3 else if y = x4 then some v4 else m y) :=
  fs_of F (pe4 h1 h2 h3 h4)
theorem fs5 (F : Fr h₀ L h (fun y => if y = x then some v else m y)) (h1 : m x1 = some v1) (h2 : m x2 = some v2) (h3 : m x3 = some v3) (h4 : m x4 = some v4) (h5 : m x5 = some v5) : Fr h₀ L h (fun y => if y = x then some v else if y = x1 then some v1 else if y = x2 then some v2 else if y = x3 then some v3 else if y = x4 then some v4 else if y = x5 then some v5 else m y) :=
  fs_of F (pe5 h1 h2 h3 h4 h5)
theorem fs6 (F : Fr h₀ L h (fun y => if y = x then some v else m y)) (h1 : m x1 = some v1) (h2 : m x2 = some v2) (h3 : m x3 = some v3) (h4 : m x4 = some v4) (h5 : m x5 = some v5) (h6 : m x6 = some v6) : Fr h₀ L h (fun y => if y = x then some v else if y = x1 then some v1 else if y = x2 then some v2 else if y = x3 then some v3 else if y = x4 then some v4 else if y = x5 then some v5 else if y = x6 then some v6 else m y) :=
  fs_of F (pe6 h1 h2 h3 h4 h5 h6)
theorem fs7 (F : Fr h₀ L h (fun y => if y = x then some v else m y)) (h1 : m x1 = some v1) (h2 : m x2 = some v2) (h3 : m x3 = some v3) (h4 : m x4 = some v4) (h5 : m x5 = some v5) (h6 : m x6 = some v6) (h7 : m x7 = some v7) : Fr h₀ L h (fun y => if y = x then some v else if y = x1 then some v1 else if y = x2 then some v2 else if y = x3 then some v3 else if y = x4 then some v4 else if y = x5 then some v5 else if y = x6 then some v6 else if y = x7 then some v7 else m y) :=
  fs_of F (pe7 h1 h2 h3 h4 h5 h6 h7)
theorem fs8 (F : Fr h₀ L h (fun y => if y = x then some v else m y)) (h1 : m x1 = some v1) (h2 : m x2 = some v2) (h3 : m x3 = some v3) (h4 : m x4 = some v4) (h5 : m x5 = some v5) (h6 : m x6 = some v6) (h7 : m x7 = some v7) (h8 : m x8 = some v8) : Fr h₀ L h (fun y => if y = x then some v else if y = x1 then some v1 else if y = x2 then some v2 else if y = x3 then some v3 else if y = x4 then some v4 else if y = x5 then some v5 else if y = x6 then some v6 else if y = x7 then some v7 else if y = x8 then some v8 else m y) :=
  fs_of F (pe8 h1 h2 h3 h4 h5 h6 h7 h8)
end

end
section
section
variable {prog : Program} {w : World} {A : Around} {E : Value → Shared → Prop} {s : Shared} {h₀ : Heap} {L l : Addr} {m : Str → Option Value} {news : List (Addr × Obj)} {ys : List Value} {ns : List Int} {ep : Nat} {k : Int} {u : Tok} {value slice : PySem.Expr} {ops : List Value} {Q : Value → Shared → Prop}
theorem ints_getD (hi : IntsAre ys ns) {i : Nat} (h : i < ns.length) : ∃ t, ys[i]? = some (.int (ns.getD i 0) t) := by
  obtain ⟨t, ht⟩ := hi.get i ns[i] (by simp [h])
  exact ⟨t, by rw [ht]; simp [List.getD, h]⟩
theorem item_base (F : Fr h₀ L s.heap m) (hm : h₀.IsList l (List.toArray ys)) (hi : IntsAre ys ns) (h0 : 0 ≤ k) (h1 : k < (ns.length : Int)) (h2 : k < 2 ^ 63) (h : ∀ t, Q (.int (ns.getD k.toNat 0) t) s)
    (hs : subscripted slice false (.ref l) (.int k u) = operate ops (getItem (.ref l) (.int k u))) : wpAny (model prog w) A (subscriptTail value slice (.ref l) (.int k u)) Q E s := by
  obtain ⟨t, ht⟩ := ints_getD hi (i := k.toNat) (by omega)
  have hl : s.heap.IsList l (List.toArray ys) := hm.at fun o e => F.keep l o e
  exact tail_any hl.typeIs slot_list_getitem.lookup (wpAny_getItem_list hl h0 h2 (by simpa using ht) (h t)) hs
end

end
section
/-- a text of one sign; of many -/
noncomputable def ch (c : Nat) : Str := ⟨#[c]⟩
noncomputable def tx (l : List Nat) : Str := ⟨l.toArray⟩
theorem ch_len (c : Nat) : (ch c).length = 1 := rfl
theorem tx_len (l : List Nat) : (tx l).length = l.length := rfl
theorem ch_eq (c : Nat) : ch c = tx [c] := rfl
noncomputable def alpha : List Nat := [97, 65, 98, 66, 40, 41, 91, 93, 58, 44, 59, 43, 45, 42, 47, 124, 38, 60, 62, 61, 46, 37, 123, 125, 33, 126, 94, 64]
noncomputable def low (c : Nat) : Nat := if 65 ≤ c ∧ c ≤ 90 then c + 32 else c
noncomputable def cst (c d : Nat) : Nat := if c = d then 0 else if low c = low d then 1 else 2
theorem ch_beq (c d : Nat) : (ch c == ch d) = decide (c = d) := by
  by_cases h : c = d
  · subst h; simp
  · have : ch c ≠ ch d := fun e => h (by simpa [ch] using e)
    simp [h, this]
theorem lower_ch : ∀ c ∈ alpha, Txt.lower (ch c) = ch (low c) := by decide +kernel
theorem pair_in : ∀ c ∈ alpha, ∀ d ∈ alpha, ([Str.ofString "aA", Str.ofString "Aa", Str.ofString "bB", Str.ofString "Bb"].any fun x => x == ch c ++ ch d) = decide (c ≠ d ∧ low c = low d) := by decide +kernel
theorem cst_symm (c d : Nat) : cst c d = cst d c := by
  unfold cst
  by_cases h : c = d
  · subst h; rfl
  · rw [if_neg h, if_neg (Ne.symm h)]
    by_cases q : low c = low d
    · rw [if_pos q, if_pos q.symm]
    · rw [if_neg q, if_neg (Ne.symm q)]
theorem cst_le (c d : Nat) : cst c d ≤ 2 := by unfold cst; split <;> (try split) <;> omega
theorem cst_self (c : Nat) : cst c c = 0 := by simp [cst]

end
section
/-- the distance: a sign put in or out 2, another sign in its place 2, the same letter in its other size 1 -/
noncomputable def ed : List Nat → List Nat → Nat
  | [], b => 2 * b.length
  | x :: a, [] => 2 * (a.length + 1)
  | x :: a, y :: b => min (ed a b + cst x y) (min (ed a (y :: b) + 2) (ed (x :: a) b + 2))
termination_by a b => a.length + b.length
theorem ed_nil (b : List Nat) : ed [] b = 2 * b.length := by rw [ed]
theorem ed_nil' (a : List Nat) : ed a [] = 2 * a.length := by
  cases a with
  | nil => rw [ed_nil]
  | cons x a => rw [ed]; rfl
theorem ed_cons (x y : Nat) (a b : List Nat) : ed (x :: a) (y :: b) = min (ed a b + cst x y) (min (ed a (y :: b) + 2) (ed (x :: a) b + 2)) := by rw [ed]
theorem ed_symm : ∀ a b : List Nat, ed a b = ed b a
  | [], b => by rw [ed_nil, ed_nil']
  | x :: a, [] => by rw [ed_nil, ed_nil']
  | x :: a, y :: b => by
    have h1 := ed_symm a b
    have h2 := ed_symm a (y :: b)
    have h3 := ed_symm (x :: a) b
    rw [ed_cons, ed_cons, h1, h2, h3, cst_symm x y]
    exact congrArg _ (Nat.min_comm _ _)
termination_by a b => a.length + b.length
theorem ed_put (x : Nat) (a b : List Nat) : ed (x :: a) b ≤ ed a b + 2 := by
  cases b with
  | nil => rw [ed_nil', ed_nil', List.length_cons]; omega
  | cons y b => rw [ed_cons]; omega
theorem ed_out' : ∀ (y : Nat) (a b : List Nat), ed a b ≤ ed a (y :: b) + 2
  | y, [], b => by rw [ed_nil, ed_nil, List.length_cons]; omega
  | y, x :: a, b => by
    have h1 := ed_put x a b
    have h2 := ed_out' y a b
    rw [ed_cons]
    omega
theorem ed_out (x : Nat) (a b : List Nat) : ed a b ≤ ed (x :: a) b + 2 := by
  rw [ed_symm a, ed_symm (x :: a)]; exact ed_out' x b a
/-- a common first sign is struck -/
theorem ed_same (x : Nat) (a b : List Nat) : ed (x :: a) (x :: b) = ed a b := by
  have h1 := ed_out' x a b
  have h2 := ed_out x a b
  rw [ed_cons, cst_self]
  omega
theorem nine (p q r p' q' r' p'' q'' r'' c d : Nat) :
    min (min (p + c) (min (q + 2) (r + 2)) + d) (min (min (p' + c) (min (q' + 2) (r' + 2)) + 2) (min (p'' + c) (min (q'' + 2) (r'' + 2)) + 2)) =
    min (min (p + d) (min (p' + 2) (p'' + 2)) + c) (min (min (q + d) (min (q' + 2) (q'' + 2)) + 2) (min (r + d) (min (r' + 2) (r'' + 2)) + 2)) := by
  simp only [← Nat.add_min_add_right]
  ac_rfl
theorem eight (P c d R : Nat) : min (P + 2 + c) (min (P + 4 + 2) (min (P + d) (min (P + 2 + 2) (R + 2)) + 2)) = min (P + 2 + d) (min (P + 4 + 2) (min (P + c) (min (P + 2 + 2) (R + 2)) + 2)) := by
  simp only [← Nat.add_min_add_right]
  ac_rfl
theorem eight' (P c d R : Nat) : min (P + 2 + c) (min (min (P + d) (min (R + 2) (P + 2 + 2)) + 2) (P + 4 + 2)) = min (P + 2 + d) (min (min (P + c) (min (R + 2) (P + 2 + 2)) + 2) (P + 4 + 2)) := by
  simp only [← Nat.add_min_add_right]
  ac_rfl
theorem ed_nil_app (b : List Nat) (y : Nat) : ed [] (b ++ [y]) = ed [] b + 2 := by
  rw [ed_nil, ed_nil, List.length_append]; rfl
theorem ed_nil_app' (b : List Nat) (y : Nat) : ed (b ++ [y]) [] = ed b [] + 2 := by
  rw [ed_nil', ed_nil', List.length_append]; rfl
theorem ed_nil_cons (b : List Nat) (y : Nat) : ed [] (y :: b) = ed [] b + 2 := by
  rw [ed_nil, ed_nil]; rfl
theorem ed_nil_cons' (b : List Nat) (y : Nat) : ed (y :: b) [] = ed b [] + 2 := by
  rw [ed_nil', ed_nil']; rfl
/-- the same recursion from behind -/
theorem ed_snoc : ∀ (a b : List Nat) (x y : Nat), ed (a ++ [x]) (b ++ [y]) = min (ed a b + cst x y) (min (ed a (b ++ [y]) + 2) (ed (a ++ [x]) b + 2))
  | [], [], x, y => by
    simp only [List.nil_append]
    rw [ed_cons]
  | [], y₀ :: b, x, y => by
    have h := ed_snoc [] b x y
    simp only [List.nil_append, List.cons_append] at h ⊢
    rw [ed_cons x y₀ [] (b ++ [y]), h, ed_cons x y₀ [] b, ed_nil_cons, ed_nil_cons, ed_nil_app]
    exact eight ..
  | x₀ :: a, [], x, y => by
    have h := ed_snoc a [] x y
    simp only [List.nil_append, List.cons_append] at h ⊢
    rw [ed_cons x₀ y (a ++ [x]) [], h, ed_cons x₀ y a [], ed_nil_cons', ed_nil_cons', ed_nil_app']
    exact eight' ..
  | x₀ :: a, y₀ :: b, x, y => by
    have h1 := ed_snoc a b x y
    have h2 := ed_snoc a (y₀ :: b) x y
    have h3 := ed_snoc (x₀ :: a) b x y
    simp only [List.cons_append] at h1 h2 h3 ⊢
    rw [ed_cons x₀ y₀ (a ++ [x]) (b ++ [y]), h1, h2, h3, ed_cons x₀ y₀ a b, ed_cons x₀ y₀ a (b ++ [y]), ed_cons x₀ y₀ (a ++ [x]) b]
    exact nine ..
termination_by a b => a.length + b.length
theorem ed_le : ∀ a b : List Nat, ed a b ≤ 2 * max a.length b.length
  | [], b => by rw [ed_nil]; simp
  | x :: a, [] => by rw [ed_nil']; simp
  | x :: a, y :: b => by
    have h := ed_le a b
    have hc := cst_le x y
    rw [ed_cons, List.length_cons, List.length_cons, Nat.add_max_add_right]
    exact Nat.le_trans (Nat.min_le_left _ _) (Nat.add_le_add h hc)
theorem ed_rev : ∀ a b : List Nat, ed a.reverse b.reverse = ed a b
  | [], b => by simp [ed_nil]
  | x :: a, [] => by simp [ed_nil']
  | x :: a, y :: b => by
    have h1 := ed_rev a b
    have h2 := ed_rev a (y :: b)
    have h3 := ed_rev (x :: a) b
    simp only [List.reverse_cons] at h2 h3 ⊢
    rw [ed_snoc, h1, h2, h3, ed_cons]
termination_by a b => a.length + b.length
theorem ed_same_last (x : Nat) (a b : List Nat) : ed (a ++ [x]) (b ++ [x]) = ed a b := by
  have h := ed_same x a.reverse b.reverse
  rw [ed_rev] at h
  rw [← h, ← ed_rev]
  simp
theorem ed_self (a : List Nat) : ed a a = 0 := by
  induction a with
  | nil => rw [ed_nil]; rfl
  | cons x a ih => rw [ed_same, ih]

end
section
theorem slice_from (l : List Nat) {i : Int} (h0 : 0 ≤ i) (h1 : i ≤ l.length) : Txt.slice (tx l) (some i) none = tx (l.drop i.toNat) := by
  rw [slice_from_eq (b := l.length) h0 (by show i ≤ ((tx l).length : Int); rw [tx_len]; exact h1) (by rw [tx_len])]
  show (⟨((l.drop i.toNat).take ((l.length : Int) - i).toNat).toArray⟩ : Str) = _
  rw [List.take_of_length_le (by rw [List.length_drop]; omega)]
  rfl
section
variable {prog : Program} {w : World} {A : Around} {E : Value → Shared → Prop} {s : Shared} {value slice : PySem.Expr} {l : List Nat} {t u : Tok} {i : Int} {Q : Value → Shared → Prop}
theorem item_txt (h0 : 0 ≤ i) (h1 : i < (l.length : Int)) : Txt.item (tx l) i = ch (l.getD i.toNat 0) := by
  unfold Txt.item Txt.charAt
  have hs : seqIndex? i (tx l).length = some i.toNat := by
    rw [tx_len]
    unfold seqIndex?
    have hn : ¬ i < 0 := by omega
    simp [hn, h0, h1]
  rw [hs]
  show (⟨#[((tx l).cps[i.toNat]?).getD 0]⟩ : Str) = _
  show (⟨#[((l.toArray)[i.toNat]?).getD 0]⟩ : Str) = _
  simp [ch, List.getD]
theorem item_tx (h0 : 0 ≤ i) (h1 : i < (l.length : Int)) (h2 : l.length ≤ 1000000) (h : Q (.str (ch (l.getD i.toNat 0)) s.toks) { s with toks := s.toks + 1 })
    (hs : subscripted slice false (.str (tx l) t) (.int i u) = operate [.str (tx l) t, .int i u] (getItem (.str (tx l) t) (.int i u)))
    (ht : ∀ r, letTemporaryGo value (.str (tx l) t) r = pure ()) :
    wpAny (model prog w) A (subscriptTail value slice (.str (tx l) t) (.int i u)) Q E s := by
  have e := tx_len l
  have e2 := item_txt (l := l) h0 h1
  refine tail_of_ItemOn (SBL.item (by omega) (by omega) (by omega) (fun _ => ?_)) hs ht
  rw [e2]; exact h
end
theorem getD_mem {l : List Nat} {i : Nat} (h : i < l.length) : l.getD i 0 ∈ l := by
  rw [List.getD_eq_getElem?_getD, List.getElem?_eq_getElem h]; exact List.getElem_mem h
section
variable {prog : Program} {w : World} {A : Around} {E : Value → Shared → Prop} {s : Shared} {h₀ : Heap} {L : Addr} {m : Str → Option Value} {news : List (Addr × Obj)}
theorem min3 {a b c : Int} {t u x : Tok} {Q : Value → Shared → Prop} (hh : A.handled = none) (F : Fr h₀ L s.heap m) (N : News h₀ L s.heap news)
    (h : ∀ h' tk tok, Fr h₀ L h' m → News h₀ L h' news → Q (.int (min (min a b) c) tok) { s with heap := h', toks := tk }) :
    wpAny (model prog w) A (call (.builtin "min") [.int a t, .int b u, .int c x]) Q E s :=
  min_three_ints hh fun h' tk hk => by
    have key := fun tok => h h' tk tok (F.grownK hk) (N.grown hk)
    have e : min (min a b) c = if b < a then (if c < b then c else b) else (if c < a then c else a) := by split <;> split <;> omega
    rw [e] at key
    by_cases hba : b < a <;> by_cases hc1 : c < b <;> by_cases hc2 : c < a <;> simp only [hba, hc1, hc2, if_true, if_false] at key ⊢ <;> exact key _
end

end
section
theorem tx_inj {a b : List Nat} (h : tx a = tx b) : a = b := by
  have h' : (tx a).cps.toList = (tx b).cps.toList := by rw [h]
  simpa [tx] using h'
theorem slice_up (l : List Nat) {q : Nat} (h0 : 0 < q) (h1 : q ≤ l.length) : Txt.slice (tx l) none (some (-(q : Int))) = tx (l.take (l.length - q)) := by
  rw [eq_of_beq (slice_closes_to_neg (x := tx l) (j := -(q : Int)) (by omega) (by rw [tx_len]; omega) rfl)]
  show (⟨((l.drop 0).take (-(q : Int) + ((tx l).length : Int) - 0).toNat).toArray⟩ : Str) = _
  rw [tx_len, List.drop_zero, show (-(q : Int) + (l.length : Int) - 0).toNat = l.length - q by omega]
  rfl
theorem slice_all (l : List Nat) : Txt.slice (tx l) none none = tx l := by
  rw [show Txt.slice (tx l) none none = Txt.slice (tx l) (some 0) none by
    show StrLaws.sliceText _ _ _ = StrLaws.sliceText _ _ _
    unfold StrLaws.sliceText; rw [StrLaws.sliceIdx_none_lo]]
  rw [slice_from l (Int.le_refl _) (by omega)]; rfl
theorem item_neg (l : List Nat) {q : Nat} (h0 : 0 < q) (h1 : q ≤ l.length) : Txt.item (tx l) (-(q : Int)) = ch (l.getD (l.length - q) 0) := by
  unfold Txt.item Txt.charAt
  have hs : seqIndex? (-(q : Int)) (tx l).length = some (l.length - q) := by
    rw [tx_len]
    unfold seqIndex?
    have hn : -(q : Int) < 0 := by omega
    simp only [hn, if_true]
    have h2 : (0 ≤ -(q : Int) + (l.length : Int) && decide (-(q : Int) + (l.length : Int) < (l.length : Int))) = true := by
      simp; omega
    rw [if_pos h2]
    congr 1; omega
  rw [hs]
  show (⟨#[((l.toArray)[l.length - q]?).getD 0]⟩ : Str) = _
  simp [ch, List.getD]
section
variable {prog : Program} {w : World} {A : Around} {E : Value → Shared → Prop} {s : Shared} {value slice : PySem.Expr} {l : List Nat} {t : Tok} {h₀ g : Heap} {L r : Addr} {m : Str → Option Value} {news : List (Addr × Obj)} {Q : Value → Shared → Prop}
theorem cut_from {i : Nat} {ui : Tok} (hg : s.heap = g.push { cls := .type "slice", data := .fields #[.int (i : Int) ui, .none, .none] }) (hr : r = g.objs.size) (hF : Fr h₀ L g m) (hN : News h₀ L g news) (hi : i ≤ l.length) (hl : l.length ≤ 1000000)
    (h : ∀ h' t' k, Fr h₀ L h' m → News h₀ L h' news → Q (.str (tx (l.drop i)) t') { s with heap := h', toks := k })
    (hs : subscripted slice false (.str (tx l) t) (.ref g.objs.size) = operate [.ref g.objs.size, .str (tx l) t] (getItem (.str (tx l) t) (.ref g.objs.size)))
    (ht : ∀ r, letTemporaryGo value (.str (tx l) t) r = pure ()) :
    wpAny (model prog w) A (subscriptTail value slice (.str (tx l) t) (.ref r)) Q E s := by
  obtain ⟨sh, s1, s2, s3, s4⟩ := s
  cases hg
  cases hr
  have e := slice_from l (i := (i : Int)) (by omega) (by omega)
  refine slice_strN_sn (s := ⟨g, s1, s2, s3, s4⟩) hF hN (fun h' t' k F' N' => ?_) hs ht (by rw [tx_len, sizeLine_eq]; omega)
  rw [e]; exact h h' t' k F' N'
theorem cut_all (hg : s.heap = g.push { cls := .type "slice", data := .fields #[.none, .none, .none] }) (hr : r = g.objs.size) (hF : Fr h₀ L g m) (hN : News h₀ L g news) (hl : l.length ≤ 1000000)
    (h : ∀ h' t' k, Fr h₀ L h' m → News h₀ L h' news → Q (.str (tx l) t') { s with heap := h', toks := k })
    (hs : subscripted slice false (.str (tx l) t) (.ref g.objs.size) = operate [.ref g.objs.size, .str (tx l) t] (getItem (.str (tx l) t) (.ref g.objs.size)))
    (ht : ∀ r, letTemporaryGo value (.str (tx l) t) r = pure ()) :
    wpAny (model prog w) A (subscriptTail value slice (.str (tx l) t) (.ref r)) Q E s := by
  obtain ⟨sh, s1, s2, s3, s4⟩ := s
  cases hg
  cases hr
  refine slice_strN_nn (s := ⟨g, s1, s2, s3, s4⟩) hF hN (fun h' t' k F' N' => ?_) hs ht (by rw [tx_len, sizeLine_eq]; omega)
  rw [slice_all]; exact h h' t' k F' N'
theorem cut_up {q : Nat} {uj : Tok} (hg : s.heap = g.push { cls := .type "slice", data := .fields #[.none, .int (-(q : Int)) uj, .none] }) (hr : r = g.objs.size) (hF : Fr h₀ L g m) (hN : News h₀ L g news) (h0 : 0 < q) (hq : q ≤ l.length) (hl : l.length ≤ 1000000)
    (h : ∀ h' t' k, Fr h₀ L h' m → News h₀ L h' news → Q (.str (tx (l.take (l.length - q))) t') { s with heap := h', toks := k })
    (hs : subscripted slice false (.str (tx l) t) (.ref g.objs.size) = operate [.ref g.objs.size, .str (tx l) t] (getItem (.str (tx l) t) (.ref g.objs.size)))
    (ht : ∀ r, letTemporaryGo value (.str (tx l) t) r = pure ()) :
    wpAny (model prog w) A (subscriptTail value slice (.str (tx l) t) (.ref r)) Q E s := by
  obtain ⟨sh, s1, s2, s3, s4⟩ := s
  cases hg
  cases hr
  refine slice_strN_ns (s := ⟨g, s1, s2, s3, s4⟩) hF hN (fun h' t' k F' N' => ?_) hs ht (by rw [tx_len, sizeLine_eq]; omega)
  rw [slice_up l h0 hq]; exact h h' t' k F' N'
theorem item_txneg {u : Tok} {i : Int} (h0 : i < 0) (h1 : -(l.length : Int) ≤ i) (h2 : l.length ≤ 1000000) (h : Q (.str (ch (l.getD (l.length - (-i).toNat) 0)) s.toks) { s with toks := s.toks + 1 })
    (hs : subscripted slice false (.str (tx l) t) (.int i u) = operate [.str (tx l) t, .int i u] (getItem (.str (tx l) t) (.int i u)))
    (ht : ∀ r, letTemporaryGo value (.str (tx l) t) r = pure ()) :
    wpAny (model prog w) A (subscriptTail value slice (.str (tx l) t) (.int i u)) Q E s := by
  have e := tx_len l
  have e2 := item_neg l (q := (-i).toNat) (by omega) (by omega)
  rw [show (-(((-i).toNat : Nat) : Int)) = i by omega] at e2
  refine tail_of_ItemOn (SBL.item (by omega) (by omega) (by omega) (fun _ => ?_)) hs ht
  rw [e2]; exact h
theorem truthy_tx {Q : Bool → Shared → Prop} (h2 : l.length ≤ 1000000) (h : l.length ≠ 0 → Q true { s with toks := s.toks + 1 + 1 }) (h' : l.length = 0 → Q false { s with toks := s.toks + 1 + 1 }) :
    wpAny (model prog w) A (truthy (.str (tx l) t)) Q E s := by
  have e := tx_len l
  refine SBL.truthy (by rw [e]; omega) ?_
  rw [e]
  by_cases hz : l.length = 0
  · rw [show ((l.length : Int) != 0) = false by rw [hz]; rfl]; exact h' hz
  · rw [show ((l.length : Int) != 0) = true by rw [bne_iff_ne]; omega]; exact h hz
end
section
variable {prog : Program} {w : World} {A : Around} {E : Value → Shared → Prop} {s : Shared} {h₀ : Heap} {L : Addr} {m : Str → Option Value} {news : List (Addr × Obj)} {Q : Value → Shared → Prop}
theorem ints_of_get (f : Nat → Int) : ∀ (n : Nat) (vs : List Value), vs.length = n → (∀ i v, vs[i]? = some v → ∃ t : Tok, v = Value.int (f i) t) → IntsAre vs ((List.range n).map f) := by
  intro n
  induction n with
  | zero => intro vs h _; rw [List.length_eq_zero_iff.mp h]; exact .nil
  | succ n ih =>
    intro vs h hv
    have hne : vs ≠ [] := fun e => by rw [e] at h; cases h
    rw [List.range_succ, List.map_append, ← List.dropLast_concat_getLast hne]
    refine IntsAre.append (ih vs.dropLast (by rw [List.length_dropLast, h]; rfl) fun i v e => hv i v ?_) ?_
    · rw [List.getElem?_dropLast] at e
      split at e
      · exact e
      · cases e
    · obtain ⟨t, ht⟩ := hv n (vs.getLast hne) (by rw [List.getLast_eq_getElem, ← List.getElem?_eq_getElem]; congr 1; omega)
      rw [ht]; exact .cons _ _ .nil
theorem list_range2 {r : Addr} {t u v : Tok} {n : Nat} (hh : A.handled = none) (F : Fr h₀ L s.heap m) (N : News h₀ L s.heap news) (hr : IsRange s.heap r 2 (2 * ((n : Int) + 1)) 2 t u v) (hn : n ≤ 1000)
    (h : ∀ D c h' tk (vs : List Value), Fr h₀ L h' m → News h₀ L h' ((D, listOf (List.toArray vs) c) :: news) → (∀ q ∈ news, q.1 < D) → IntsAre vs ((List.range n).map fun i => ((2 * (i + 1) : Nat) : Int)) → Q (.ref D) { s with heap := h', toks := tk }) :
    wpAny (model prog w) A (call (.type "list") [.ref r]) Q E s := by
  have hsz : Builtin.Range.rangeSize 2 (2 * ((n : Int) + 1)) 2 = (n : Int) := by
    unfold Builtin.Range.rangeSize
    rw [if_pos (by decide)]
    split <;> omega
  have hsm : Builtin.Range.small 2 (2 * ((n : Int) + 1)) 2 = true := by
    have f : ∀ i : Int, -100000 ≤ i → i ≤ 100000 → Builtin.Range.rangeFitsLong i = true := fun i h1 h2 => by
      unfold Builtin.Range.rangeFitsLong
      rw [decide_eq_true (by omega), decide_eq_true (by omega)]; rfl
    unfold Builtin.Range.small
    rw [hsz, f 2 (by omega) (by omega), f (2 * ((n : Int) + 1)) (by omega) (by omega), f (n : Int) (by omega) (by omega), if_pos (by decide), f (2 * ((n : Int) + 1) + (2 - 1)) (by omega) (by omega), Bool.or_true]
    rfl
  refine call_list_range hh hr hsm (n := n) hsz (by omega) fun h' tk acc' c' hk hD hacc => ?_
  refine h s.heap.objs.size c' h' tk acc'.toList (F.keeps hk) (news_pushed F N hk (by rw [Array.toArray_toList]; exact hD) rfl) (fun q hq => Heap.lt_size (N q hq).1) ?_
  refine ints_of_get _ n _ (by rw [Array.length_toList]; exact hacc.1) fun i v e => ?_
  obtain ⟨t, ht⟩ := hacc.2 i v (by rw [← Array.getElem?_toList]; exact e)
  have e2 : (2 : Int) + (i : Int) * 2 = ((2 * (i + 1) : Nat) : Int) := by omega
  exact ⟨t, ht.trans (congrArg (fun z => Value.int z t) e2)⟩
end
section
variable {prog : Program} {w : World} {A : Around} {E : Value → Shared → Prop} {s : Shared} {h₀ : Heap} {L : Addr} {m : Str → Option Value} {news : List (Addr × Obj)}
theorem min2 {a b : Int} {t u : Tok} {Q : Value → Shared → Prop} (hh : A.handled = none) (F : Fr h₀ L s.heap m) (N : News h₀ L s.heap news)
    (h : ∀ h' tk tok, Fr h₀ L h' m → News h₀ L h' news → Q (.int (min a b) tok) { s with heap := h', toks := tk }) :
    wpAny (model prog w) A (call (.builtin "min") [.int a t, .int b u]) Q E s :=
  min_two_N hh F N fun h' tk F' N' => by
    have key := h h' tk (if b < a then u else t) F' N'
    rw [show min a b = if b < a then b else a by split <;> omega] at key
    exact key
end

end
section
section
variable {prog : Program} {w : World} {A : Around} {h₀ : Heap} {L : Addr} {m : Str → Option Value} {env : Env} {ct elt : Expr} {x : Str} {scope : Scope} {cl : List (Str × Addr)} {s : Shared} {S : List (Addr × Obj) → Prop} {P : Nat → Value → Prop} {Fin : List Value → List (Addr × Obj) → Prop} {news : List (Addr × Obj)}
def TurnEl (Inv : Nat → List Value → List (Addr × Obj) → Prop) (i : Nat) (ys : List Value) (y : Value) (news' : List (Addr × Obj)) : Prop := Inv (i + 1) (ys ++ [y]) news'
def TurnNo (Inv : Nat → List Value → List (Addr × Obj) → Prop) (i : Nat) (ys : List Value) (news' : List (Addr × Obj)) : Prop := Inv (i + 1) ys news'
/-- a comp by an invariant; the ledger may grow from turn to turn -/
theorem compI {n : Nat} (Inv : Nat → List Value → List (Addr × Obj) → Prop)
    (turn : ∀ i v I oI C oC D m₂ ys nw h tk (E' : Value → Shared → Prop), i < n → P i v → Inv i ys nw → LCg.NsObj oC m₂ → m₂ x = some v → Fr h₀ L h m → News h₀ L h ((I, oI) :: (C, oC) :: (D, LCg.lst ys) :: nw) → LCg.Off3 I C D nw → ((@Ne Nat I C) ∧ (@Ne Nat I D) ∧ (@Ne Nat C D)) →
      wpAny (model prog w) A (eval elt (compEnvC scope cl C env)) (LCg.CompEnd h₀ L m { s with heap := h, toks := tk } I oI C oC D (LCg.lst ys) S (fun y news' => TurnEl Inv i ys y news')) E' { s with heap := h, toks := tk })
    (start : Inv 0 [] news) (fin : ∀ ys nw, Inv n ys nw → Fin ys nw) : LCg.CompRest prog w A h₀ L m env elt x scope cl s S P Fin n 0 [] news := by
  have key : ∀ (j i : Nat) (ys : List Value) (nw : List (Addr × Obj)), i + j = n → Inv i ys nw → LCg.CompRest prog w A h₀ L m env elt x scope cl s S P Fin j i ys nw := by
    intro j
    induction j with
    | zero =>
      intro i ys nw hi hy
      have e : i = n := by omega
      subst e
      exact LCg.CompRest.zero (fin ys nw hy)
    | succ j ih =>
      intro i ys nw hi hy
      refine LCg.CompRest.succ ?_
      intro v I oI C oC D m₂ h tk E' hv hC hx F N off ne
      refine wpAny_mono (turn i v I oI C oC D m₂ ys nw h tk E' (by omega) hv hy hC hx F N off ne) (fun y s₂ hr => ?_) fun _ _ e => e
      obtain ⟨h', tk', nw', e, F', N', off', hS, hr'⟩ := hr
      exact ⟨h', tk', nw', e, F', N', off', hS, ih (i + 1) _ nw' (by omega) hr'⟩
  exact key n 0 [] news (by omega) start
theorem compT {n : Nat} (Inv : Nat → List Value → List (Addr × Obj) → Prop)
    (turn : ∀ i v I oI C oC D m₂ ys nw h tk (E' : Value → Shared → Prop), i < n → P i v → Inv i ys nw → LCg.NsObj oC m₂ → m₂ x = some v → Fr h₀ L h m → News h₀ L h ((I, oI) :: (C, oC) :: (D, LCg.lst ys) :: nw) → LCg.Off3 I C D nw → ((@Ne Nat I C) ∧ (@Ne Nat I D) ∧ (@Ne Nat C D)) →
      wpAny (model prog w) A (isTrue ct (compEnvC scope cl C env) (eval ct (compEnvC scope cl C env))) (fun b s' => if b = true then wpAny (model prog w) A (eval elt (compEnvC scope cl C env)) (LCg.CompEnd h₀ L m { s with heap := h, toks := tk } I oI C oC D (LCg.lst ys) S (fun y news' => TurnEl Inv i ys y news')) E' s'
        else LCg.CompEnd h₀ L m { s with heap := h, toks := tk } I oI C oC D (LCg.lst ys) S (fun _ news' => TurnNo Inv i ys news') Value.none s') E' { s with heap := h, toks := tk })
    (start : Inv 0 [] news) (fin : ∀ ys nw, Inv n ys nw → Fin ys nw) : LCt.CompRestT prog w A h₀ L m env ct elt x scope cl s S P Fin n 0 [] news := by
  have key : ∀ (j i : Nat) (ys : List Value) (nw : List (Addr × Obj)), i + j = n → Inv i ys nw → LCt.CompRestT prog w A h₀ L m env ct elt x scope cl s S P Fin j i ys nw := by
    intro j
    induction j with
    | zero =>
      intro i ys nw hi hy
      have e : i = n := by omega
      subst e
      exact LCt.CompRestT.zero (fin ys nw hy)
    | succ j ih =>
      intro i ys nw hi hy
      refine LCt.CompRestT.succ ?_
      intro v I oI C oC D m₂ h tk E' hv hC hx F N off ne
      refine wpAny_mono (turn i v I oI C oC D m₂ ys nw h tk E' (by omega) hv hy hC hx F N off ne) (fun b s₂ hq => ?_) fun _ _ e => e
      cases b with
      | true =>
        simp only [if_true] at hq ⊢
        refine wpAny_mono hq (fun y s₃ hr => ?_) fun _ _ e => e
        obtain ⟨h', tk', nw', e, F', N', off', hS, hr'⟩ := hr
        exact ⟨h', tk', nw', e, F', N', off', hS, ih (i + 1) _ nw' (by omega) hr'⟩
      | false =>
        simp only [Bool.false_eq_true, if_false] at hq ⊢
        obtain ⟨h', tk', nw', e, F', N', off', hS, hr'⟩ := hq
        exact ⟨h', tk', nw', e, F', N', off', hS, ih (i + 1) _ nw' (by omega) hr'⟩
  exact key n 0 [] news (by omega) start
end

end
section
/-- a table of whole numbers: n rows of c places, f i j at row i, place j -/
inductive Grid (h : Heap) (l : Addr) (n c : Nat) (f : Nat → Nat → Int) : Prop
  | mk (rs : List Addr) (h0 : rs.length = n) (h1 : h.IsList l (List.toArray (rs.map Value.ref))) (h2 : ∀ i, i < n → ∃ vs, h.IsList (rs.getD i 0) (List.toArray vs) ∧ IntsAre vs ((List.range c).map (f i)))
theorem rowInts_len (c : Nat) (f : Nat → Int) : ((List.range c).map f).length = c := by simp
theorem rowInts_getD {c : Nat} (f : Nat → Int) {k : Nat} (h : k < c) : ((List.range c).map f).getD k 0 = f k := by
  rw [List.getD_eq_getElem?_getD, List.getElem?_map, List.getElem?_range h]; rfl
section
variable {prog : Program} {w : World} {A : Around} {E : Value → Shared → Prop} {s : Shared} {h₀ : Heap} {L l : Addr} {m : Str → Option Value} {n c : Nat} {f : Nat → Nat → Int} {k : Int} {u : Tok} {value slice : PySem.Expr} {ops : List Value} {Q : Value → Shared → Prop}
/-- a row of a table of the base -/
theorem item_grid (F : Fr h₀ L s.heap m) (G : Grid h₀ l n c f) (h0 : 0 ≤ k) (h1 : k < (n : Int)) (h2 : k < 2 ^ 63)
    (h : ∀ r vs, h₀.IsList r (List.toArray vs) → IntsAre vs ((List.range c).map (f k.toNat)) → ((List.range c).map (f k.toNat)).length = c → Q (.ref r) s)
    (hs : subscripted slice false (.ref l) (.int k u) = operate ops (getItem (.ref l) (.int k u))) : wpAny (model prog w) A (subscriptTail value slice (.ref l) (.int k u)) Q E s := by
  obtain ⟨rs, e, hl, hr⟩ := G
  obtain ⟨vs, a, b⟩ := hr k.toNat (by omega)
  have hls : s.heap.IsList l (List.toArray (rs.map Value.ref)) := hl.at fun o q => F.keep l o q
  refine tail_any hls.typeIs slot_list_getitem.lookup (wpAny_getItem_list hls h0 h2 (x := .ref (rs.getD k.toNat 0)) ?_ (h _ _ a b (rowInts_len c _))) hs
  rw [List.getElem?_toArray, List.getElem?_map, List.getD_eq_getElem?_getD, List.getElem?_eq_getElem (by omega)]; rfl
end

end
section
noncomputable def signTab : List (List Nat) := [[40], [41], [91], [93], [58], [44], [59], [43], [45], [42], [47], [124], [38], [60], [62], [61], [46], [37], [123], [125], [61, 61], [33, 61], [60, 61], [62, 61], [126], [94], [60, 60], [62, 62], [42, 42], [43, 61], [45, 61], [42, 61], [47, 61], [37, 61], [38, 61], [124, 61], [94, 61], [60, 60, 61], [62, 62, 61], [42, 42, 61], [47, 47], [47, 47, 61], [64], [64, 61], [45, 62], [46, 46, 46], [58, 61], [33]]
noncomputable def signStrs : List Str := [Str.ofString "(", Str.ofString ")", Str.ofString "[", Str.ofString "]", Str.ofString ":", Str.ofString ",", Str.ofString ";", Str.ofString "+", Str.ofString "-", Str.ofString "*", Str.ofString "/", Str.ofString "|", Str.ofString "&", Str.ofString "<", Str.ofString ">", Str.ofString "=", Str.ofString ".", Str.ofString "%", Str.ofString "{", Str.ofString "}", Str.ofString "==", Str.ofString "!=", Str.ofString "<=", Str.ofString ">=", Str.ofString "~", Str.ofString "^", Str.ofString "<<", Str.ofString ">>", Str.ofString "**", Str.ofString "+=", Str.ofString "-=", Str.ofString "*=", Str.ofString "/=", Str.ofString "%=", Str.ofString "&=", Str.ofString "|=", Str.ofString "^=", Str.ofString "<<=", Str.ofString ">>=", Str.ofString "**=", Str.ofString "//", Str.ofString "//=", Str.ofString "@", Str.ofString "@=", Str.ofString "->", Str.ofString "...", Str.ofString ":=", Str.ofString "!"]
noncomputable def letTab : List (List Nat) := [[97], [65], [98], [66]]
/-- a symbol's signs -/
noncomputable def sg (k : Int) : List Nat := if 255 < k then letTab.getD (k - 256).toNat [] else signTab.getD (k - 7).toNat []
def IsSym (n : Int) : Prop := (7 ≤ n ∧ n ≤ 54) ∨ (256 ≤ n ∧ n ≤ 259)
theorem signs_at : ∀ i < 48, signStrs.getD i Str.empty = tx (signTab.getD i []) := by decide +kernel
theorem sign_of {k : Int} (h : 7 ≤ k ∧ k ≤ 54) : signStrs.getD (k - 7).toNat Str.empty = tx (sg k) := by
  unfold sg
  rw [if_neg (by omega)]
  exact signs_at _ (by omega)
theorem letters_at : ∀ i < 4, Txt.item (Str.ofString "aAbB") (Int.ofNat i) = tx (letTab.getD i []) := by decide +kernel
theorem letter_of {k : Int} (h : 256 ≤ k ∧ k ≤ 259) : Txt.item (Str.ofString "aAbB") (k - 256) = tx (sg k) := by
  unfold sg
  rw [if_pos (by omega)]
  have e := letters_at (k - 256).toNat (by omega)
  rwa [show Int.ofNat (k - 256).toNat = k - 256 by show ((k - 256).toNat : Int) = _; omega] at e
theorem signTab_len : ∀ i < 48, (signTab.getD i []).length ≤ 3 ∧ 1 ≤ (signTab.getD i []).length ∧ ∀ c ∈ signTab.getD i [], c ∈ alpha := by decide +kernel
theorem letTab_len : ∀ i < 4, (letTab.getD i []).length = 1 ∧ ∀ c ∈ letTab.getD i [], c ∈ alpha := by decide +kernel
theorem sg_facts {k : Int} (h : IsSym k) : (sg k).length ≤ 3 ∧ 1 ≤ (sg k).length ∧ ∀ c ∈ sg k, c ∈ alpha := by
  unfold sg
  rcases h with h | h
  · rw [if_neg (by omega)]; exact signTab_len _ (by omega)
  · rw [if_pos (by omega)]
    have := letTab_len (k - 256).toNat (by omega)
    exact ⟨by omega, by omega, this.2⟩
theorem sg_name {k : Int} (h : 256 ≤ k ∧ k ≤ 259) : (sg k).length = 1 := by
  unfold sg
  rw [if_pos (by omega)]
  exact (letTab_len (k - 256).toNat (by omega)).1
theorem join_tx (l : List (List Nat)) : Txt.join (Str.ofString "") (l.map tx) = tx l.flatten := by
  show Builtin.Str.glued _ _ = _
  rw [StrLaws.glued_eq_join]
  have e0 : Str.ofString "" = tx [] := by decide +kernel
  rw [e0]
  induction l with
  | nil => rfl
  | cons a r ih =>
    cases r with
    | nil => simp [Str.join]
    | cons b r =>
      show tx a ++ tx [] ++ Str.join (tx []) (tx b :: r.map tx) = _
      rw [List.map_cons] at ih
      rw [ih]
      show Str.append (Str.append (tx a) (tx [])) _ = _
      simp [Str.append, tx]
/-- what a row of symbols spells -/
noncomputable def spell (ns : List Int) : List Nat := (ns.map sg).flatten

end
section
/-- the i-th row of the table -/
noncomputable def rowOf (a b : List Nat) : List Int := (List.range (b.length + 1)).map fun k => ((ed a (b.take k) : Nat) : Int)
theorem rowOf_len (a b : List Nat) : (rowOf a b).length = b.length + 1 := by simp [rowOf]
theorem rowOf_get (a b : List Nat) {k : Nat} (hk : k ≤ b.length) : (rowOf a b)[k]? = some ((ed a (b.take k) : Nat) : Int) := by
  unfold rowOf
  rw [List.getElem?_map, List.getElem?_range (by omega)]; rfl
theorem rowOf_nil (b : List Nat) : rowOf [] b = (rangeKs 0 (b.length + 1)).map fun k => 2 * k := by
  unfold rowOf rangeKs
  rw [List.map_map]
  refine List.map_congr_left fun k hk => ?_
  have := List.mem_range.mp hk
  rw [ed_nil, List.length_take]
  show ((2 * min k b.length : Nat) : Int) = 2 * (0 + (k : Int))
  omega
theorem rowOf_take_succ (a b : List Nat) {k : Nat} (hk : k < b.length) : (rowOf a b).take (k + 2) = (rowOf a b).take (k + 1) ++ [((ed a (b.take (k + 1)) : Nat) : Int)] := by
  rw [List.take_add_one (i := k + 1), rowOf_get a b (by omega)]; rfl
theorem rowOf_take_one (a b : List Nat) : (rowOf a b).take 1 = [((ed a [] : Nat) : Int)] := by
  have h := rowOf_get a b (Nat.zero_le _)
  rw [List.take_zero] at h
  rw [List.take_add_one, h]; rfl
/-- one cell of the table -/
theorem ed_cell (a b : List Nat) {x y : Nat} {k : Nat} (hy : b[k]? = some y) :
    ed (a ++ [x]) (b.take (k + 1)) = min (min (ed a (b.take k) + cst x y) (ed a (b.take (k + 1)) + 2)) (ed (a ++ [x]) (b.take k) + 2) := by
  rw [List.take_add_one, hy]
  show ed (a ++ [x]) (b.take k ++ [y]) = min (min (ed a (b.take k) + cst x y) (ed a (b.take k ++ [y]) + 2)) (ed (a ++ [x]) (b.take k) + 2)
  rw [ed_snoc, Nat.min_assoc]
theorem rowOf_getD (a b : List Nat) {k : Nat} (hk : k ≤ b.length) : (rowOf a b).getD k 0 = ((ed a (b.take k) : Nat) : Int) := by
  rw [List.getD_eq_getElem?_getD, rowOf_get a b hk]; rfl
theorem cast_min (a b : Nat) : ((min a b : Nat) : Int) = min (a : Int) (b : Int) := by omega
theorem cell_cast (p q r z : Nat) : min (min ((p : Int) + (z : Int)) ((q : Int) + 2)) ((r : Int) + 2) = ((min (min (p + z) (q + 2)) (r + 2) : Nat) : Int) := by
  rw [cast_min, cast_min]; rfl

end
section
theorem take_next (a : List Nat) {p : Nat} (h : p < a.length) : a.take (p + 1) = a.take p ++ [a.getD p 0] := by
  rw [List.take_add_one, List.getD_eq_getElem?_getD, List.getElem?_eq_getElem h]; rfl
/-- the row in the midst: the first j places are row i + 1's, the others row i's -/
noncomputable def mixRow (b a : List Nat) (i j : Nat) : List Int := (List.range a.length).map fun k => ((if k < j then ed (b.take (i + 1)) (a.take (k + 1)) else ed (b.take i) (a.take (k + 1)) : Nat) : Int)
theorem mixRow_len (b a : List Nat) (i j : Nat) : (mixRow b a i j).length = a.length := by simp [mixRow]
theorem mixRow_getD (b a : List Nat) (i : Nat) {j : Nat} (h : j < a.length) : (mixRow b a i j).getD j 0 = ((ed (b.take i) (a.take (j + 1)) : Nat) : Int) := by
  unfold mixRow
  rw [List.getD_eq_getElem?_getD, List.getElem?_map, List.getElem?_range h]
  simp
theorem mixRow_set (b a : List Nat) (i : Nat) {j : Nat} (h : j < a.length) : (mixRow b a i j).set j ((ed (b.take (i + 1)) (a.take (j + 1)) : Nat) : Int) = mixRow b a i (j + 1) := by
  apply List.ext_getElem
  · simp [mixRow]
  · intro k h1 h2
    rw [List.getElem_set]
    simp only [mixRow, List.getElem_map, List.getElem_range]
    by_cases hk : j = k
    · subst hk; simp
    · rw [if_neg hk]
      have : (k < j) = (k < j + 1) := by rw [eq_iff_iff]; omega
      simp only [this]
theorem mixRow_start (b a : List Nat) : mixRow b a 0 0 = (List.range a.length).map fun k => ((2 * (k + 1) : Nat) : Int) := by
  unfold mixRow
  refine List.map_congr_left fun k hk => ?_
  have := List.mem_range.mp hk
  rw [if_neg (by omega), List.take_zero, ed_nil, List.length_take, Nat.min_eq_left (by omega)]
theorem mixRow_end (b a : List Nat) (i : Nat) : mixRow b a i a.length = mixRow b a (i + 1) 0 := by
  unfold mixRow
  refine List.map_congr_left fun k hk => ?_
  have := List.mem_range.mp hk
  rw [if_pos this, if_neg (by omega)]
/-- what result holds ahead of place j -/
noncomputable def resAt (b a : List Nat) (i j : Nat) : Nat := if j = 0 then 2 * i else ed (b.take (i + 1)) (a.take j)
theorem lev_min (p q r z : Nat) : min (r + z) (min (q + 2) (p + 2)) = min (min p q + 2) (r + z) := by
  rw [← Nat.add_min_add_right, Nat.min_comm (q + 2), Nat.min_comm]
theorem lev_min0 (i q z : Nat) (hc : z ≤ 2) : min (2 * i + z) (min (q + 2) (2 * (i + 1) + 2)) = min (min (2 * i) q + 2) (2 * i + z) := by
  rw [Nat.min_comm (q + 2), ← Nat.min_assoc, Nat.min_eq_left (show 2 * i + z ≤ 2 * (i + 1) + 2 by omega), ← Nat.add_min_add_right, Nat.min_comm (2 * i + 2), Nat.min_assoc, Nat.min_eq_right (show 2 * i + z ≤ 2 * i + 2 by omega), Nat.min_comm]
theorem lev_cell (b a : List Nat) {i j : Nat} (hi : i < b.length) (hj : j < a.length) :
    ed (b.take (i + 1)) (a.take (j + 1)) = min (min (resAt b a i j) (ed (b.take i) (a.take (j + 1))) + 2) (ed (b.take i) (a.take j) + cst (b.getD i 0) (a.getD j 0)) := by
  have hc := cst_le (b.getD i 0) (a.getD j 0)
  have e := ed_snoc (b.take i) (a.take j) (b.getD i 0) (a.getD j 0)
  rw [← take_next b hi, ← take_next a hj] at e
  rw [e]
  unfold resAt
  by_cases h0 : j = 0
  · subst h0
    have e1 : ed (b.take (i + 1)) (a.take 0) = 2 * (i + 1) := by rw [List.take_zero, ed_nil', List.length_take]; omega
    have e2 : ed (b.take i) (a.take 0) = 2 * i := by rw [List.take_zero, ed_nil', List.length_take]; omega
    rw [e1, e2, if_pos rfl]
    generalize ed (b.take i) (a.take (0 + 1)) = q
    generalize cst (b.getD i 0) (a.getD 0 0) = z at *
    exact lev_min0 _ _ _ hc
  · rw [if_neg h0]
    generalize ed (b.take i) (a.take (j + 1)) = q
    generalize ed (b.take i) (a.take j) = r
    generalize ed (b.take (i + 1)) (a.take j) = p
    generalize cst (b.getD i 0) (a.getD j 0) = z
    exact lev_min _ _ _ _
theorem lev_cast (p q r z : Nat) : min (min (p : Int) (q : Int) + 2) ((r : Int) + (z : Int)) = ((min (min p q + 2) (r + z) : Nat) : Int) := by
  rw [cast_min, Int.natCast_add, cast_min]; rfl
theorem lev_low (b a : List Nat) (i j : Nat) (hb : b.length ≤ 5) (ha : a.length ≤ 5) : ed (b.take i) (a.take j) ≤ 10 := by
  have := ed_le (b.take i) (a.take j)
  rw [List.length_take, List.length_take] at this
  omega

end
local macro_rules | `(tactic| walk_at "FILL") => `(tactic| (have hfill : (fun (_ : OpenLaw) => heap39) PySem.Challenge.rw_ta0043_01 = heap39 := (by k_fill; rfl); clear hfill))
local macro_rules | `(tactic| walk_at "ENTER") => `(tactic| (
  (case ho => k_is); (case hcd => k_is); (case hb => exact rfl); (case hl => exact locs rfl); (case c1 => exact rfl); (case c2 => exact rfl); (case c3 => exact rfl); (case c4 => decide)))
local macro_rules | `(tactic| walk_at "ENTERC") => `(tactic| (
  (case ho => k_is); (case hcd => k_is); (case hb => exact rfl); (case hkd => exact rfl); (case hnd => decide +kernel); (case c1 => exact rfl); (case c2 => exact rfl); (case c3 => exact rfl)))
local macro_rules | `(tactic| walk_at "SHOW") => `(tactic| (with_reducible show wpAny _ _ _ _ _ _))
local macro_rules | `(tactic| walk_at "NOSTOP") => `(tactic| fail_if_success (with_reducible first
  | show wpAny _ _ (call (Value.builtin "str.join") _) _ _ _
  | show wpAny _ _ (exec (Stmt.For _ _ _ _ _) _) _ _ _
  | show wpAny _ _ (exec (Stmt.While _ _ _ _) _) _ _ _
  | show wpAny _ _ (pyIter _) _ _ _
  | show wpAny _ _ (exec (Stmt.Assign _ (Expr.ListComp _ _ _ _) _) _) _ _ _
  | show wpAny _ _ (eval (Expr.ListComp _ _ _ _) _) _ _ _
  | show LCg.CompSrc _ _ _ _ _ _ _ _ _ _ _ _ _ _
  | show LCt.CompSrcT _ _ _ _ _ _ _ _ _ _ _ _ _ _ _))
local macro_rules | `(tactic| walk_at "STEP1") => `(tactic| (walk_at "NOSTOP"; first | (k_unfold; (try dsimp only)) | (k_end; wrow_close) | walk1 | (dsimp only; walk1) | (leave1; walk_say "STEP leave1"; try dsimp only) | fail "no step"))
local macro_rules | `(tactic| walk_at "STEPS") => `(tactic| repeat' (walk_at "STEP1"))
local macro_rules | `(tactic| walk_at "LCOMP") => `(tactic| k_dflt (refine LCg.ListComp_U (F₀ := by k_asm) (by with_unfolding_all rfl) (by decide) (by rfl) (by decide) (by rfl) ?_))
local macro_rules | `(tactic| walk_at "ACOMP") => `(tactic| k_dflt (refine LCg.Assign_ListComp_U (F₀ := by k_asm) (by rfl) (by with_unfolding_all rfl) (by with_unfolding_all rfl) (by decide) (by rfl) (by decide) (by rfl) (by rfl) (by rfl) ?_))
local macro_rules | `(tactic| walk_at "ITEM?") => `(tactic| (with_reducible show wpAny _ _ (subscriptTail _ _ (Value.ref _) (Value.int _ _)) _ _ _))
local macro_rules | `(tactic| walk_at "CUT?") => `(tactic| (with_reducible show wpAny _ _ (subscriptTail _ (PySem.Expr.Slice _ _ none _) (Value.ref _) (Value.ref _)) _ _ _))
local macro_rules | `(tactic| walk_at "ITX?") => `(tactic| (with_reducible show wpAny _ _ (subscriptTail _ _ (Value.str (tx _) _) (Value.int _ _)) _ _ _))
local macro_rules | `(tactic| walk_at "subscriptTail") => `(tactic| (k_here; walk_at "ITEM?"; k_dflt (refine' item_base (by k_asm) (by assumption) (by assumption) (by omega) (by omega) (by omega) ?_ (by with_unfolding_all rfl); intro t')))
local macro_rules | `(tactic| walk_at "ITX") => `(tactic| (k_here; walk_at "ITX?"; k_dflt (refine' item_tx (by omega) (by omega) (by omega) ?_ (by with_unfolding_all rfl) (by intro _; with_unfolding_all rfl))))
local macro_rules | `(tactic| walk_at "subscriptTail") => `(tactic| walk_at "ITX")
local macro_rules | `(tactic| walk_at "subscriptTail Name Name str int") => `(tactic| walk_at "ITX")
local macro_rules | `(tactic| walk_at "subscriptTail str int") => `(tactic| walk_at "ITX")
local macro_rules | `(tactic| walk_at "AMB") => `(tactic| exact Amb.keeps (by assumption) (Fr.keep (by assumption)))
local macro_rules | `(tactic| walk_at "DEP") => `(tactic| first | omega | (simp only [depth_deeper]; omega) | (simp only [depth_deeper, depth_in1, depth_mark]; omega))
local macro_rules | `(tactic| walk_at "BACK") => `(tactic| ((rename (Heap.StaysIn _ _) => hk'); (have F' := Fr.keeps (by assumption) hk'); (have N' := News.grown (by assumption) hk'); (clear hk'); (try k_sweep); (try dsimp only)))
local macro_rules | `(tactic| walk_at "unpackItems ref") => `(tactic| (k_here; k_dflt (refine' unpackItemsN_ (by k_asm) (by k_asm) (by exact News.isTup (by k_asm) (by k_mem)) (by assumption) (by exact rfl) ?_); intro h' F' N'; (try k_sweep)))
local macro_rules | `(tactic| walk_at "NE") => `(tactic| first | assumption | exact Ne.symm (by assumption) | exact Nat.ne_of_lt (by assumption) | exact Nat.ne_of_gt (by assumption) | (rename (_ ∧ _) => hcj; obtain ⟨hcj1, hcj2⟩ := hcj; walk_at "NE"))
local macro_rules | `(tactic| k_ne) => `(tactic| (refine neN ?_; (try dsimp only); first | walk_at "NE" | omega))
section
section
variable {w : World} {mean : ExcName → Option Value} {mg mb : Str → Option Value} {A : Around} {s : Shared} {Q E : Value → Shared → Prop}

theorem filled : True := by
  walk_at "FILL"
  trivial

theorem c_add (a b : Int) (t u : Tok) (X : Amb w mean mg mb s.heap) (hdep : A.depth < recursionLimit)
    (ret : ∀ t' h' tk', s.heap.StaysIn h' → Q (.int (a + b) t') { s with heap := h', toks := tk' }) :
    wpAny (model pw w) A (call (.ref 36) [.int a t, .int b u]) Q E s := by
  obtain ⟨KX, T⟩ := X
  refine' enterP [(Str.ofString "a", .int a t), (Str.ofString "b", .int b u)] KX T hdep ?ho ?hcd ?hb ?hl ?c1 ?c2 ?c3 ?c4 (fun h₁ F N => ?_)
  walk_at "ENTER"
  (try dsimp only)
  k_fold
  k_steps
  all_goals (try dsimp only)
  exact ret _ _ _ (Fr.keep (by assumption))

theorem c_and (a b : Int) (t u : Tok) (X : Amb w mean mg mb s.heap) (hdep : A.depth < recursionLimit)
    (ret : ∀ t' h' tk', s.heap.StaysIn h' → Q (.int (Builtin.bitAnd a b) t') { s with heap := h', toks := tk' }) :
    wpAny (model pw w) A (call (.ref 43) [.int a t, .int b u]) Q E s := by
  obtain ⟨KX, T⟩ := X
  refine' enterP [(Str.ofString "a", .int a t), (Str.ofString "b", .int b u)] KX T hdep ?ho ?hcd ?hb ?hl ?c1 ?c2 ?c3 ?c4 (fun h₁ F N => ?_)
  walk_at "ENTER"
  (try dsimp only)
  k_fold
  k_steps
  all_goals (try dsimp only)
  exact ret _ _ _ (Fr.keep (by assumption))

theorem c_or (a b : Int) (t u : Tok) (X : Amb w mean mg mb s.heap) (hdep : A.depth < recursionLimit)
    (ret : ∀ t' h' tk', s.heap.StaysIn h' → Q (.int (Builtin.bitOr a b) t') { s with heap := h', toks := tk' }) :
    wpAny (model pw w) A (call (.ref 71) [.int a t, .int b u]) Q E s := by
  obtain ⟨KX, T⟩ := X
  refine' enterP [(Str.ofString "a", .int a t), (Str.ofString "b", .int b u)] KX T hdep ?ho ?hcd ?hb ?hl ?c1 ?c2 ?c3 ?c4 (fun h₁ F N => ?_)
  walk_at "ENTER"
  (try dsimp only)
  k_fold
  k_steps
  all_goals (try dsimp only)
  exact ret _ _ _ (Fr.keep (by assumption))

theorem c_sub (a b : Int) (t u : Tok) (X : Amb w mean mg mb s.heap) (hdep : A.depth < recursionLimit)
    (ret : ∀ t' h' tk', s.heap.StaysIn h' → Q (.int (a - b) t') { s with heap := h', toks := tk' }) :
    wpAny (model pw w) A (call (.ref 85) [.int a t, .int b u]) Q E s := by
  obtain ⟨KX, T⟩ := X
  refine' enterP [(Str.ofString "a", .int a t), (Str.ofString "b", .int b u)] KX T hdep ?ho ?hcd ?hb ?hl ?c1 ?c2 ?c3 ?c4 (fun h₁ F N => ?_)
  walk_at "ENTER"
  (try dsimp only)
  k_fold
  k_steps
  all_goals (try dsimp only)
  exact ret _ _ _ (Fr.keep (by assumption))

theorem c_neg (a : Int) (t : Tok) (X : Amb w mean mg mb s.heap) (hdep : A.depth < recursionLimit)
    (ret : ∀ t' h' tk', s.heap.StaysIn h' → Q (.int (-a) t') { s with heap := h', toks := tk' }) :
    wpAny (model pw w) A (call (.ref 64) [.int a t]) Q E s := by
  obtain ⟨KX, T⟩ := X
  refine' enterP [(Str.ofString "a", .int a t)] KX T hdep ?ho ?hcd ?hb ?hl ?c1 ?c2 ?c3 ?c4 (fun h₁ F N => ?_)
  walk_at "ENTER"
  (try dsimp only)
  k_fold
  k_steps
  all_goals (try dsimp only)
  exact ret _ _ _ (Fr.keep (by assumption))

theorem c_mul (a b : Int) (t u : Tok) (hm : IntMulOk a b) (X : Amb w mean mg mb s.heap) (hdep : A.depth < recursionLimit)
    (ret : ∀ t' h' tk', s.heap.StaysIn h' → Q (.int (a * b) t') { s with heap := h', toks := tk' }) :
    wpAny (model pw w) A (call (.ref 57) [.int a t, .int b u]) Q E s := by
  obtain ⟨KX, T⟩ := X
  refine' enterP [(Str.ofString "a", .int a t), (Str.ofString "b", .int b u)] KX T hdep ?ho ?hcd ?hb ?hl ?c1 ?c2 ?c3 ?c4 (fun h₁ F N => ?_)
  walk_at "ENTER"
  (try dsimp only)
  k_fold
  k_steps
  all_goals (try dsimp only)
  exact ret _ _ _ (Fr.keep (by assumption))

theorem c_lshift (a b : Int) (t u : Tok) (h0 : 0 ≤ b) (h1 : b ≤ 1000000) (h2 : a.natAbs < 2 ^ 64) (X : Amb w mean mg mb s.heap) (hdep : A.depth < recursionLimit)
    (ret : ∀ t' h' tk', s.heap.StaysIn h' → Q (.int (a * 2 ^ b.toNat) t') { s with heap := h', toks := tk' }) :
    wpAny (model pw w) A (call (.ref 50) [.int a t, .int b u]) Q E s := by
  obtain ⟨KX, T⟩ := X
  refine' enterP [(Str.ofString "a", .int a t), (Str.ofString "b", .int b u)] KX T hdep ?ho ?hcd ?hb ?hl ?c1 ?c2 ?c3 ?c4 (fun h₁ F N => ?_)
  walk_at "ENTER"
  (try dsimp only)
  k_fold
  k_steps
  all_goals (try dsimp only)
  exact ret _ _ _ (Fr.keep (by assumption))

theorem c_rshift (a b : Int) (t u : Tok) (h0 : 0 ≤ b) (X : Amb w mean mg mb s.heap) (hdep : A.depth < recursionLimit)
    (ret : ∀ t' h' tk', s.heap.StaysIn h' → Q (.int (a.fdiv (2 ^ b.toNat)) t') { s with heap := h', toks := tk' }) :
    wpAny (model pw w) A (call (.ref 78) [.int a t, .int b u]) Q E s := by
  obtain ⟨KX, T⟩ := X
  refine' enterP [(Str.ofString "a", .int a t), (Str.ofString "b", .int b u)] KX T hdep ?ho ?hcd ?hb ?hl ?c1 ?c2 ?c3 ?c4 (fun h₁ F N => ?_)
  walk_at "ENTER"
  (try dsimp only)
  k_fold
  k_steps
  all_goals (try dsimp only)
  exact ret _ _ _ (Fr.keep (by assumption))

theorem c_isterminal (a : Int) (t : Tok) (X : Amb w mean mg mb s.heap) (hdep : A.depth < recursionLimit)
    (ret : ∀ h' tk', s.heap.StaysIn h' → Q (.bool (decide (a < 256))) { s with heap := h', toks := tk' }) :
    wpAny (model pw w) A (call (.ref 95) [.int a t]) Q E s := by
  obtain ⟨KX, T⟩ := X
  refine' enterP [(Str.ofString "x", .int a t)] KX T hdep ?ho ?hcd ?hb ?hl ?c1 ?c2 ?c3 ?c4 (fun h₁ F N => ?_)
  walk_at "ENTER"
  (try dsimp only)
  k_fold
  k_steps
  all_goals (try dsimp only)
  exact ret _ _ (Fr.keep (by assumption))

theorem c_isnonterminal (a : Int) (t : Tok) (X : Amb w mean mg mb s.heap) (hdep : A.depth < recursionLimit)
    (ret : ∀ h' tk', s.heap.StaysIn h' → Q (.bool (decide (256 ≤ a))) { s with heap := h', toks := tk' }) :
    wpAny (model pw w) A (call (.ref 102) [.int a t]) Q E s := by
  obtain ⟨KX, T⟩ := X
  refine' enterP [(Str.ofString "x", .int a t)] KX T hdep ?ho ?hcd ?hb ?hl ?c1 ?c2 ?c3 ?c4 (fun h₁ F N => ?_)
  walk_at "ENTER"
  (try dsimp only)
  k_fold
  k_steps
  all_goals (try dsimp only)
  exact ret _ _ (Fr.keep (by assumption))

theorem c_iseof (a : Int) (t : Tok) (X : Amb w mean mg mb s.heap) (hdep : A.depth < recursionLimit)
    (ret : ∀ h' tk', s.heap.StaysIn h' → Q (.bool (a == 0)) { s with heap := h', toks := tk' }) :
    wpAny (model pw w) A (call (.ref 109) [.int a t]) Q E s := by
  obtain ⟨KX, T⟩ := X
  refine' enterP [(Str.ofString "x", .int a t)] KX T hdep ?ho ?hcd ?hb ?hl ?c1 ?c2 ?c3 ?c4 (fun h₁ F N => ?_)
  walk_at "ENTER"
  (try dsimp only)
  k_fold
  k_steps
  all_goals (try dsimp only)
  exact ret _ _ (Fr.keep (by assumption))
end

end
section
section
variable {w : World} {mean : ExcName → Option Value} {mg mb : Str → Option Value} {A : Around} {s : Shared} {Q E : Value → Shared → Prop}
theorem c_cost (c d : Nat) (t u : Tok) (hc : c ∈ alpha) (hd : d ∈ alpha) (X : Amb w mean mg mb s.heap) (hdep : A.depth < recursionLimit)
    (ret : ∀ t' h' tk', s.heap.StaysIn h' → Q (.int (cst c d) t') { s with heap := h', toks := tk' }) :
    wpAny (model pw w) A (call (.ref 154) [.str (ch c) t, .str (ch d) u]) Q E s := by
  walk_at "FILL"
  obtain ⟨KX, T⟩ := X
  have hlc := ch_len c
  have hld := ch_len d
  refine' enterP [(Str.ofString "sign", .str (ch c) t), (Str.ofString "other", .str (ch d) u)] KX T hdep ?ho ?hcd ?hb ?hl ?c1 ?c2 ?c3 ?c4 (fun h₁ F N => ?_)
  walk_at "ENTER"
  (try dsimp only)
  k_fold
  k_steps
  · have h : cst c d = 0 := by
      rename_i hq; rw [ch_beq] at hq; simp only [cst, if_pos (of_decide_eq_true hq)]
    rw [h] at ret
    exact ret _ _ _ (Fr.keep (by assumption))
  · rename ((List.any _ _) = true) => hq
    rw [pair_in c hc d hd] at hq
    have h : cst c d = 1 := by
      obtain ⟨h1, h2⟩ := of_decide_eq_true hq
      simp only [cst, if_neg h1, if_pos h2]
    rw [h] at ret
    exact ret _ _ _ (Fr.keep (by assumption))
  · rename ((List.any _ _) = false) => hq
    rename ((ch c == ch d) = false) => hq0
    rw [pair_in c hc d hd] at hq
    rw [ch_beq] at hq0
    have h : cst c d = 2 := by
      have h0 := of_decide_eq_false hq0
      have h1 := of_decide_eq_false hq
      simp only [cst, if_neg h0, if_neg fun q => h1 ⟨h0, q⟩]
    rw [h] at ret
    exact ret _ _ _ (Fr.keep (by assumption))

theorem c_subst (c d : Nat) (t u : Tok) (hc : c ∈ alpha) (hd : d ∈ alpha) (X : Amb w mean mg mb s.heap) (hdep : A.depth < recursionLimit)
    (ret : ∀ t' h' tk', s.heap.StaysIn h' → Q (.int (cst c d) t') { s with heap := h', toks := tk' }) :
    wpAny (model pw w) A (call (.ref 116) [.str (ch c) t, .str (ch d) u]) Q E s := by
  walk_at "FILL"
  obtain ⟨KX, T⟩ := X
  have hlc := ch_len c
  have hld := ch_len d
  refine' enterP [(Str.ofString "ch_a", .str (ch c) t), (Str.ofString "ch_b", .str (ch d) u)] KX T hdep ?ho ?hcd ?hb ?hl ?c1 ?c2 ?c3 ?c4 (fun h₁ F N => ?_)
  walk_at "ENTER"
  (try dsimp only)
  k_fold
  k_steps
  · have h : cst c d = 0 := by
      rename_i hq; rw [ch_beq] at hq; simp only [cst, if_pos (of_decide_eq_true hq)]
    rw [h] at ret
    exact ret _ _ _ (Fr.keep (by assumption))
  · rename ((Txt.lower (ch c) == Txt.lower (ch d)) = _) => hq
    rename ((ch c == ch d) = false) => hq0
    rw [lower_ch c hc, lower_ch d hd, ch_beq] at hq
    rw [ch_beq] at hq0
    have h : cst c d = 1 := by
      simp only [cst, if_neg (of_decide_eq_false hq0), if_pos (of_decide_eq_true hq)]
    rw [h] at ret
    exact ret _ _ _ (Fr.keep (by assumption))
  · rename ((Txt.lower (ch c) == Txt.lower (ch d)) = _) => hq
    rename ((ch c == ch d) = false) => hq0
    rw [lower_ch c hc, lower_ch d hd, ch_beq] at hq
    rw [ch_beq] at hq0
    have h : cst c d = 2 := by
      simp only [cst, if_neg (of_decide_eq_false hq0), if_neg (of_decide_eq_false hq)]
    rw [h] at ret
    exact ret _ _ _ (Fr.keep (by assumption))
end

end
section
section
variable {w : World} {mean : ExcName → Option Value} {mg mb : Str → Option Value} {A : Around} {s : Shared} {Q E : Value → Shared → Prop}
theorem c_spelled (l : Addr) (vs : List Value) (ns : List Int) (hl : s.heap.IsList l vs.toArray) (hi : IntsAre vs ns) (X : Amb w mean mg mb s.heap) (hdep : A.depth < recursionLimit) (hh : A.handled = none)
    (hr : ∀ n ∈ ns, IsSym n) (hlen : ns.length ≤ 3)
    (ret : ∀ t' h' tk', s.heap.StaysIn h' → Q (.str (tx (spell ns)) t') { s with heap := h', toks := tk' }) :
    wpAny (model pw w) A (call (.ref 135) [.ref l]) Q E s := by
  walk_at "FILL"
  obtain ⟨KX, T⟩ := X
  have hvl := hi.length
  refine' enterC [(Str.ofString "row", .ref l)] KX T hdep ?ho ?hcd ?hb ?hkd ?hnd ?c1 ?c2 ?c3 (fun h₁ tk cells F N Y => ?_)
  walk_at "ENTERC"
  k_cells Y
  walk_at "SHOW"
  k_fold
  walk_at "STEPS"
  walk_at "LCOMP"
  walk_at "STEPS"
  refine LCg.CompSrc.base hh (by k_asm) (by k_asm) (by assumption) (by rw [List.size_toArray, hvl, sizeLine_eq]; omega) ?_
  intro g'
  refine kct_list (fun k => tx (sg k)) hi (fun k' t' I' oI' C' oC' D' m' ys' h' tk' E' hk' hC' hx' F' N' off' ne' hMark' => ?_) ?_
  · simp only [LCg.Off3, and_true] at off'
    rcases hr k' hk' with hr' | hr'
    · k_fold
      k_steps
      exact kct_el (sign_of hr').symm rfl rfl
    · k_fold
      k_steps
      exact kct_el (letter_of hr').symm rfl rfl
  · intro ys hys hlen'
    walk_at "STEPS"
    refine KT.join_B 3 (by exact News.isList (by k_asm) (by k_mem)) hys (fun a ha => by show (tx (sg a)).length ≤ 3; rw [tx_len]; exact (sg_facts (hr a ha)).1) (by omega) (by decide) ?_
    intro t' k
    rw [show (ns.map fun k => tx (sg k)) = (ns.map sg).map tx by rw [List.map_map]; rfl, join_tx]
    k_steps
    exact ret _ _ _ (Fr.keep (by assumption))
end

end
section
inductive OctI (s : Shared) (n : Int) (k : Nat) (s₁ : Shared) : Prop
  | mk (h tk l m ep vs x t : _) (h0 : s₁ = { s with heap := h, toks := tk }) (h1 : Fr s.heap s.heap.objs.size h m) (h2 : News s.heap s.heap.objs.size h [(l, listOf vs ep)]) (h3 : m (Str.ofString "octets") = some (.ref l)) (h4 : m (Str.ofString "number") = some (.int x t)) (h5 : ((k = 1 ∧ x = 4 ∧ IntsAre vs.toList [n - 256]) ∨ (k = 0 ∧ x = 0 ∧ IntsAre vs.toList [68, n - 256])))
section
variable {w : World} {mean : ExcName → Option Value} {mg mb : Str → Option Value} {A : Around} {s : Shared} {Q E : Value → Shared → Prop}
end

end
section
noncomputable def flagData : List (Int × PyData) := [(1, .str (Str.ofString "OPTIMIZED")), (2, .str (Str.ofString "NEWLOCALS")), (4, .str (Str.ofString "VARARGS")), (8, .str (Str.ofString "VARKEYWORDS")), (16, .str (Str.ofString "NESTED")), (32, .str (Str.ofString "GENERATOR")), (64, .str (Str.ofString "NOFREE")), (128, .str (Str.ofString "COROUTINE")), (256, .str (Str.ofString "ITERABLE_COROUTINE")), (512, .str (Str.ofString "ASYNC_GENERATOR"))]
noncomputable def flagNames : List Str := [Str.ofString "OPTIMIZED", Str.ofString "NEWLOCALS", Str.ofString "VARARGS", Str.ofString "VARKEYWORDS", Str.ofString "NESTED", Str.ofString "GENERATOR", Str.ofString "NOFREE", Str.ofString "COROUTINE", Str.ofString "ITERABLE_COROUTINE", Str.ofString "ASYNC_GENERATOR"]
noncomputable def wordAt (i : Nat) : Str := if i < 10 then flagNames.getD i Str.empty else baseText "0x" 16 (2 ^ i)
theorem hex_len : ∀ i < 32, (baseText "0x" 16 (2 ^ i)).length ≤ 12 := by decide +kernel
theorem word_len : ∀ i < 32, (wordAt i).length ≤ 18 := by decide +kernel
theorem flag_at : ∀ i, i < 32 → PySem.Spec.lookup (.int (2 ^ i)) (flagData.map fun p => (PyData.int p.1, p.2)) = if i < 10 then some (.str (wordAt i)) else none
  | 0, _ => rfl
  | 1, _ => rfl
  | 2, _ => rfl
  | 3, _ => rfl
  | 4, _ => rfl
  | 5, _ => rfl
  | 6, _ => rfl
  | 7, _ => rfl
  | 8, _ => rfl
  | 9, _ => rfl
  | 10, _ => rfl
  | 11, _ => rfl
  | 12, _ => rfl
  | 13, _ => rfl
  | 14, _ => rfl
  | 15, _ => rfl
  | 16, _ => rfl
  | 17, _ => rfl
  | 18, _ => rfl
  | 19, _ => rfl
  | 20, _ => rfl
  | 21, _ => rfl
  | 22, _ => rfl
  | 23, _ => rfl
  | 24, _ => rfl
  | 25, _ => rfl
  | 26, _ => rfl
  | 27, _ => rfl
  | 28, _ => rfl
  | 29, _ => rfl
  | 30, _ => rfl
  | 31, _ => rfl
  | n + 32, h => absurd h (by omega)
section
variable {w : World} {A : Around} {s : Shared} {Q E : Value → Shared → Prop}
theorem get_flag {i : Nat} {t u : Tok} (K : KTD.Keyed s.heap 15 flagData) (hi : i < 32) (h : ∀ t, Q (.str (wordAt i) t) { s with toks := s.toks + 1 }) :
    wpAny (model pw w) A (call (.builtin "dict.get") [.ref 15, .int (2 ^ i) t, .str (baseText "0x" 16 (2 ^ i)) u]) Q E s := by
  have e := flag_at i hi
  by_cases h10 : i < 10
  · rw [if_pos h10] at e
    refine kt_get2_thereI (K pw w) e (.str _ _) fun v hv => ?_
    dict_open hv; exact h _
  · rw [if_neg h10] at e
    refine kt_get2_noneI (K pw w) e (.str _ _) fun v hv => ?_
    dict_open hv
    have e2 : wordAt i = baseText "0x" 16 (2 ^ i) := by unfold wordAt; rw [if_neg h10]
    rw [e2] at h
    exact h _
end
/-- the words of the set flags below i -/
noncomputable def setBits (F i : Nat) : List Nat := (List.range i).filter fun k => F.testBit k
theorem setBits_succ (F i : Nat) : setBits F (i + 1) = if F.testBit i then setBits F i ++ [i] else setBits F i := by
  unfold setBits
  rw [List.range_succ, List.filter_append]
  split
  · rename_i h; rw [List.filter_cons_of_pos (by simpa using h)]; rfl
  · rename_i h; rw [List.filter_cons_of_neg (by simpa using h), List.filter_nil, List.append_nil]
theorem setBits_len (F i : Nat) : (setBits F i).length ≤ i := by
  have := List.length_filter_le (fun k => F.testBit k) (List.range i)
  rw [List.length_range] at this; exact this
theorem setBits_lt {F i k : Nat} (h : k ∈ setBits F i) : k < i := List.mem_range.mp (List.mem_filter.mp h).1
theorem setBits_low {F i j : Nat} (h : F / 2 ^ i = 0) (hij : i ≤ j) : setBits F j = setBits F i := by
  induction j with
  | zero => rw [Nat.le_zero.mp hij]
  | succ j ih =>
    rcases Nat.eq_or_lt_of_le hij with rfl | hlt
    · rfl
    · rw [setBits_succ, ih (Nat.le_of_lt_succ hlt), if_neg]
      have hF : F < 2 ^ i := (Nat.div_eq_zero_iff.mp h).resolve_left (Nat.ne_of_gt (Nat.two_pow_pos i))
      have hF2 : F < 2 ^ j := Nat.lt_of_lt_of_le hF (Nat.pow_le_pow_right (by decide) (Nat.le_of_lt_succ hlt))
      rw [Nat.testBit_lt_two_pow hF2]; decide
/-- the flags from i up -/
noncomputable def upFlags (F i : Nat) : Nat := F / 2 ^ i * 2 ^ i
theorem up_bit (F i : Nat) : (upFlags F i).testBit i = F.testBit i := by
  unfold upFlags
  rw [Nat.testBit_mul_two_pow, Nat.testBit_div_two_pow]
  simp
theorem and_pow (n i : Nat) : n &&& 2 ^ i = if n.testBit i then 2 ^ i else 0 := by
  apply Nat.eq_of_testBit_eq
  intro j
  rw [Nat.testBit_and, Nat.testBit_two_pow]
  by_cases h : i = j
  · subst h
    cases hb : n.testBit i <;> simp [Nat.testBit_two_pow]
  · cases hb : n.testBit i <;> simp [h, Nat.testBit_two_pow]
theorem up_and (F i : Nat) : Builtin.bitAnd ((upFlags F i : Nat) : Int) ((2 : Int) ^ i) = if F.testBit i then (2 : Int) ^ i else 0 := by
  have e : ((2 : Int) ^ i) = ((2 ^ i : Nat) : Int) := by simp
  rw [e, bitAnd_pp (Int.natCast_nonneg _) (Int.natCast_nonneg _), Int.toNat_natCast, Int.toNat_natCast, and_pow, up_bit]
  cases F.testBit i <;> simp
theorem up_next (F i : Nat) : upFlags F (i + 1) = if F.testBit i then upFlags F i - 2 ^ i else upFlags F i := by
  have h1 : F / 2 ^ (i + 1) = F / 2 ^ i / 2 := by rw [Nat.pow_succ, Nat.div_div_eq_div_mul]
  have h2 : F.testBit i = decide (F / 2 ^ i % 2 = 1) := by rw [Nat.testBit_eq_decide_div_mod_eq]
  unfold upFlags
  rw [h1, h2, Nat.pow_succ]
  generalize F / 2 ^ i = q
  have hq := Nat.div_add_mod q 2
  by_cases h : q % 2 = 1
  · rw [if_pos (by simpa using h)]
    have e3 : q / 2 * (2 ^ i * 2) = (q / 2 * 2) * 2 ^ i := by rw [Nat.mul_comm (2 ^ i) 2, Nat.mul_assoc]
    rw [e3, show q / 2 * 2 = q - 1 by omega, Nat.sub_mul, Nat.one_mul]
  · rw [if_neg (by simpa using h)]
    have e3 : q / 2 * (2 ^ i * 2) = (q / 2 * 2) * 2 ^ i := by rw [Nat.mul_comm (2 ^ i) 2, Nat.mul_assoc]
    rw [e3, show q / 2 * 2 = q by omega]
theorem up_xor (F i : Nat) (h : F.testBit i = true) : Builtin.bitXor ((upFlags F i : Nat) : Int) ((2 : Int) ^ i) = ((upFlags F (i + 1) : Nat) : Int) := by
  have hand := up_and F i
  rw [if_pos h] at hand
  unfold Builtin.bitXor
  rw [bitOr_and, hand, up_next, if_pos h]
  have e : ((2 : Int) ^ i) = ((2 ^ i : Nat) : Int) := by simp
  have hle : 2 ^ i ≤ upFlags F i := by
    have h2 : F / 2 ^ i % 2 = 1 := by
      rw [Nat.testBit_eq_decide_div_mod_eq] at h; exact of_decide_eq_true h
    unfold upFlags
    have : 1 ≤ F / 2 ^ i := Nat.one_le_iff_ne_zero.mpr fun h0 => by rw [h0] at h2; exact absurd h2 (by decide)
    calc 2 ^ i = 1 * 2 ^ i := (Nat.one_mul _).symm
      _ ≤ _ := Nat.mul_le_mul_right _ this
  rw [e]
  generalize 2 ^ i = z at *
  generalize upFlags F i = y at *
  clear hand e
  omega
section
variable {w : World} {A : Around} {s : Shared} {Q E : Value → Shared → Prop}
theorem pow_shape {z : Int} : (1 : Int) * 2 ^ z.toNat = 2 ^ z.toNat := Int.one_mul _
theorem hex_pow {z : Int} {t : Tok} (hi : z.toNat < 32) (h : Q (.str (baseText "0x" 16 (1 * 2 ^ z.toNat)) s.toks) { s with toks := s.toks + 1 }) :
    wpAny (model pw w) A (call (.builtin "hex") [.int (1 * 2 ^ z.toNat) t]) Q E s :=
  P.hex_of_int h (hsz := by have := hex_len _ hi; rw [pow_shape, sizeLine_eq]; omega)
theorem get_pow {z : Int} {t u : Tok} (K : KTD.Keyed s.heap 15 flagData) (hi : z.toNat < 32) (h : ∀ t, Q (.str (wordAt z.toNat) t) { s with toks := s.toks + 1 }) :
    wpAny (model pw w) A (call (.builtin "dict.get") [.ref 15, .int (1 * 2 ^ z.toNat) t, .str (baseText "0x" 16 (1 * 2 ^ z.toNat)) u]) Q E s := by
  rw [pow_shape]; exact get_flag K hi h
end
section
variable {prog : Program} {w : World} {A : Around} {E : Value → Shared → Prop} {s : Shared} {Q : Value → Shared → Prop}
theorem sum_words : ∀ (l : List Nat), (∀ k ∈ l, k < 32) → ((l.map wordAt).map (·.length)).sum ≤ 18 * l.length
  | [], _ => Nat.le_refl _
  | k :: l, h => by
    have h1 := word_len k (h k List.mem_cons_self)
    have h2 := sum_words l fun j hj => h j (List.mem_cons_of_mem _ hj)
    simp only [List.map_cons, List.sum_cons, List.length_cons]
    omega
theorem join_words {D : Addr} {items : Array Value} {l : List Nat} {t : Tok} (hl : s.heap.IsList D items) (hi : StrsAre items.toList (l.map wordAt)) (hk : ∀ k ∈ l, k < 32) (hn : l.length ≤ 32)
    (h : ∀ t' k, Q (.str (Txt.join (Str.ofString ", ") (l.map wordAt)) t') { s with toks := k }) : wpAny (model prog w) A (call (.builtin "str.join") [.str (Str.ofString ", ") t, .ref D]) Q E s := by
  have h1 := sum_words l hk
  have h2 : (Str.ofString ", ").length = 2 := by decide +kernel
  exact join_list hl hi (by rw [h2, List.length_map]; omega) h
end

end
section
section
variable {w : World} {mean : ExcName → Option Value} {mg mb : Str → Option Value} {A : Around} {s : Shared} {Q E : Value → Shared → Prop}
inductive PrI (F : Nat) (i : Nat) (m : Str → Option Value) (news : List (Addr × Obj)) : Prop
  | mk (r ys ep t : _) (h0 : news = [(r, listOf (List.toArray ys) ep)]) (h1 : m (Str.ofString "names") = some (.ref r)) (h2 : m (Str.ofString "flags") = some (.int ((upFlags F i : Nat) : Int) t)) (h3 : ys.length ≤ i) (h4 : StrsAre ys ((setBits F i).map wordAt)) (h5 : upFlags F i ≠ 0)
local macro_rules | `(tactic| walk_at "call builtin:hex") => `(tactic| (k_here; refine hex_pow (by omega) ?_))
local macro_rules | `(tactic| walk_at "call builtin:dict.get") => `(tactic| (k_here; refine get_pow (KTD.Keyed.keep (by assumption) (Fr.keep (by assumption))) (by omega) (fun t => ?_)))
theorem strs_app : ∀ {a b : List Value} {x y : List Str}, StrsAre a x → StrsAre b y → StrsAre (a ++ b) (x ++ y)
  | _, _, _, _, .nil, h => h
  | _, _, _, _, .cons u v h, h' => .cons u v (strs_app h h')
theorem c_pretty (F : Nat) (t : Tok) (hF : F ≠ 0) (hF2 : F < 2 ^ 31) (X : Amb w mean mg mb s.heap) (hdep : A.depth + 1 < recursionLimit) (hh : A.handled = none)
    (ret : ∀ t' h' tk', s.heap.StaysIn h' → Q (.str (Txt.join (Str.ofString ", ") ((setBits F 31).map wordAt)) t') { s with heap := h', toks := tk' }) :
    wpAny (model pw w) A (call (.ref 22) [.int (F : Int) t]) Q E s := by
  walk_at "FILL"
  have KX := X.kx
  have T := X.top
  have e0 : upFlags F 0 = F := by simp [upFlags]
  have hK : KTD.Keyed s.heap 15 flagData := kt_keyed_in KX (by kernel_rfl)
  refine' enterP [(Str.ofString "flags", .int (F : Int) t)] KX T (by omega) ?ho ?hcd ?hb ?hl ?c1 ?c2 ?c3 ?c4 (fun h₁ F N => ?_)
  walk_at "ENTER"
  walk_at "SHOW"
  k_fold
  walk_at "STEPS"
  refine forN s.heap (PrI F) (by rfl) (by rfl) ?_
  walk_at "SHOW"
  k_fold
  walk_at "STEPS"
  refine iter_range (n := 32) hh (by assumption) (small_one (by omega) (by omega) (by omega) (by omega)) (by rw [rangeSize_one]; rfl) (by assumption) (by assumption) (fun it h' hit F' N hoff => ?_)
  refine ⟨_, _, _, _, _, hit, F', N, hoff, (fun _ h => nomatch h), ⟨_, [], _, _, rfl, rfl, by rw [e0]; rfl, Nat.le_refl _, .nil, by rw [e0]; exact hF⟩, ?_, ?_⟩
  · rintro i v m₁ news₁ h₁ tk I oI hi ⟨tv, rfl⟩ ⟨r, ys, ep, x, rfl, e1, e2, hyl, hc, hne⟩ F' N off fx
    have F' := fs2 F' e1 e2
    have pe : (1 : Int) * 2 ^ (0 + (i : Int)).toNat = 2 ^ i := by rw [Int.one_mul, show (0 + (i : Int)).toNat = i by omega]
    simp only [List.forall_mem_cons] at off
    have o1 : @Ne Nat r I := off.1
    walk_at "SHOW"
    k_fold
    walk_at "STEPS"
    · rename (Builtin.bitAnd _ _ ≠ 0) => hb
      rename (Builtin.bitXor _ _ ≠ 0) => hx
      have hbit : F.testBit i = true := by
        rw [pe, up_and] at hb
        cases h : F.testBit i
        · rw [h] at hb; exact absurd rfl hb
        · rfl
      have ex : Builtin.bitXor ((upFlags F i : Nat) : Int) (1 * 2 ^ (0 + (i : Int)).toNat) = ((upFlags F (i + 1) : Nat) : Int) := by rw [pe]; exact up_xor F i hbit
      rw [ex] at hx
      refine ⟨_, _, _, _, rfl, by assumption, cb_drop (by assumption) (by kcf_all), fun p hp => ?_, (fun _ h => nomatch h), ⟨r, _, _, _, rfl, rfl, congrArg (fun z => some (Value.int z _)) ex, ?_, ?_, ?_⟩⟩
      · rw [List.mem_singleton.mp hp]; exact o1
      · rw [List.concat_eq_append, List.length_append]
        exact Nat.add_le_add_right hyl 1
      · rw [List.concat_eq_append, setBits_succ, if_pos hbit, List.map_append, show (0 + (i : Int)).toNat = i by omega]
        exact strs_app hc (.cons _ _ .nil)
      · intro h0; rw [h0] at hx; exact hx rfl
    · rename (Builtin.bitAnd _ _ ≠ 0) => hb
      rename (Builtin.bitXor _ _ = 0) => hx
      have hbit : F.testBit i = true := by
        rw [pe, up_and] at hb
        cases h : F.testBit i
        · rw [h] at hb; exact absurd rfl hb
        · rfl
      have ex : Builtin.bitXor ((upFlags F i : Nat) : Int) (1 * 2 ^ (0 + (i : Int)).toNat) = ((upFlags F (i + 1) : Nat) : Int) := by rw [pe]; exact up_xor F i hbit
      rw [ex] at hx
      have hi30 : i < 31 := by
        refine Nat.lt_of_not_le fun h31 => ?_
        rw [Nat.testBit_lt_two_pow (Nat.lt_of_lt_of_le hF2 (Nat.pow_le_pow_right (by decide) h31))] at hbit
        cases hbit
      have hz : F / 2 ^ (i + 1) = 0 := by
        have h0 : upFlags F (i + 1) = 0 := by omega
        unfold upFlags at h0
        exact (Nat.mul_eq_zero.mp h0).resolve_right (Nat.ne_of_gt (Nat.two_pow_pos _))
      have hs31 := setBits_low hz (show i + 1 ≤ 31 by omega)
      rw [hs31] at ret
      show wpAny _ _ _ _ _ _
      walk_at "STEPS"
      refine join_words (News.isList (by assumption) (by k_mem)) (l := setBits F (i + 1)) ?_ (fun k hk => by have := setBits_lt hk; omega) (by have := setBits_len F (i + 1); omega) ?_
      · show StrsAre (ys.toArray.toList.concat _) _
        rw [List.concat_eq_append, setBits_succ, if_pos hbit, List.map_append, show (0 + (i : Int)).toNat = i by omega]
        exact strs_app hc (.cons _ _ .nil)
      · intro t' k
        walk_at "STEPS"
        exact ret _ _ _ (Fr.keep (by assumption))
    · rename (Builtin.bitAnd _ _ = 0) => hb
      have hbit : F.testBit i = false := by
        rw [pe, up_and] at hb
        cases h : F.testBit i
        · rfl
        · rw [h, if_pos rfl] at hb
          exact absurd hb (Int.ne_of_gt (Int.pow_pos (by decide)))
      have eu : upFlags F (i + 1) = upFlags F i := by rw [up_next, hbit]; rfl
      refine ⟨_, _, _, _, rfl, by assumption, cb_drop (by assumption) (by kcf_all), fun p hp => ?_, (fun _ h => nomatch h), ⟨r, _, _, _, rfl, rfl, by rw [eu]; rfl, ?_, ?_, by rw [eu]; exact hne⟩⟩
      · rw [List.mem_singleton.mp hp]; exact o1
      · exact Nat.le_succ_of_le hyl
      · rw [setBits_succ, hbit]; exact hc
  · rintro m₁ news₁ h₁ tk₁ ⟨r, ys, ep, x, rfl, e1, e2, hyl, hc, hne⟩ F' N fx
    exfalso
    apply hne
    unfold upFlags
    rw [Nat.div_eq_of_lt (Nat.lt_trans hF2 (by decide)), Nat.zero_mul]
end

end
section
/-- the octet k of N -/
noncomputable def dig (N k : Nat) : Nat := N / 64 ^ k % 64
noncomputable def flagsTo (N : Nat) : Nat → Nat
  | 0 => 0
  | k + 1 => if dig N k = 0 then flagsTo N k else flagsTo N k + 2 ^ k
theorem flagsTo_lt (N : Nat) : ∀ k, flagsTo N k < 2 ^ k
  | 0 => Nat.one_pos
  | k + 1 => by
    have h := flagsTo_lt N k
    have e : 2 ^ (k + 1) = 2 ^ k + 2 ^ k := by rw [Nat.pow_succ]; omega
    unfold flagsTo
    split <;> omega
theorem dig_bits (N k : Nat) : Builtin.bitAnd (((N : Nat) : Int).fdiv (2 ^ ((6 : Int) * (0 + (k : Int))).toNat)) 63 = ((dig N k : Nat) : Int) := by
  have e1 : ((6 : Int) * (0 + (k : Int))).toNat = 6 * k := by omega
  have e2 : (2 : Int) ^ (6 * k) = ((64 ^ k : Nat) : Int) := by
    rw [Int.natCast_pow, Int.pow_mul]; rfl
  rw [e1, e2, Int.fdiv_eq_ediv_of_nonneg _ (Int.natCast_nonneg _), ← Int.natCast_ediv, bitAnd_pp (Int.natCast_nonneg _) (by decide), Int.toNat_natCast]
  show ((N / 64 ^ k &&& (2 ^ 6 - 1) : Nat) : Int) = _
  rw [Nat.and_two_pow_sub_one_eq_mod]; rfl
theorem or_flag (N k : Nat) : Builtin.bitOr ((flagsTo N k : Nat) : Int) (1 * 2 ^ (0 + (k : Int)).toNat) = ((flagsTo N k + 2 ^ k : Nat) : Int) := by
  have e1 : (0 + (k : Int)).toNat = k := by omega
  have e : (1 : Int) * 2 ^ k = ((2 ^ k : Nat) : Int) := by simp
  rw [e1, e, bitOr_and, bitAnd_pp (Int.natCast_nonneg _) (Int.natCast_nonneg _), Int.toNat_natCast, Int.toNat_natCast, and_pow, Nat.testBit_lt_two_pow (flagsTo_lt N k)]
  simp
theorem flagsTo_bit (N : Nat) : ∀ {n k : Nat}, k < n → (flagsTo N n).testBit k = decide (dig N k ≠ 0)
  | n + 1, k, h => by
    unfold flagsTo
    have hlt := flagsTo_lt N n
    rcases Nat.lt_succ_iff_lt_or_eq.mp h with hk | rfl
    · have ih := flagsTo_bit N hk
      split
      · exact ih
      · rw [Nat.add_comm, Nat.testBit_two_pow_add_gt hk]; exact ih
    · by_cases h0 : dig N k = 0
      · rw [if_pos h0, Nat.testBit_lt_two_pow hlt]; simp [h0]
      · rw [if_neg h0, Nat.add_comm, Nat.testBit_two_pow_add_eq, Nat.testBit_lt_two_pow hlt]; simp [h0]
theorem flags_set (N : Nat) : setBits (flagsTo N 31) 31 = (List.range 31).filter fun k => decide (dig N k ≠ 0) := by
  unfold setBits
  refine List.filter_congr fun k hk => ?_
  exact flagsTo_bit N (List.mem_range.mp hk)
theorem flagsTo_zero (N : Nat) {n k : Nat} (h : k < n) (hd : dig N k ≠ 0) : flagsTo N n ≠ 0 := fun h0 => by
  have := flagsTo_bit N h
  rw [h0, Nat.zero_testBit] at this
  simp [hd] at this

end
section
section
variable {w : World} {mean : ExcName → Option Value} {mg mb : Str → Option Value} {A : Around} {s : Shared} {Q E : Value → Shared → Prop}
inductive ToI (N : Nat) (i : Nat) (m : Str → Option Value) (news : List (Addr × Obj)) : Prop
  | mk (t u : _) (h0 : news = []) (h1 : m (Str.ofString "number") = some (.int ((N : Nat) : Int) t)) (h2 : m (Str.ofString "flags") = some (.int ((flagsTo N i : Nat) : Int) u))
local macro_rules | `(tactic| walk_at "call ref") => `(tactic| (k_here; k_dflt (first
  | (refine' c_mul _ _ _ _ (IntMulOk.of_left (by decide)) ?X ?hdep ?_; (case X => walk_at "AMB"); (case hdep => walk_at "DEP"))
  | (refine' c_rshift _ _ _ _ (by omega) (by walk_at "AMB") (by walk_at "DEP") ?_)
  | (refine' c_and _ _ _ _ (by walk_at "AMB") (by walk_at "DEP") ?_)
  | (refine' c_or _ _ _ _ (by walk_at "AMB") (by walk_at "DEP") ?_)
  | (refine' c_lshift _ _ _ _ (by omega) (by omega) (by decide) (by walk_at "AMB") (by walk_at "DEP") ?_)
  | (refine' c_pretty _ _ (by assumption) (by exact flagsTo_lt _ 31) (by walk_at "AMB") (by walk_at "DEP") (by assumption) ?_)); intro t' h' tk' hk'; walk_at "BACK"))
theorem c_totals (V : Nat) (t : Tok) (hF : flagsTo V 31 ≠ 0) (X : Amb w mean mg mb s.heap) (hdep : A.depth + 2 < recursionLimit) (hh : A.handled = none)
    (ret : ∀ t' h' tk', s.heap.StaysIn h' → Q (.str (Txt.join (Str.ofString ", ") (((List.range 31).filter fun k => decide (dig V k ≠ 0)).map wordAt)) t') { s with heap := h', toks := tk' }) :
    wpAny (model pw w) A (call (.ref 193) [.int (V : Int) t]) Q E s := by
  rw [← flags_set] at ret
  walk_at "FILL"
  have KX := X.kx
  have T := X.top
  refine' enterP [(Str.ofString "number", .int (V : Int) t)] KX T (by omega) ?ho ?hcd ?hb ?hl ?c1 ?c2 ?c3 ?c4 (fun h₁ F N => ?_)
  walk_at "ENTER"
  walk_at "SHOW"
  k_fold
  walk_at "STEPS"
  refine forN s.heap (ToI V) (by rfl) (by rfl) ?_
  walk_at "SHOW"
  k_fold
  walk_at "STEPS"
  refine iter_range (n := 31) hh (by assumption) (small_one (by omega) (by omega) (by omega) (by omega)) (by rw [rangeSize_one]; rfl) (by assumption) (by assumption) (fun it h' hit F' N' hoff => ?_)
  refine ⟨_, _, _, _, _, hit, F', N', hoff, (fun _ h => nomatch h), ⟨_, _, rfl, rfl, rfl⟩, ?_, ?_⟩
  · rintro i v m₁ news₁ h₁ tk I oI hi ⟨tv, rfl⟩ ⟨t1, u1, rfl, e1, e2⟩ F' N' off fx
    have F' := fs2 F' e1 e2
    have hd := dig_bits V i
    have ho := or_flag V i
    walk_at "SHOW"
    k_fold
    walk_at "STEPS"
    · rename (Builtin.bitAnd _ _ ≠ 0) => hb
      rw [hd] at hb
      have hb : dig V i ≠ 0 := fun h => hb (by rw [h]; rfl)
      have eu : Builtin.bitOr ((flagsTo V i : Nat) : Int) (1 * 2 ^ (0 + (i : Int)).toNat) = ((flagsTo V (i + 1) : Nat) : Int) := by
        rw [ho]
        show _ = (((if dig V i = 0 then flagsTo V i else flagsTo V i + 2 ^ i : Nat)) : Int)
        rw [if_neg hb]
      exact ⟨_, _, _, _, rfl, by assumption, cb_drop (by assumption) (by kcf_all), (by intro p hp; cases hp), (fun _ h => nomatch h), ⟨_, _, rfl, rfl, congrArg (fun z => some (Value.int z _)) eu⟩⟩
    · rename (Builtin.bitAnd _ _ = 0) => hb
      rw [hd] at hb
      have hb : dig V i = 0 := by omega
      have eu : ((flagsTo V i : Nat) : Int) = ((flagsTo V (i + 1) : Nat) : Int) := by
        show _ = (((if dig V i = 0 then flagsTo V i else flagsTo V i + 2 ^ i : Nat)) : Int)
        rw [if_pos hb]
      exact ⟨_, _, _, _, rfl, by assumption, cb_drop (by assumption) (by kcf_all), (by intro p hp; cases hp), (fun _ h => nomatch h), ⟨_, _, rfl, rfl, congrArg (fun z => some (Value.int z _)) eu⟩⟩
  · rintro m₁ news₁ h₁ tk₁ ⟨t1, u1, rfl, e1, e2⟩ F' N' fx
    have F' := fr2 F' e1 e2
    walk_at "SHOW"
    k_fold
    walk_at "STEPS"
    exact ret _ _ _ (Fr.keep (by assumption))
end

end
section
local macro_rules | `(tactic| k_all) => `(tactic| assumption)
local macro_rules | `(tactic| walk_at "subscriptTail") => `(tactic| (k_here; walk_at "ITEM?"; k_dflt (refine' item_grid (by k_asm) (by assumption) (by omega) (by omega) (by omega) ?_ (by with_unfolding_all rfl); intro r' vs' hr' hi' hl')))
theorem allLt_ne {d : Nat} : ∀ {rest : List (Addr × Obj)}, AllLt d rest → ∀ p ∈ rest, @Ne Nat p.1 d
  | [], _, _, h => nomatch h
  | q :: r, x, p, h => by
    rcases List.mem_cons.mp h with rfl | h
    · exact Nat.ne_of_lt x.1
    · exact allLt_ne x.2 p h
local macro_rules | `(tactic| walk_at "call ref") => `(tactic| (k_here; k_dflt (first
  | (refine' c_neg _ _ (by walk_at "AMB") (by walk_at "DEP") ?_)
  | (refine' c_add _ _ _ _ (by walk_at "AMB") (by walk_at "DEP") ?_)); intro t' h' tk' hk'; walk_at "BACK"))
noncomputable def cellTo (f : Nat → Nat → Int) (a : Nat) : Nat → Int
  | 0 => 0
  | k + 1 => if k = a then cellTo f a k else cellTo f a k + f a k
noncomputable def cellAt (f : Nat → Nat → Int) (a b : Nat) : Int := if a = b then cellTo f a 4 else -(f a b)
/-- the places below k that ns does not strike -/
noncomputable def leftTo (ns : List Int) (k : Nat) : List Nat := (List.range k).filter fun a => !(ns.any fun x => x == (a : Int))
theorem leftTo_succ (ns : List Int) (k : Nat) : leftTo ns (k + 1) = if (ns.any fun x => x == 0 + (k : Int)) = true then leftTo ns k else leftTo ns k ++ [k] := by
  unfold leftTo
  rw [List.range_succ, List.filter_append, Int.zero_add]
  split
  · rename_i h; rw [List.filter_cons_of_neg (by simpa using h), List.filter_nil, List.append_nil]
  · rename_i h; rw [List.filter_cons_of_pos (by rw [Bool.eq_false_iff.mpr h]; rfl)]; rfl
theorem leftTo_len (ns : List Int) (k : Nat) : (leftTo ns k).length ≤ k := by
  have := List.length_filter_le (fun a : Nat => !(ns.any fun x => x == (a : Int))) (List.range k)
  rw [List.length_range] at this; exact this
theorem getD_app {α : Type} (a b : List α) (d : α) {j : Nat} (h : j < a.length) : (a ++ b).getD j d = a.getD j d := by
  rw [List.getD_eq_getElem?_getD, List.getD_eq_getElem?_getD, List.getElem?_append_left h]
theorem getD_end {α : Type} (a : List α) (x d : α) {j : Nat} (h : j = a.length) : (a ++ [x]).getD j d = x := by
  subst h
  rw [List.getD_eq_getElem?_getD, List.getElem?_append_right (Nat.le_refl _), Nat.sub_self]; rfl
theorem map_range_getD (l : List Nat) (g : Nat → Int) : (List.range l.length).map (fun j => g (l.getD j 0)) = l.map g := by
  apply List.ext_getElem
  · simp
  · intro i h1 h2
    simp at h1
    simp [List.getD, h1]
section
variable {w : World} {mean : ExcName → Option Value} {mg mb : Str → Option Value} {A : Around} {s : Shared} {Q E : Value → Shared → Prop}
inductive StO (f : Nat → Nat → Int) (nr nc : List Int) (lw lr lc : Addr) (i : Nat) (m : Str → Option Value) (news : List (Addr × Obj)) : Prop
  | mk (T : Addr) (rs : List Addr) (ep : Nat) (rest : List (Addr × Obj)) (h0 : news = (T, listOf (List.toArray (rs.map Value.ref)) ep) :: rest) (h1 : (∀ p ∈ rest, @Ne Nat p.1 T)) (h2 : rs.length = (leftTo nr i).length) (h3 : (∀ j, j < (leftTo nr i).length → ∃ vs c, (rs.getD j 0, listOf (List.toArray vs) c) ∈ rest ∧ IntsAre vs ((leftTo nc 4).map (cellAt f ((leftTo nr i).getD j 0))))) (h4 : m (Str.ofString "table") = some (.ref T)) (h5 : m (Str.ofString "weights") = some (.ref lw)) (h6 : m (Str.ofString "rows") = some (.ref lr)) (h7 : m (Str.ofString "columns") = some (.ref lc))
inductive StI (f : Nat → Nat → Int) (nc : List Int) (lw lr lc T : Addr) (a : Nat) (ta : Tok) (rest : List (Addr × Obj)) (k : Nat) (m : Str → Option Value) (news : List (Addr × Obj)) : Prop
  | mk (l : Addr) (ys : List Value) (ep : Nat) (h0 : news = (l, listOf (List.toArray ys) ep) :: rest) (h1 : (∀ p ∈ rest, @Ne Nat p.1 l)) (h2 : IntsAre ys ((leftTo nc k).map (cellAt f a))) (h3 : m (Str.ofString "line") = some (.ref l)) (h4 : m (Str.ofString "table") = some (.ref T)) (h5 : m (Str.ofString "weights") = some (.ref lw)) (h6 : m (Str.ofString "rows") = some (.ref lr)) (h7 : m (Str.ofString "columns") = some (.ref lc)) (h8 : m (Str.ofString "a") = some (.int (0 + (a : Int)) ta))
inductive StC (f : Nat → Nat → Int) (lw lr lc T l : Addr) (a : Nat) (ta : Tok) (N₃ : List (Addr × Obj)) (k : Nat) (m : Str → Option Value) (news : List (Addr × Obj)) : Prop
  | mk (t : Tok) (h0 : news = N₃) (h1 : m (Str.ofString "cell") = some (.int (cellTo f a k) t)) (h2 : m (Str.ofString "line") = some (.ref l)) (h3 : m (Str.ofString "table") = some (.ref T)) (h4 : m (Str.ofString "weights") = some (.ref lw)) (h5 : m (Str.ofString "rows") = some (.ref lr)) (h6 : m (Str.ofString "columns") = some (.ref lc)) (h7 : m (Str.ofString "a") = some (.int (0 + (a : Int)) ta))
theorem c_struck (f : Nat → Nat → Int) (lw lr lc : Addr) (vr vc : List Value) (nr nc : List Int) (hw : Grid s.heap lw 4 4 f) (hr : s.heap.IsList lr vr.toArray) (hri : IntsAre vr nr) (hc : s.heap.IsList lc vc.toArray) (hci : IntsAre vc nc) (hnr : nr.length ≤ 2) (hnc : nc.length ≤ 2)
    (X : Amb w mean mg mb s.heap) (hdep : A.depth + 1 < recursionLimit) (hh : A.handled = none)
    (ret : ∀ D h' tk', s.heap.StaysIn h' → Grid h' D (leftTo nr 4).length (leftTo nc 4).length (fun i j => cellAt f ((leftTo nr 4).getD i 0) ((leftTo nc 4).getD j 0)) → Q (.ref D) { s with heap := h', toks := tk' }) :
    wpAny (model pw w) A (call (.ref 181) [.ref lw, .ref lr, .ref lc]) Q E s := by
  walk_at "FILL"
  have KX := X.kx
  have T := X.top
  have hvr := hri.length
  have hvc := hci.length
  refine' enterP [(Str.ofString "weights", .ref lw), (Str.ofString "rows", .ref lr), (Str.ofString "columns", .ref lc)] KX T (by omega) ?ho ?hcd ?hb ?hl ?c1 ?c2 ?c3 ?c4 (fun h₁ F N => ?_)
  walk_at "ENTER"
  walk_at "SHOW"
  k_fold
  walk_at "STEPS"
  refine forN s.heap (StO f nr nc lw lr lc) (by rfl) (by rfl) ?_
  walk_at "SHOW"
  k_fold
  walk_at "STEPS"
  refine iter_range (n := 4) hh (by assumption) (small_one (by omega) (by omega) (by omega) (by omega)) (by rw [rangeSize_one]; rfl) (by assumption) (by assumption) (fun it h' hit F N hoff => ?_)
  refine ⟨_, _, _, _, _, hit, F, N, hoff, (fun _ h => nomatch h), ⟨_, [], _, [], rfl, (fun _ h => nomatch h), rfl, (fun j h => absurd h (Nat.not_lt_zero _)), rfl, rfl, rfl, rfl⟩, ?_, ?_⟩
  · rintro i v m₁ news₁ h₁ tk I oI hi ⟨tv, rfl⟩ ⟨T, rs, ep, rest, rfl, hTr, hrl, hrow, e1, e2, e3, e4⟩ F N off fx
    have F := fs4 F e1 e2 e3 e4
    rw [List.forall_mem_cons] at off
    obtain ⟨off1, off2⟩ := off
    have o1 : @Ne Nat T I := off1
    walk_at "SHOW"
    k_fold
    walk_at "STEPS"
    · rename ((List.any _ _) = true) => ha
      refine ⟨_, _, _, _, rfl, by assumption, cb_drop (by assumption) (by kcf_all), ?_, (fun _ h => nomatch h), ⟨T, rs, _, rest, rfl, hTr, ?_, ?_, rfl, rfl, rfl, rfl⟩⟩
      · exact List.forall_mem_cons.mpr ⟨off1, off2⟩
      · rw [leftTo_succ, if_pos ha]; exact hrl
      · rw [leftTo_succ, if_pos ha]; exact hrow
    · rename ((List.any _ _) = false) => ha
      refine forN s.heap (StI f nc lw lr lc T i tv ((I, oI) :: (T, listOf (List.toArray (rs.map Value.ref)) ep) :: rest)) (by rfl) (by rfl) ?_
      walk_at "SHOW"
      k_fold
      walk_at "STEPS"
      refine iter_range (n := 4) hh (by assumption) (small_one (by omega) (by omega) (by omega) (by omega)) (by rw [rangeSize_one]; rfl) (by assumption) (by assumption) (fun it h' hit F N hoff => ?_)
      refine ⟨_, _, _, _, _, hit, F, N, hoff, (fun _ h => nomatch h), ⟨_, [], _, rfl, ?_, .nil, rfl, rfl, rfl, rfl, rfl, rfl⟩, ?_, ?_⟩
      · rename (_ ∧ _ ∧ AllLt _ rest) => hlt
        exact List.forall_mem_cons.mpr ⟨Nat.ne_of_lt hlt.1, List.forall_mem_cons.mpr ⟨Nat.ne_of_lt hlt.2.1, allLt_ne hlt.2.2⟩⟩
      · rintro k v m₂ news₂ h₂ tk₂ I₂ oI₂ hk ⟨tv₂, rfl⟩ ⟨l, ys, ep₂, rfl, hlr, hys, g1, g2, g3, g4, g5, g6⟩ F N off₂ fx₂
        have F := fs6 F g1 g2 g3 g4 g5 g6
        rw [List.forall_mem_cons] at off₂
        obtain ⟨off3, off4⟩ := off₂
        have o3 : @Ne Nat l I₂ := off3
        have hyl : ys.length ≤ k := by rw [hys.length, List.length_map]; exact leftTo_len nc k
        have nk : (0 + (k : Int)).toNat = k := by omega
        have ni : (0 + (i : Int)).toNat = i := by omega
        walk_at "SHOW"
        k_fold
        walk_at "STEPS"
        · rename ((List.any _ _) = true) => hb
          refine ⟨_, _, _, _, rfl, by assumption, cb_drop (by assumption) (by kcf_all), ?_, (fun _ h => nomatch h), ⟨l, ys, _, rfl, hlr, ?_, rfl, rfl, rfl, rfl, rfl, rfl⟩⟩
          · exact List.forall_mem_cons.mpr ⟨off3, off4⟩
          · rw [leftTo_succ, if_pos hb]; exact hys
        · rename ((List.any _ _) = false) => hb
          refine ⟨_, _, _, _, rfl, by assumption, cb_drop (by assumption) (by kcf_all), ?_, (fun _ h => nomatch h), ⟨l, _, _, rfl, hlr, ?_, rfl, rfl, rfl, rfl, rfl, rfl⟩⟩
          · exact List.forall_mem_cons.mpr ⟨off3, off4⟩
          · rw [leftTo_succ, if_neg (by rw [hb]; decide), List.map_append, List.concat_eq_append]
            have e : cellAt f i k = -(((List.range 4).map (f (0 + (i : Int)).toNat)).getD (0 + (k : Int)).toNat 0) := by
              rw [nk, ni, rowInts_getD _ hk]; unfold cellAt; rw [if_neg (by omega)]
            rw [show List.map (cellAt f i) [k] = [-(((List.range 4).map (f (0 + (i : Int)).toNat)).getD (0 + (k : Int)).toNat 0)] from congrArg (fun z => [z]) e]
            exact hys.append (.cons _ _ .nil)
        · rename ((List.any _ _) = false) => hb
          refine forN s.heap (StC f lw lr lc T l i tv ((I₂, oI₂) :: (l, listOf (List.toArray ys) ep₂) :: (I, oI) :: (T, listOf (List.toArray (rs.map Value.ref)) ep) :: rest)) (by rfl) (by rfl) ?_
          walk_at "SHOW"
          k_fold
          walk_at "STEPS"
          refine iter_range (n := 4) hh (by assumption) (small_one (by omega) (by omega) (by omega) (by omega)) (by rw [rangeSize_one]; rfl) (by assumption) (by assumption) (fun it h' hit F N hoff => ?_)
          refine ⟨_, _, _, _, _, hit, F, N, hoff, (fun _ h => nomatch h), ⟨_, rfl, rfl, rfl, rfl, rfl, rfl, rfl, rfl⟩, ?_, ?_⟩
          · rintro o v m₃ news₃ h₃ tk₃ I₃ oI₃ ho ⟨tv₃, rfl⟩ ⟨t₃, rfl, k1, k2, k3, k4, k5, k6, k7⟩ F N off₅ fx₃
            have F := fs7 F k1 k2 k3 k4 k5 k6 k7
            walk_at "SHOW"
            k_fold
            walk_at "STEPS"
            · have e : cellTo f i o + ((List.range 4).map (f (0 + (i : Int)).toNat)).getD (0 + (o : Int)).toNat 0 = cellTo f i (o + 1) := by
                rw [show (0 + (o : Int)).toNat = o by omega, ni, rowInts_getD _ ho]
                show _ = if o = i then _ else _
                rw [if_neg (by omega)]
              exact ⟨_, _, _, _, rfl, by assumption, cb_drop (by assumption) (by kcf_all), off₅, (fun _ h => nomatch h), ⟨_, rfl, congrArg (fun z => some (Value.int z _)) e, rfl, rfl, rfl, rfl, rfl, rfl⟩⟩
            · have e : cellTo f i o = cellTo f i (o + 1) := by
                show _ = if o = i then _ else _
                rw [if_pos (by omega)]
              exact ⟨_, _, _, _, rfl, by assumption, cb_drop (by assumption) (by kcf_all), off₅, (fun _ h => nomatch h), ⟨_, rfl, congrArg (fun z => some (Value.int z _)) e, rfl, rfl, rfl, rfl, rfl, rfl⟩⟩
          · rintro m₃ news₃ h₃ tk₃ ⟨t₃, rfl, k1, k2, k3, k4, k5, k6, k7⟩ F N fx₃
            have F := fr7 F k1 k2 k3 k4 k5 k6 k7
            walk_at "SHOW"
            k_fold
            walk_at "STEPS"
            refine ⟨_, _, _, _, rfl, by assumption, cb_drop (by assumption) (by kcf_all), ?_, (fun _ h => nomatch h), ⟨l, _, _, rfl, hlr, ?_, rfl, rfl, rfl, rfl, rfl, rfl⟩⟩
            · exact List.forall_mem_cons.mpr ⟨off3, off4⟩
            · rw [leftTo_succ, if_neg (by rw [hb]; decide), List.map_append, List.concat_eq_append]
              have e : cellAt f i k = cellTo f i 4 := by unfold cellAt; rw [if_pos (by omega)]
              rw [show List.map (cellAt f i) [k] = [cellTo f i 4] from congrArg (fun z => [z]) e]
              exact hys.append (.cons _ _ .nil)
      · rintro m₂ news₂ h₂ tk₂ ⟨l, ys, ep₂, rfl, hlr, hys, g1, g2, g3, g4, g5, g6⟩ F N fx₂
        have F := fr6 F g1 g2 g3 g4 g5 g6
        have hrs : (rs.map Value.ref).length ≤ 4 := by rw [List.length_map, hrl]; have := leftTo_len nr i; omega
        have o4 : @Ne Nat T l := hlr _ (List.mem_cons_of_mem _ List.mem_cons_self)
        walk_at "SHOW"
        k_fold
        walk_at "STEPS"
        have epush : (List.toArray (rs.map Value.ref)).push (.ref l) = List.toArray ((rs ++ [l]).map Value.ref) := by simp
        rename (News _ _ _ _) => NN
        rw [epush] at NN
        refine ⟨_, _, _, _, rfl, by assumption, (fun p hp => NN p ?_), ?_, (fun _ h => nomatch h), ⟨T, rs ++ [l], ep + 1, (l, listOf (List.toArray ys) ep₂) :: rest, rfl, ?_, ?_, ?_, rfl, rfl, rfl, rfl⟩⟩
        · simp only [List.mem_cons] at hp ⊢
          rcases hp with hp | hp | hp | hp
          · exact .inr (.inl hp)
          · exact .inr (.inr (.inl hp))
          · exact .inl hp
          · exact .inr (.inr (.inr hp))
        · exact List.forall_mem_cons.mpr ⟨off1, List.forall_mem_cons.mpr ⟨fun h => hlr _ List.mem_cons_self h.symm, off2⟩⟩
        · exact List.forall_mem_cons.mpr ⟨fun h => o4 h.symm, hTr⟩
        · rw [leftTo_succ, if_neg (by rw [ha]; decide), List.length_append, List.length_append, hrl]; rfl
        · rw [leftTo_succ, if_neg (by rw [ha]; decide)]
          intro j hj
          rw [List.length_append] at hj
          rcases Nat.lt_or_ge j (leftTo nr i).length with hlt | hge
          · obtain ⟨vs, c, h1, h2⟩ := hrow j hlt
            refine ⟨vs, c, ?_, ?_⟩
            · rw [getD_app _ _ _ (by rw [hrl]; exact hlt)]
              exact List.mem_cons_of_mem _ h1
            · rw [getD_app _ _ _ hlt]; exact h2
          · have hj' : j = (leftTo nr i).length := by simp at hj; omega
            subst hj'
            refine ⟨ys, ep₂, ?_, ?_⟩
            · rw [getD_end _ _ _ hrl.symm]
              exact List.mem_cons_self
            · rw [getD_end _ _ _ rfl]; exact hys
  · rintro m₁ news₁ h₁ tk₁ ⟨T, rs, ep, rest, rfl, hTr, hrl, hrow, e1, e2, e3, e4⟩ F N fx
    have F := fr4 F e1 e2 e3 e4
    walk_at "SHOW"
    k_fold
    walk_at "STEPS"
    refine ret _ _ _ (Fr.keep (by assumption)) ⟨rs, hrl, News.isList (by assumption) (by k_mem), fun j hj => ?_⟩
    obtain ⟨vs, c, h1, h2⟩ := hrow j hj
    refine ⟨vs, News.isList (by assumption) (List.mem_cons_of_mem _ h1), ?_⟩
    rw [show (List.range (leftTo nc 4).length).map (fun j' => cellAt f ((leftTo nr 4).getD j 0) ((leftTo nc 4).getD j' 0)) = (leftTo nc 4).map (cellAt f ((leftTo nr 4).getD j 0)) from map_range_getD _ _]
    exact h2
end

end
section
section
variable {prog : Program} {w : World} {A : Around} {s : Shared} {env : Env} {h₀ : Heap}
/-- as forN, where the loop's name is a captured one: its cell c stands at the ledger's head -/
inductive ForCell (prog : Program) (w : World) (A : Around) (env : Env) (h₀ : Heap) (c : Addr) (body orelse : List Stmt) (Q : Flow → Shared → Prop) (J : Nat → (Str → Option Value) → List (Addr × Obj) → Prop) (it : Value) (s₂ : Shared) : Prop
  | mk (n : Nat) (P : Nat → Value → Prop) (m : Str → Option Value) (news : List (Addr × Obj)) (hit : IterAt prog w A h₀ env.locals it n P [] s₂) (F : Fr h₀ env.locals s₂.heap m) (N : News h₀ env.locals s₂.heap news) (off : ∀ I, it = .ref I → ∀ p ∈ news, p.1 ≠ I) (hJ : J 0 m news)
      (turn : ∀ i v m₁ oo oc rest h₁ tk I oI, i < n → P i v → J i m₁ ((c, oo) :: rest) → oc.data = .cell (some v) → Fr h₀ env.locals h₁ m₁ → News h₀ env.locals h₁ ((I, oI) :: (c, oc) :: rest) → (@Ne Nat c I) → (∀ p ∈ rest, p.1 ≠ I) → (∀ p ∈ rest, p.1 ≠ c) →
        wpAny (model prog w) A (execs body env) (TurnOk h₀ env.locals I oI [] (J (i + 1)) { s₂ with heap := h₁, toks := tk } Q) (fun _ _ => False) { s₂ with heap := h₁, toks := tk })
      (done : ∀ m₁ news₁ h₁ tk, J n m₁ news₁ → Fr h₀ env.locals h₁ m₁ → News h₀ env.locals h₁ news₁ → wpAny (model prog w) A (execs orelse env) Q (fun _ _ => False) { s₂ with heap := h₁, toks := tk })
theorem forC {x : Str} {px pos : Pos} {iter : Expr} {body orelse : List Stmt} {Q : Flow → Shared → Prop} (h₀ : Heap) (c : Addr) (J : Nat → (Str → Option Value) → List (Addr × Obj) → Prop) (hx : env.kindOf x = some .cell) (hk : env.scope.kind = .function) (hcl : env.cells.lookup x = some c)
    (hJc : ∀ i m news, J i m news → ∃ oc v₀ rest, news = (c, oc) :: rest ∧ oc.data = .cell v₀ ∧ ∀ p ∈ rest, p.1 ≠ c)
    (h : wpAny (model prog w) A (eval iter env) (fun xv s₁ => wpAny (model prog w) A (pyIter xv) (fun it s₂ =>
      ForCell prog w A env h₀ c body orelse Q J it s₂) (fun _ _ => False) s₁) (fun _ _ => False) s)
    (hs : ∀ x, foldedSetIterable iter env x = pure x := by intro _; rfl) :
    wpAny (model prog w) A (exec (.For (.Name x px) iter body orelse pos) env) Q (fun _ _ => False) s := by
  refine wpAny_For (wpAny_mono h (fun xv s₁ h₁ => wpAny_mono h₁ (fun it s₂ h₂ => ?_) fun _ _ e => e) fun _ _ e => e) hs
  obtain ⟨n, P, m, news, ⟨I, fp, St, rfl, W, hIo, hst, hI₀, hLI, hfp⟩, F, N, hoff, hJ, turn, done⟩ := h₂
  have hoff := hoff I rfl
  have keep1 : ∀ {h h' : Heap} {m : Str → Option Value} {nw : List (Addr × Obj)}, Fr h₀ env.locals h m → News h₀ env.locals h nw → (∀ p ∈ nw, p.1 ≠ I) → (∀ b o, b ∉ [I] → h.get? b = some o → h'.get? b = some o) → Fr h₀ env.locals h' m ∧ News h₀ env.locals h' nw :=
    fun F N off k => ⟨⟨F.ns.at' fun o e => k _ o (by simpa using hLI) e, fun b o e => k b o (fun hm => by rw [List.mem_singleton.mp hm, hI₀] at e; cases e) (F.keep b o e), F.above⟩, fun p hp => ⟨k _ _ (by simpa using off p hp) (N p hp).1, (N p hp).2⟩⟩
  refine codeAny_forLoop (LoopAt h₀ env.locals I [] J St n s₂) ?_ (n + 1)
    ⟨s₂.heap, s₂.toks, m, news, 0, rfl, hst, F, N, hoff, (fun _ h => nomatch h), hJ, Nat.zero_le _, rfl⟩
  rintro k s' ⟨h', tk, m', news', i, rfl, hst', F', N', hoff', _, hJ', hi, rfl⟩
  by_cases hlt : i < n
  · refine W.item i _ _ _ hlt hst' fun v h₁ tk₁ hP hst₁ hk₁ => ?_
    obtain ⟨F₁, N₁⟩ := keep1 F' N' hoff' hk₁
    obtain ⟨oo, v₀, rest, rfl, hd, hrest⟩ := hJc i m' news' hJ'
    have hmem := N₁ (c, oo) List.mem_cons_self
    have hcI : c ≠ I := hoff' (c, oo) List.mem_cons_self
    refine wpAny_assign_Name (wpAny_storeName_cell hk hx hcl ⟨oo, hmem.1, hd⟩ fun h₂ hv hs₂ => ?_)
    obtain ⟨oc, hoc, hdc⟩ := hv
    have F₂ : Fr h₀ env.locals h₂ m' := ⟨F₁.ns.sameBut hs₂ (Ne.symm hmem.2.1), fun b ob e => (hs₂.2 b (fun q => by rw [q, hmem.2.2] at e; cases e)).trans (F₁.keep b ob e), F₁.above⟩
    have N₂' : News h₀ env.locals h₂ ((c, oc) :: rest) := News.setAt (own := []) N₁ (fun _ h => nomatch h) hrest hs₂ hoc
    obtain ⟨oI, heI⟩ := hIo _ _ hst₁
    have heI₂ : h₂.get? I = some oI := (hs₂.2 I (Ne.symm hcI)).trans heI
    have N₂ : News h₀ env.locals h₂ ((I, oI) :: (c, oc) :: rest) := fun p hp => by
      rcases List.mem_cons.mp hp with rfl | hp
      · exact ⟨heI₂, Ne.symm hLI, hI₀⟩
      · exact N₂' p hp
    have hst₂ : St (i + 1) h₂ := W.frame _ _ _ hst₁ fun b hb o e => by
      refine (hs₂.2 b ?_).trans e
      rcases hfp b hb with rfl | ⟨o', ho'⟩ | ⟨o', ho'⟩
      · exact Ne.symm hcI
      · intro q; rw [q, hmem.2.2] at ho'; cases ho'
      · cases ho'
    refine noted_false (wpAny_mono (turn i v m' oo oc rest h₂ _ I oI hlt hP hJ' hdc F₂ N₂ hcI (fun p hp => hoff' p (List.mem_cons_of_mem _ hp)) hrest) (fun f s₃ hT => ?_) fun _ _ e => e)
    have fin : ∀ t, TurnBack h₀ env.locals I oI [] (J (i + 1)) { s₂ with heap := h₂, toks := t } s₃ → ∃ m, m < n + 1 - i ∧ LoopAt h₀ env.locals I [] J St n s₂ m s₃ := by
      rintro t ⟨h₃, tk₃, m₂, news₂, rfl, F₃, N₃, off₃, fx₃, J₃⟩
      refine ⟨n + 1 - (i + 1), by omega, h₃, tk₃, m₂, news₂, i + 1, rfl, ?_, F₃, fun p hp => N₃ p (List.mem_cons_of_mem _ hp), off₃, fx₃, J₃, hlt, rfl⟩
      refine W.frame _ _ _ hst₂ fun b hb o e => ?_
      rcases hfp b hb with rfl | ⟨o', ho'⟩ | ⟨o', ho'⟩
      · rw [heI₂] at e; cases e
        exact (N₃ _ List.mem_cons_self).1
      · have := F₂.keep b o' ho'; rw [e] at this; cases this
        exact F₃.keep b _ ho'
      · cases ho'
    cases f with
    | ret v => exact hT
    | brk => exact hT
    | next => exact fin _ hT
    | cont => exact fin _ hT
  · have hin : i = n := by omega
    subst hin
    refine W.done _ _ _ hst' fun h₁ tk₁ hk₁ => ?_
    obtain ⟨F₁, N₁⟩ := keep1 F' N' hoff' hk₁
    exact noted_false (wpAny_mono (done m' news' h₁ tk₁ hJ' F₁ N₁) (fun f s₃ h₃ => h₃) fun _ _ e => e)
end
section
variable {prog : Program} {w : World} {A : Around} {E : Value → Shared → Prop} {s : Shared} {h₀ g : Heap} {L l r : Addr} {m : Str → Option Value} {news : List (Addr × Obj)} {value slice : PySem.Expr} {vs : List Value} {i : Int} {ui : Tok} {Q : Value → Shared → Prop}
theorem lcut_from (hg : s.heap = g.push { cls := .type "slice", data := .fields #[.int i ui, .none, .none] }) (hr : r = g.objs.size) (hF : Fr h₀ L g m) (hN : News h₀ L g news) (hl : h₀.IsList l (List.toArray vs)) (hi : 0 ≤ i) (hz : vs.length ≤ 1000000)
    (h : ∀ D h', Fr h₀ L h' m → News h₀ L h' ((D, listOf (List.toArray (vs.drop i.toNat)) 0) :: news) → (∀ p ∈ news, p.1 < D) → Q (.ref D) { s with heap := h' })
    (hs : subscripted slice false (.ref l) (.ref g.objs.size) = operate [.ref g.objs.size, .ref l] (getItem (.ref l) (.ref g.objs.size))) (ht : ∀ r, letTemporaryGo value (.ref l) r = pure ()) :
    wpAny (model prog w) A (subscriptTail value slice (.ref l) (.ref r)) Q E s := by
  obtain ⟨sh, s1, s2, s3, s4⟩ := s
  cases hg
  cases hr
  refine kmk_slice (s := ⟨g, s1, s2, s3, s4⟩) hF hN (hl.at fun o e => hF.keep l o e) (.int i ui) .none (fun D h' F' N' l1 => h D h' F' ?_ l1) hs ht (by rw [List.size_toArray, sizeLine_eq]; omega)
  have e := slicePick_from' (List.toArray vs) i.toNat
  rw [Int.toNat_of_nonneg hi] at e
  rw [e] at N'
  exact N'
theorem lcut_to (hg : s.heap = g.push { cls := .type "slice", data := .fields #[.none, .int i ui, .none] }) (hr : r = g.objs.size) (hF : Fr h₀ L g m) (hN : News h₀ L g news) (hl : h₀.IsList l (List.toArray vs)) (hi : 0 ≤ i) (hz : vs.length ≤ 1000000)
    (h : ∀ D h', Fr h₀ L h' m → News h₀ L h' ((D, listOf (List.toArray (vs.take i.toNat)) 0) :: news) → (∀ p ∈ news, p.1 < D) → Q (.ref D) { s with heap := h' })
    (hs : subscripted slice false (.ref l) (.ref g.objs.size) = operate [.ref g.objs.size, .ref l] (getItem (.ref l) (.ref g.objs.size))) (ht : ∀ r, letTemporaryGo value (.ref l) r = pure ()) :
    wpAny (model prog w) A (subscriptTail value slice (.ref l) (.ref r)) Q E s := by
  obtain ⟨sh, s1, s2, s3, s4⟩ := s
  cases hg
  cases hr
  refine kmk_slice (s := ⟨g, s1, s2, s3, s4⟩) hF hN (hl.at fun o e => hF.keep l o e) .none (.int i ui) (fun D h' F' N' l1 => h D h' F' ?_ l1) hs ht (by rw [List.size_toArray, sizeLine_eq]; omega)
  have e := slicePick_upto' (List.toArray vs) i.toNat
  rw [Int.toNat_of_nonneg hi] at e
  rw [e] at N'
  exact N'
end

end
section
noncomputable def minor (f : Nat → Nat → Int) (k : Nat) (i j : Nat) : Int := f (i + 1) (if j < k then j else j + 1)
/-- the first m members of the sum along the first row; d gives the minors' determinants -/
noncomputable def detTo (f : Nat → Nat → Int) (d : Nat → Int) : Nat → Int
  | 0 => 0
  | k + 1 => if k % 2 = 0 then detTo f d k + f 0 k * d k else detTo f d k - f 0 k * d k
noncomputable def det : Nat → (Nat → Nat → Int) → Int
  | 0, _ => 0
  | 1, f => f 0 0
  | n + 2, f => detTo f (fun k => det (n + 1) (minor f k)) (n + 2)
noncomputable def E3 (a b c d e f : Int) : Int := a*b*c + a*b*e + a*b*f + a*c*d + a*c*f + a*d*e + a*d*f + a*e*f + b*c*d + b*c*e + b*d*e + b*d*f + b*e*f + c*d*e + c*d*f + c*e*f
theorem det3 (g : Nat → Nat → Int) : det 3 g = g 0 0 * (g 1 1 * g 2 2 - g 1 2 * g 2 1) - g 0 1 * (g 1 0 * g 2 2 - g 1 2 * g 2 0) + g 0 2 * (g 1 0 * g 2 1 - g 1 1 * g 2 0) := by
  simp [det, detTo, minor]
theorem det2 (g : Nat → Nat → Int) : det 2 g = g 0 0 * g 1 1 - g 0 1 * g 1 0 := by
  simp [det, detTo, minor]
noncomputable def cof (f : Nat → Nat → Int) (nr nc : List Int) (i j : Nat) : Int := cellAt f ((leftTo nr 4).getD i 0) ((leftTo nc 4).getD j 0)
theorem ring_00 (a b c d e f : Int) : (0 + a + d + e) * ((0 + b + d + f) * (0 + c + e + f) - (-f) * (-f)) - (-d) * ((-d) * (0 + c + e + f) - (-f) * (-e)) + (-e) * ((-d) * (-f) - (0 + b + d + f) * (-e)) = E3 a b c d e f := by unfold E3; grind
theorem ring_01 (a b c d e f : Int) : -((-a) * ((0 + b + d + f) * (0 + c + e + f) - (-f) * (-f)) - (-d) * ((-b) * (0 + c + e + f) - (-f) * (-c)) + (-e) * ((-b) * (-f) - (0 + b + d + f) * (-c))) = E3 a b c d e f := by unfold E3; grind
theorem ring_02 (a b c d e f : Int) : (-a) * ((-d) * (0 + c + e + f) - (-f) * (-e)) - (0 + a + d + e) * ((-b) * (0 + c + e + f) - (-f) * (-c)) + (-e) * ((-b) * (-e) - (-d) * (-c)) = E3 a b c d e f := by unfold E3; grind
theorem ring_03 (a b c d e f : Int) : -((-a) * ((-d) * (-f) - (0 + b + d + f) * (-e)) - (0 + a + d + e) * ((-b) * (-f) - (0 + b + d + f) * (-c)) + (-d) * ((-b) * (-e) - (-d) * (-c))) = E3 a b c d e f := by unfold E3; grind
theorem ring_10 (a b c d e f : Int) : -((-a) * ((0 + b + d + f) * (0 + c + e + f) - (-f) * (-f)) - (-b) * ((-d) * (0 + c + e + f) - (-f) * (-e)) + (-c) * ((-d) * (-f) - (0 + b + d + f) * (-e))) = E3 a b c d e f := by unfold E3; grind
theorem ring_11 (a b c d e f : Int) : (0 + a + b + c) * ((0 + b + d + f) * (0 + c + e + f) - (-f) * (-f)) - (-b) * ((-b) * (0 + c + e + f) - (-f) * (-c)) + (-c) * ((-b) * (-f) - (0 + b + d + f) * (-c)) = E3 a b c d e f := by unfold E3; grind
theorem ring_12 (a b c d e f : Int) : -((0 + a + b + c) * ((-d) * (0 + c + e + f) - (-f) * (-e)) - (-a) * ((-b) * (0 + c + e + f) - (-f) * (-c)) + (-c) * ((-b) * (-e) - (-d) * (-c))) = E3 a b c d e f := by unfold E3; grind
theorem ring_13 (a b c d e f : Int) : (0 + a + b + c) * ((-d) * (-f) - (0 + b + d + f) * (-e)) - (-a) * ((-b) * (-f) - (0 + b + d + f) * (-c)) + (-b) * ((-b) * (-e) - (-d) * (-c)) = E3 a b c d e f := by unfold E3; grind
theorem ring_20 (a b c d e f : Int) : (-a) * ((-d) * (0 + c + e + f) - (-e) * (-f)) - (-b) * ((0 + a + d + e) * (0 + c + e + f) - (-e) * (-e)) + (-c) * ((0 + a + d + e) * (-f) - (-d) * (-e)) = E3 a b c d e f := by unfold E3; grind
theorem ring_21 (a b c d e f : Int) : -((0 + a + b + c) * ((-d) * (0 + c + e + f) - (-e) * (-f)) - (-b) * ((-a) * (0 + c + e + f) - (-e) * (-c)) + (-c) * ((-a) * (-f) - (-d) * (-c))) = E3 a b c d e f := by unfold E3; grind
theorem ring_22 (a b c d e f : Int) : (0 + a + b + c) * ((0 + a + d + e) * (0 + c + e + f) - (-e) * (-e)) - (-a) * ((-a) * (0 + c + e + f) - (-e) * (-c)) + (-c) * ((-a) * (-e) - (0 + a + d + e) * (-c)) = E3 a b c d e f := by unfold E3; grind
theorem ring_23 (a b c d e f : Int) : -((0 + a + b + c) * ((0 + a + d + e) * (-f) - (-d) * (-e)) - (-a) * ((-a) * (-f) - (-d) * (-c)) + (-b) * ((-a) * (-e) - (0 + a + d + e) * (-c))) = E3 a b c d e f := by unfold E3; grind
theorem ring_30 (a b c d e f : Int) : -((-a) * ((-d) * (-f) - (-e) * (0 + b + d + f)) - (-b) * ((0 + a + d + e) * (-f) - (-e) * (-d)) + (-c) * ((0 + a + d + e) * (0 + b + d + f) - (-d) * (-d))) = E3 a b c d e f := by unfold E3; grind
theorem ring_31 (a b c d e f : Int) : (0 + a + b + c) * ((-d) * (-f) - (-e) * (0 + b + d + f)) - (-b) * ((-a) * (-f) - (-e) * (-b)) + (-c) * ((-a) * (0 + b + d + f) - (-d) * (-b)) = E3 a b c d e f := by unfold E3; grind
theorem ring_32 (a b c d e f : Int) : -((0 + a + b + c) * ((0 + a + d + e) * (-f) - (-e) * (-d)) - (-a) * ((-a) * (-f) - (-e) * (-b)) + (-c) * ((-a) * (-d) - (0 + a + d + e) * (-b))) = E3 a b c d e f := by unfold E3; grind
theorem ring_33 (a b c d e f : Int) : (0 + a + b + c) * ((0 + a + d + e) * (0 + b + d + f) - (-d) * (-d)) - (-a) * ((-a) * (0 + b + d + f) - (-d) * (-b)) + (-b) * ((-a) * (-d) - (0 + a + d + e) * (-b)) = E3 a b c d e f := by unfold E3; grind
noncomputable def symf (f : Nat → Nat → Int) (i j : Nat) : Int := f (min i j) (max i j)
theorem symf_eq (f : Nat → Nat → Int) (hs : ∀ i j, f i j = f j i) : symf f = f := by
  funext i j
  unfold symf
  rcases Nat.le_total i j with h | h
  · rw [Nat.min_eq_left h, Nat.max_eq_right h]
  · rw [Nat.min_eq_right h, Nat.max_eq_left h]; exact hs j i
theorem kirch (f : Nat → Nat → Int) (r c : Nat) (hr : r < 4) (hc : c < 4) :
    (if (r + c) % 2 = 1 then -(det 3 (cof (symf f) [(r : Int)] [(c : Int)])) else det 3 (cof (symf f) [(r : Int)] [(c : Int)])) = E3 (f 0 1) (f 0 2) (f 0 3) (f 1 2) (f 1 3) (f 2 3) := by
  have h1 : r = 0 ∨ r = 1 ∨ r = 2 ∨ r = 3 := by omega
  have h2 : c = 0 ∨ c = 1 ∨ c = 2 ∨ c = 3 := by omega
  clear hr hc
  rw [det3]
  rcases h1 with rfl | rfl | rfl | rfl <;> rcases h2 with rfl | rfl | rfl | rfl
  · show (0 + f 0 1 + f 1 2 + f 1 3) * ((0 + f 0 2 + f 1 2 + f 2 3) * (0 + f 0 3 + f 1 3 + f 2 3) - (-(f 2 3)) * (-(f 2 3))) - (-(f 1 2)) * ((-(f 1 2)) * (0 + f 0 3 + f 1 3 + f 2 3) - (-(f 2 3)) * (-(f 1 3))) + (-(f 1 3)) * ((-(f 1 2)) * (-(f 2 3)) - (0 + f 0 2 + f 1 2 + f 2 3) * (-(f 1 3))) = _; exact ring_00 _ _ _ _ _ _
  · show -((-(f 0 1)) * ((0 + f 0 2 + f 1 2 + f 2 3) * (0 + f 0 3 + f 1 3 + f 2 3) - (-(f 2 3)) * (-(f 2 3))) - (-(f 1 2)) * ((-(f 0 2)) * (0 + f 0 3 + f 1 3 + f 2 3) - (-(f 2 3)) * (-(f 0 3))) + (-(f 1 3)) * ((-(f 0 2)) * (-(f 2 3)) - (0 + f 0 2 + f 1 2 + f 2 3) * (-(f 0 3)))) = _; exact ring_01 _ _ _ _ _ _
  · show (-(f 0 1)) * ((-(f 1 2)) * (0 + f 0 3 + f 1 3 + f 2 3) - (-(f 2 3)) * (-(f 1 3))) - (0 + f 0 1 + f 1 2 + f 1 3) * ((-(f 0 2)) * (0 + f 0 3 + f 1 3 + f 2 3) - (-(f 2 3)) * (-(f 0 3))) + (-(f 1 3)) * ((-(f 0 2)) * (-(f 1 3)) - (-(f 1 2)) * (-(f 0 3))) = _; exact ring_02 _ _ _ _ _ _
  · show -((-(f 0 1)) * ((-(f 1 2)) * (-(f 2 3)) - (0 + f 0 2 + f 1 2 + f 2 3) * (-(f 1 3))) - (0 + f 0 1 + f 1 2 + f 1 3) * ((-(f 0 2)) * (-(f 2 3)) - (0 + f 0 2 + f 1 2 + f 2 3) * (-(f 0 3))) + (-(f 1 2)) * ((-(f 0 2)) * (-(f 1 3)) - (-(f 1 2)) * (-(f 0 3)))) = _; exact ring_03 _ _ _ _ _ _
  · show -((-(f 0 1)) * ((0 + f 0 2 + f 1 2 + f 2 3) * (0 + f 0 3 + f 1 3 + f 2 3) - (-(f 2 3)) * (-(f 2 3))) - (-(f 0 2)) * ((-(f 1 2)) * (0 + f 0 3 + f 1 3 + f 2 3) - (-(f 2 3)) * (-(f 1 3))) + (-(f 0 3)) * ((-(f 1 2)) * (-(f 2 3)) - (0 + f 0 2 + f 1 2 + f 2 3) * (-(f 1 3)))) = _; exact ring_10 _ _ _ _ _ _
  · show (0 + f 0 1 + f 0 2 + f 0 3) * ((0 + f 0 2 + f 1 2 + f 2 3) * (0 + f 0 3 + f 1 3 + f 2 3) - (-(f 2 3)) * (-(f 2 3))) - (-(f 0 2)) * ((-(f 0 2)) * (0 + f 0 3 + f 1 3 + f 2 3) - (-(f 2 3)) * (-(f 0 3))) + (-(f 0 3)) * ((-(f 0 2)) * (-(f 2 3)) - (0 + f 0 2 + f 1 2 + f 2 3) * (-(f 0 3))) = _; exact ring_11 _ _ _ _ _ _
  · show -((0 + f 0 1 + f 0 2 + f 0 3) * ((-(f 1 2)) * (0 + f 0 3 + f 1 3 + f 2 3) - (-(f 2 3)) * (-(f 1 3))) - (-(f 0 1)) * ((-(f 0 2)) * (0 + f 0 3 + f 1 3 + f 2 3) - (-(f 2 3)) * (-(f 0 3))) + (-(f 0 3)) * ((-(f 0 2)) * (-(f 1 3)) - (-(f 1 2)) * (-(f 0 3)))) = _; exact ring_12 _ _ _ _ _ _
  · show (0 + f 0 1 + f 0 2 + f 0 3) * ((-(f 1 2)) * (-(f 2 3)) - (0 + f 0 2 + f 1 2 + f 2 3) * (-(f 1 3))) - (-(f 0 1)) * ((-(f 0 2)) * (-(f 2 3)) - (0 + f 0 2 + f 1 2 + f 2 3) * (-(f 0 3))) + (-(f 0 2)) * ((-(f 0 2)) * (-(f 1 3)) - (-(f 1 2)) * (-(f 0 3))) = _; exact ring_13 _ _ _ _ _ _
  · show (-(f 0 1)) * ((-(f 1 2)) * (0 + f 0 3 + f 1 3 + f 2 3) - (-(f 1 3)) * (-(f 2 3))) - (-(f 0 2)) * ((0 + f 0 1 + f 1 2 + f 1 3) * (0 + f 0 3 + f 1 3 + f 2 3) - (-(f 1 3)) * (-(f 1 3))) + (-(f 0 3)) * ((0 + f 0 1 + f 1 2 + f 1 3) * (-(f 2 3)) - (-(f 1 2)) * (-(f 1 3))) = _; exact ring_20 _ _ _ _ _ _
  · show -((0 + f 0 1 + f 0 2 + f 0 3) * ((-(f 1 2)) * (0 + f 0 3 + f 1 3 + f 2 3) - (-(f 1 3)) * (-(f 2 3))) - (-(f 0 2)) * ((-(f 0 1)) * (0 + f 0 3 + f 1 3 + f 2 3) - (-(f 1 3)) * (-(f 0 3))) + (-(f 0 3)) * ((-(f 0 1)) * (-(f 2 3)) - (-(f 1 2)) * (-(f 0 3)))) = _; exact ring_21 _ _ _ _ _ _
  · show (0 + f 0 1 + f 0 2 + f 0 3) * ((0 + f 0 1 + f 1 2 + f 1 3) * (0 + f 0 3 + f 1 3 + f 2 3) - (-(f 1 3)) * (-(f 1 3))) - (-(f 0 1)) * ((-(f 0 1)) * (0 + f 0 3 + f 1 3 + f 2 3) - (-(f 1 3)) * (-(f 0 3))) + (-(f 0 3)) * ((-(f 0 1)) * (-(f 1 3)) - (0 + f 0 1 + f 1 2 + f 1 3) * (-(f 0 3))) = _; exact ring_22 _ _ _ _ _ _
  · show -((0 + f 0 1 + f 0 2 + f 0 3) * ((0 + f 0 1 + f 1 2 + f 1 3) * (-(f 2 3)) - (-(f 1 2)) * (-(f 1 3))) - (-(f 0 1)) * ((-(f 0 1)) * (-(f 2 3)) - (-(f 1 2)) * (-(f 0 3))) + (-(f 0 2)) * ((-(f 0 1)) * (-(f 1 3)) - (0 + f 0 1 + f 1 2 + f 1 3) * (-(f 0 3)))) = _; exact ring_23 _ _ _ _ _ _
  · show -((-(f 0 1)) * ((-(f 1 2)) * (-(f 2 3)) - (-(f 1 3)) * (0 + f 0 2 + f 1 2 + f 2 3)) - (-(f 0 2)) * ((0 + f 0 1 + f 1 2 + f 1 3) * (-(f 2 3)) - (-(f 1 3)) * (-(f 1 2))) + (-(f 0 3)) * ((0 + f 0 1 + f 1 2 + f 1 3) * (0 + f 0 2 + f 1 2 + f 2 3) - (-(f 1 2)) * (-(f 1 2)))) = _; exact ring_30 _ _ _ _ _ _
  · show (0 + f 0 1 + f 0 2 + f 0 3) * ((-(f 1 2)) * (-(f 2 3)) - (-(f 1 3)) * (0 + f 0 2 + f 1 2 + f 2 3)) - (-(f 0 2)) * ((-(f 0 1)) * (-(f 2 3)) - (-(f 1 3)) * (-(f 0 2))) + (-(f 0 3)) * ((-(f 0 1)) * (0 + f 0 2 + f 1 2 + f 2 3) - (-(f 1 2)) * (-(f 0 2))) = _; exact ring_31 _ _ _ _ _ _
  · show -((0 + f 0 1 + f 0 2 + f 0 3) * ((0 + f 0 1 + f 1 2 + f 1 3) * (-(f 2 3)) - (-(f 1 3)) * (-(f 1 2))) - (-(f 0 1)) * ((-(f 0 1)) * (-(f 2 3)) - (-(f 1 3)) * (-(f 0 2))) + (-(f 0 3)) * ((-(f 0 1)) * (-(f 1 2)) - (0 + f 0 1 + f 1 2 + f 1 3) * (-(f 0 2)))) = _; exact ring_32 _ _ _ _ _ _
  · show (0 + f 0 1 + f 0 2 + f 0 3) * ((0 + f 0 1 + f 1 2 + f 1 3) * (0 + f 0 2 + f 1 2 + f 2 3) - (-(f 1 2)) * (-(f 1 2))) - (-(f 0 1)) * ((-(f 0 1)) * (0 + f 0 2 + f 1 2 + f 2 3) - (-(f 1 2)) * (-(f 0 2))) + (-(f 0 2)) * ((-(f 0 1)) * (-(f 1 2)) - (0 + f 0 1 + f 1 2 + f 1 3) * (-(f 0 2))) = _; exact ring_33 _ _ _ _ _ _
theorem kirchhoff (f : Nat → Nat → Int) (hs : ∀ i j, f i j = f j i) (r c : Nat) (hr : r < 4) (hc : c < 4) :
    (if (r + c) % 2 = 1 then -(det 3 (cof f [(r : Int)] [(c : Int)])) else det 3 (cof f [(r : Int)] [(c : Int)])) = E3 (f 0 1) (f 0 2) (f 0 3) (f 1 2) (f 1 3) (f 2 3) := by
  have h := kirch f r c hr hc
  rw [symf_eq f hs] at h
  exact h
/-- the ends of the ties -/
noncomputable def endA (k : Nat) : Nat := [0, 0, 0, 1, 1, 2].getD k 0
noncomputable def endB (k : Nat) : Nat := [1, 2, 3, 2, 3, 3].getD k 0
noncomputable def trees : List (Nat × Nat × Nat) := [(0, 1, 2), (0, 1, 4), (0, 1, 5), (0, 2, 3), (0, 2, 5), (0, 3, 4), (0, 3, 5), (0, 4, 5), (1, 2, 3), (1, 2, 4), (1, 3, 4), (1, 3, 5), (1, 4, 5), (2, 3, 4), (2, 3, 5), (2, 4, 5)]
noncomputable def inTree (k : Nat) (T : Nat × Nat × Nat) : Bool := k == 6 || k == T.1 || k == T.2.1 || k == T.2.2
noncomputable def tot (d : Nat → Nat) (T : Nat × Nat × Nat) : Nat := d T.1 + d T.2.1 + d T.2.2
noncomputable def tots (d : Nat → Nat) (k : Nat) : List Nat := (trees.filter (inTree k)).map (tot d)
noncomputable def powSum : List Nat → Int
  | [] => 0
  | a :: l => 64 ^ a + powSum l
theorem powSum_six (d : Nat → Nat) : powSum (tots d 6) = E3 (64 ^ d 0) (64 ^ d 1) (64 ^ d 2) (64 ^ d 3) (64 ^ d 4) (64 ^ d 5) := by
  have e : trees.filter (inTree 6) = trees := by decide
  unfold tots
  rw [e]
  simp only [trees, List.map_cons, List.map_nil, powSum, tot, Int.pow_add, E3]
  grind
noncomputable def sumP (x : Nat → Int) : List (Nat × Nat × Nat) → Int
  | [] => 0
  | T :: l => x T.1 * x T.2.1 * x T.2.2 + sumP x l
theorem powSum_sumP (d : Nat → Nat) : ∀ l : List (Nat × Nat × Nat), powSum (l.map (tot d)) = sumP (fun k => 64 ^ d k) l
  | [] => rfl
  | T :: l => by
    show 64 ^ tot d T + powSum (l.map (tot d)) = _ + _
    rw [powSum_sumP d l, tot, Int.pow_add, Int.pow_add]
theorem sumP_congr {x y : Nat → Int} (h : ∀ k, k < 6 → x k = y k) : ∀ l : List (Nat × Nat × Nat), (∀ T ∈ l, T.1 < 6 ∧ T.2.1 < 6 ∧ T.2.2 < 6) → sumP x l = sumP y l
  | [], _ => rfl
  | T :: l, hl => by
    have hT := hl T List.mem_cons_self
    show x T.1 * x T.2.1 * x T.2.2 + sumP x l = _ + _
    rw [sumP_congr h l (fun T hT => hl T (List.mem_cons_of_mem _ hT)), h _ hT.1, h _ hT.2.1, h _ hT.2.2]
theorem trees_six : ∀ T ∈ trees, T.1 < 6 ∧ T.2.1 < 6 ∧ T.2.2 < 6 := by decide
theorem hring_0 (a b c d e f : Int) : a * ((0 + b + d + f) * (0 + c + e + f) - (-(f)) * (-(f))) = (a * b * c + (a * b * e + (a * b * f + (a * c * d + (a * c * f + (a * d * e + (a * d * f + (a * e * f + 0)))))))) := by grind
theorem hring_1 (a b c d e f : Int) : b * ((0 + a + d + e) * (0 + c + e + f) - (-(e)) * (-(e))) = (a * b * c + (a * b * e + (a * b * f + (b * c * d + (b * c * e + (b * d * e + (b * d * f + (b * e * f + 0)))))))) := by grind
theorem hring_2 (a b c d e f : Int) : c * ((0 + a + d + e) * (0 + b + d + f) - (-(d)) * (-(d))) = (a * b * c + (a * c * d + (a * c * f + (b * c * d + (b * c * e + (c * d * e + (c * d * f + (c * e * f + 0)))))))) := by grind
theorem hring_3 (a b c d e f : Int) : d * ((0 + a + b + c) * (0 + c + e + f) - (-(c)) * (-(c))) = (a * c * d + (a * d * e + (a * d * f + (b * c * d + (b * d * e + (b * d * f + (c * d * e + (c * d * f + 0)))))))) := by grind
theorem hring_4 (a b c d e f : Int) : e * ((0 + a + b + c) * (0 + b + d + f) - (-(b)) * (-(b))) = (a * b * e + (a * d * e + (a * e * f + (b * c * e + (b * d * e + (b * e * f + (c * d * e + (c * e * f + 0)))))))) := by grind
theorem hring_5 (a b c d e f : Int) : f * ((0 + a + b + c) * (0 + a + d + e) - (-(a)) * (-(a))) = (a * b * f + (a * c * f + (a * d * f + (a * e * f + (b * d * f + (b * e * f + (c * d * f + (c * e * f + 0)))))))) := by grind
theorem heldf (f : Nat → Nat → Int) (k : Nat) (hk : k < 6) :
    f (endA k) (endB k) * det 2 (cof (symf f) [(endA k : Int), (endB k : Int)] [(endA k : Int), (endB k : Int)]) = sumP (fun k => f (endA k) (endB k)) (trees.filter (inTree k)) := by
  have h1 : k = 0 ∨ k = 1 ∨ k = 2 ∨ k = 3 ∨ k = 4 ∨ k = 5 := by omega
  clear hk
  rw [det2]
  rcases h1 with rfl | rfl | rfl | rfl | rfl | rfl
  · show f 0 1 * ((0 + f 0 2 + f 1 2 + f 2 3) * (0 + f 0 3 + f 1 3 + f 2 3) - (-(f 2 3)) * (-(f 2 3))) = (f 0 1 * f 0 2 * f 0 3 + (f 0 1 * f 0 2 * f 1 3 + (f 0 1 * f 0 2 * f 2 3 + (f 0 1 * f 0 3 * f 1 2 + (f 0 1 * f 0 3 * f 2 3 + (f 0 1 * f 1 2 * f 1 3 + (f 0 1 * f 1 2 * f 2 3 + (f 0 1 * f 1 3 * f 2 3 + 0)))))))); exact hring_0 _ _ _ _ _ _
  · show f 0 2 * ((0 + f 0 1 + f 1 2 + f 1 3) * (0 + f 0 3 + f 1 3 + f 2 3) - (-(f 1 3)) * (-(f 1 3))) = (f 0 1 * f 0 2 * f 0 3 + (f 0 1 * f 0 2 * f 1 3 + (f 0 1 * f 0 2 * f 2 3 + (f 0 2 * f 0 3 * f 1 2 + (f 0 2 * f 0 3 * f 1 3 + (f 0 2 * f 1 2 * f 1 3 + (f 0 2 * f 1 2 * f 2 3 + (f 0 2 * f 1 3 * f 2 3 + 0)))))))); exact hring_1 _ _ _ _ _ _
  · show f 0 3 * ((0 + f 0 1 + f 1 2 + f 1 3) * (0 + f 0 2 + f 1 2 + f 2 3) - (-(f 1 2)) * (-(f 1 2))) = (f 0 1 * f 0 2 * f 0 3 + (f 0 1 * f 0 3 * f 1 2 + (f 0 1 * f 0 3 * f 2 3 + (f 0 2 * f 0 3 * f 1 2 + (f 0 2 * f 0 3 * f 1 3 + (f 0 3 * f 1 2 * f 1 3 + (f 0 3 * f 1 2 * f 2 3 + (f 0 3 * f 1 3 * f 2 3 + 0)))))))); exact hring_2 _ _ _ _ _ _
  · show f 1 2 * ((0 + f 0 1 + f 0 2 + f 0 3) * (0 + f 0 3 + f 1 3 + f 2 3) - (-(f 0 3)) * (-(f 0 3))) = (f 0 1 * f 0 3 * f 1 2 + (f 0 1 * f 1 2 * f 1 3 + (f 0 1 * f 1 2 * f 2 3 + (f 0 2 * f 0 3 * f 1 2 + (f 0 2 * f 1 2 * f 1 3 + (f 0 2 * f 1 2 * f 2 3 + (f 0 3 * f 1 2 * f 1 3 + (f 0 3 * f 1 2 * f 2 3 + 0)))))))); exact hring_3 _ _ _ _ _ _
  · show f 1 3 * ((0 + f 0 1 + f 0 2 + f 0 3) * (0 + f 0 2 + f 1 2 + f 2 3) - (-(f 0 2)) * (-(f 0 2))) = (f 0 1 * f 0 2 * f 1 3 + (f 0 1 * f 1 2 * f 1 3 + (f 0 1 * f 1 3 * f 2 3 + (f 0 2 * f 0 3 * f 1 3 + (f 0 2 * f 1 2 * f 1 3 + (f 0 2 * f 1 3 * f 2 3 + (f 0 3 * f 1 2 * f 1 3 + (f 0 3 * f 1 3 * f 2 3 + 0)))))))); exact hring_4 _ _ _ _ _ _
  · show f 2 3 * ((0 + f 0 1 + f 0 2 + f 0 3) * (0 + f 0 1 + f 1 2 + f 1 3) - (-(f 0 1)) * (-(f 0 1))) = (f 0 1 * f 0 2 * f 2 3 + (f 0 1 * f 0 3 * f 2 3 + (f 0 1 * f 1 2 * f 2 3 + (f 0 1 * f 1 3 * f 2 3 + (f 0 2 * f 1 2 * f 2 3 + (f 0 2 * f 1 3 * f 2 3 + (f 0 3 * f 1 2 * f 2 3 + (f 0 3 * f 1 3 * f 2 3 + 0)))))))); exact hring_5 _ _ _ _ _ _
theorem held (f : Nat → Nat → Int) (hs : ∀ i j, f i j = f j i) (d : Nat → Nat) (hd : ∀ k, k < 6 → f (endA k) (endB k) = 64 ^ d k) (k : Nat) (hk : k < 6) :
    f (endA k) (endB k) * det 2 (cof f [(endA k : Int), (endB k : Int)] [(endA k : Int), (endB k : Int)]) = powSum (tots d k) := by
  have h := heldf f k hk
  rw [symf_eq f hs] at h
  rw [h, tots, powSum_sumP]
  exact sumP_congr hd _ fun T hT => trees_six T (List.mem_filter.mp hT).1
noncomputable def numTo (g : Nat → Nat) : Nat → Nat
  | 0 => 0
  | n + 1 => numTo g n + g n * 64 ^ n
theorem numTo_lt (g : Nat → Nat) : ∀ n, (∀ k, k < n → g k < 64) → numTo g n < 64 ^ n
  | 0, _ => Nat.one_pos
  | n + 1, h => by
    have h1 := numTo_lt g n fun k hk => h k (by omega)
    have h2 : g n ≤ 63 := by have := h n (by omega); omega
    have h3 : g n * 64 ^ n ≤ 63 * 64 ^ n := Nat.mul_le_mul_right _ h2
    show numTo g n + g n * 64 ^ n < 64 ^ (n + 1)
    rw [Nat.pow_succ]
    omega
theorem numTo_dig (g : Nat → Nat) : ∀ n, (∀ k, k < n → g k < 64) → ∀ k, k < n → numTo g n / 64 ^ k % 64 = g k
  | 0, _, k, hk => absurd hk (Nat.not_lt_zero _)
  | n + 1, h, k, hk => by
    show (numTo g n + g n * 64 ^ n) / 64 ^ k % 64 = g k
    rcases Nat.lt_or_ge k n with hlt | hge
    · have ih := numTo_dig g n (fun k hk => h k (by omega)) k hlt
      have e : g n * 64 ^ n = (g n * 64 ^ (n - k - 1) * 64) * 64 ^ k := by
        rw [show n = (n - k - 1) + 1 + k by omega, Nat.pow_add, Nat.pow_add]
        simp [Nat.mul_assoc]
      rw [e, Nat.add_mul_div_right _ _ (Nat.pow_pos (by decide)), Nat.add_mul_mod_self_right]
      exact ih
    · obtain rfl : k = n := by omega
      have h1 := numTo_lt g k fun j hj => h j (by omega)
      rw [Nat.add_mul_div_right _ _ (Nat.pow_pos (by decide)), Nat.div_eq_of_lt h1, Nat.zero_add]
      exact Nat.mod_eq_of_lt (h k (by omega))
theorem numTo_count (n : Nat) : ∀ l : List Nat, (∀ x ∈ l, x < n) → ((numTo (fun t => l.count t) n : Nat) : Int) = powSum l
  | [], _ => by
    have : ∀ n, numTo (fun t => ([] : List Nat).count t) n = 0 := by
      intro n
      induction n with
      | zero => rfl
      | succ n ih => show numTo _ n + _ = 0; rw [ih]; simp
    rw [this]; rfl
  | a :: l, h => by
    have ih := numTo_count n l fun x hx => h x (List.mem_cons_of_mem _ hx)
    have key : ∀ n, numTo (fun t => (a :: l).count t) n = numTo (fun t => l.count t) n + (if a < n then 64 ^ a else 0) := by
      intro n
      induction n with
      | zero => rfl
      | succ n ih =>
        show numTo _ n + (a :: l).count n * 64 ^ n = numTo _ n + l.count n * 64 ^ n + _
        rw [ih, List.count_cons]
        by_cases e : a = n
        · subst e
          simp [Nat.add_mul]
          omega
        · have e1 : (a == n) = false := by simpa using e
          rw [e1, if_neg Bool.false_ne_true, Nat.add_zero]
          by_cases h1 : a < n
          · rw [if_pos h1, if_pos (show a < n + 1 by omega)]; omega
          · rw [if_neg h1, if_neg (show ¬ a < n + 1 by omega)]; omega
    rw [key, if_pos (h a List.mem_cons_self), Int.natCast_add, ih]
    show _ = 64 ^ a + powSum l
    rw [Int.add_comm]
    simp
/-- the digits from the highest down -/
noncomputable def hor (g : Nat → Nat) (n : Nat) : Nat → Nat
  | 0 => 0
  | j + 1 => hor g n j * 64 + g (n - 1 - j)
theorem hor_num (g : Nat → Nat) (n : Nat) : ∀ j, j ≤ n → numTo g n = numTo g (n - j) + hor g n j * 64 ^ (n - j)
  | 0, _ => by simp [hor]
  | j + 1, h => by
    have ih := hor_num g n j (by omega)
    obtain ⟨m, rfl⟩ : ∃ m, n = m + (j + 1) := ⟨n - (j + 1), by omega⟩
    have e1 : m + (j + 1) - j = m + 1 := by omega
    have e2 : m + (j + 1) - (j + 1) = m := by omega
    have e3 : m + (j + 1) - 1 - j = m := by omega
    rw [ih, e1, e2]
    show numTo g m + g m * 64 ^ m + _ = numTo g m + (hor g (m + (j + 1)) j * 64 + g (m + (j + 1) - 1 - j)) * 64 ^ m
    rw [e3, Nat.pow_succ, Nat.add_mul]
    have : hor g (m + (j + 1)) j * (64 ^ m * 64) = hor g (m + (j + 1)) j * 64 * 64 ^ m := by
      rw [Nat.mul_comm (64 ^ m) 64, Nat.mul_assoc]
    omega
theorem hor_all (g : Nat → Nat) (n : Nat) : hor g n n = numTo g n := by
  have := hor_num g n n (Nat.le_refl _)
  rw [Nat.sub_self] at this
  rw [this]; simp [numTo]
theorem tots_lt (d : Nat → Nat) (hd : ∀ k, k < 6 → d k ≤ 10) (k : Nat) : ∀ x ∈ tots d k, x < 31 := by
  intro x hx
  obtain ⟨T, hT, rfl⟩ := List.mem_map.mp hx
  have hm := (List.mem_filter.mp hT).1
  have hall : ∀ T ∈ trees, T.1 < 6 ∧ T.2.1 < 6 ∧ T.2.2 < 6 := by decide
  obtain ⟨a, b, c⟩ := hall T hm
  have := hd _ a
  have := hd _ b
  have := hd _ c
  unfold tot
  omega
theorem tots_len (d : Nat → Nat) (k : Nat) : (tots d k).length ≤ 16 := by
  unfold tots
  rw [List.length_map]
  exact Nat.le_trans (List.length_filter_le _ _) (by decide)
theorem count_small (d : Nat → Nat) (k t : Nat) : (tots d k).count t < 64 := by
  have := List.count_le_length (l := tots d k) (a := t)
  have := tots_len d k
  omega
/-- the number that the counts tell -/
noncomputable def numOf (d : Nat → Nat) (k : Nat) : Nat := numTo (fun t => (tots d k).count t) 31
theorem numOf_six (d : Nat → Nat) (hd : ∀ k, k < 6 → d k ≤ 10) : ((numOf d 6 : Nat) : Int) = E3 (64 ^ d 0) (64 ^ d 1) (64 ^ d 2) (64 ^ d 3) (64 ^ d 4) (64 ^ d 5) := by
  rw [← powSum_six]; exact numTo_count 31 _ (tots_lt d hd 6)
theorem numOf_tie (d : Nat → Nat) (hd : ∀ k, k < 6 → d k ≤ 10) (k : Nat) : ((numOf d k : Nat) : Int) = powSum (tots d k) := numTo_count 31 _ (tots_lt d hd k)
theorem numOf_dig (d : Nat → Nat) (k t : Nat) (ht : t < 31) : numOf d k / 64 ^ t % 64 = (tots d k).count t :=
  numTo_dig _ 31 (fun j _ => count_small d k j) t ht
theorem six_some (d : Nat → Nat) (hd : ∀ k, k < 6 → d k ≤ 10) : ∃ t, t < 31 ∧ (tots d 6).count t ≠ 0 := by
  have hm : tot d (0, 1, 2) ∈ tots d 6 := List.mem_map.mpr ⟨(0, 1, 2), by decide, rfl⟩
  exact ⟨_, tots_lt d hd 6 _ hm, by have := List.count_pos_iff.mpr hm; omega⟩

end
section
section
variable {w : World} {mean : ExcName → Option Value} {mg mb : Str → Option Value} {A : Around} {s : Shared} {Q E : Value → Shared → Prop}
local macro_rules | `(tactic| walk_at "subscriptTail") => `(tactic| (k_here; walk_at "ITEM?"; k_dflt (refine' item_grid (by k_asm) (by assumption) (by omega) (by omega) (by omega) ?_ (by with_unfolding_all rfl); intro r' vs' hr' hi' hl')))
theorem c_det1 (f : Nat → Nat → Int) (l : Addr) (hg : Grid s.heap l 1 1 f) (X : Amb w mean mg mb s.heap) (hdep : A.depth < recursionLimit) (hh : A.handled = none)
    (ret : ∀ t' h' tk', s.heap.StaysIn h' → Q (.int (f 0 0) t') { s with heap := h', toks := tk' }) :
    wpAny (model pw w) A (call (.ref 186) [.ref l]) Q E s := by
  walk_at "FILL"
  obtain ⟨KX, T⟩ := X
  obtain ⟨rs, hrs, hls, hrow⟩ := id hg
  have hsz : (List.toArray (rs.map Value.ref)).size = 1 := by simp [hrs]
  refine' enterC [(Str.ofString "table", .ref l)] KX T hdep ?ho ?hcd ?hb ?hkd ?hnd ?c1 ?c2 ?c3 (fun h₁ tk cells F N Y => ?_)
  walk_at "ENTERC"
  k_cells Y
  walk_at "SHOW"
  k_fold
  walk_at "STEPS"
  · have e : ((List.range 1).map (f (Int.toNat 0))).getD (Int.toNat 0) 0 = f 0 0 := rowInts_getD (c := 1) (f 0) (by decide)
    rw [← e] at ret
    exact ret _ _ _ (Fr.keep (by assumption))
  · exfalso
    rename (((Array.size _ : Nat) : Int) ≠ 1) => hq
    rw [hsz] at hq
    exact hq rfl
inductive DeI (f : Nat → Nat → Int) (n : Nat) (l c : Addr) (i : Nat) (m : Str → Option Value) (news : List (Addr × Obj)) : Prop
  | mk (t oc v₀ : _) (h0 : news = [(c, oc)]) (h1 : oc.data = .cell v₀) (h2 : m (Str.ofString "value") = some (.int (detTo f (fun k => det (n + 1) (minor f k)) i) t)) (h3 : m (Str.ofString "table") = some (.ref l))
def DetIs (n d : Nat) (w : World) (mean : ExcName → Option Value) (mg mb : Str → Option Value) : Prop :=
  ∀ (f : Nat → Nat → Int) (l : Addr) (A : Around) (s : Shared) (Q E : Value → Shared → Prop), (∀ i j, (f i j).natAbs < 2 ^ 63) → Grid s.heap l n n f → Amb w mean mg mb s.heap → A.depth + d < recursionLimit → A.handled = none →
    (∀ t' h' tk', s.heap.StaysIn h' → Q (.int (det n f) t') { s with heap := h', toks := tk' }) → wpAny (model pw w) A (call (.ref 186) [.ref l]) Q E s
theorem minor_row (f : Nat → Nat → Int) (n k j : Nat) (hk : k < n + 2) :
    List.take (0 + (k : Int)).toNat ((List.range (n + 2)).map (f (j + 1))) ++ List.drop (0 + (k : Int) + 1).toNat ((List.range (n + 2)).map (f (j + 1))) = (List.range (n + 1)).map (minor f k j) := by
  rw [show (0 + (k : Int)).toNat = k by omega, show (0 + (k : Int) + 1).toNat = k + 1 by omega]
  apply List.ext_getElem
  · simp; omega
  · intro i h1 h2
    simp at h2
    rw [List.getElem_append]
    split
    · rename_i h
      simp at h
      simp [minor, show i < k by omega]
    · rename_i h
      simp at h
      have hki : k ≤ i := by omega
      simp only [List.getElem_drop, List.getElem_map, List.getElem_range, List.length_take, List.length_map, List.length_range, minor]
      rw [if_neg (by omega)]
      congr 1
      omega
inductive DcI (f : Nat → Nat → Int) (n k : Nat) (rs : List Addr) (I c : Addr) (oI oc : Obj) (S : Addr) (i : Nat) (ys : List Value) (nw : List (Addr × Obj)) : Prop
  | mk (as : List Addr) (rest : List (Addr × Obj)) (h0 : ys = as.map Value.ref) (h1 : nw = (S, listOf (List.toArray ((rs.drop 1).map Value.ref)) 0) :: (I, oI) :: (c, oc) :: rest) (h2 : as.length = i) (h3 : ∀ j, j < i → ∃ vs e, (as.getD j 0, listOf (List.toArray vs) e) ∈ rest ∧ IntsAre vs ((List.range (n + 1)).map (minor f k j)))
theorem cut_len (a b : Nat) {n : Nat} (hn : n ≤ 1) : min a (n + 2) + (n + 2 - b) ≤ 16777216 := by
  have h1 := Nat.min_le_right a (n + 2)
  have h2 := Nat.sub_le (n + 2) b
  omega
local macro_rules | `(tactic| walk_at "call ref") => `(tactic| (k_here; k_dflt (first
  | (refine' c_mul _ _ _ _ (by exact IntMulOk.of_left (by first | assumption | omega)) (by walk_at "AMB") (by walk_at "DEP") ?_)
  | (refine' c_sub _ _ _ _ (by walk_at "AMB") (by walk_at "DEP") ?_)
  | (refine' c_add _ _ _ _ (by walk_at "AMB") (by walk_at "DEP") ?_)); intro t' h' tk' hk'; walk_at "BACK"))
local macro_rules | `(tactic| walk_at "subscriptTail Name Slice ref ref") => `(tactic| (k_here; walk_at "CUT?"; k_dflt (first
  | (refine' lcut_from (by exact rfl) (by exact rfl) (by k_asm) (by k_asm) (by assumption) (by omega) (by first | omega | (rw [List.length_map]; omega)) ?_ (by with_unfolding_all rfl) (by intro _; with_unfolding_all rfl))
  | (refine' lcut_to (by exact rfl) (by exact rfl) (by k_asm) (by k_asm) (by assumption) (by omega) (by first | omega | (rw [List.length_map]; omega)) ?_ (by with_unfolding_all rfl) (by intro _; with_unfolding_all rfl))); intro D' h' F' N' l1; (try k_lt l1); (try k_sweep)))
local macro_rules | `(tactic| walk_at "binaryOp Add ref ref") => `(tactic| (k_here; (with_reducible show wpAny _ _ (binaryOp _ (Value.ref _) (Value.ref _)) _ _ _); k_dflt (refine' kmk_add_ints ?F ?N ?a ?b (IntsAre.take (by assumption) _) (IntsAre.drop (by assumption) _) ?_ ?z; (case F => k_asm); (case N => k_asm); (case a => exact News.isList (by k_asm) (by k_mem)); (case b => exact News.isList (by k_asm) (by k_mem)); (case z => simp only [List.length_take, List.length_drop, List.length_map, List.length_range, sizeLine_eq]; exact cut_len _ _ (by assumption))); intro D' ws' h' F' N' l1 hI'; (try k_lt l1); (try k_sweep)))
local macro_rules | `(tactic| walk_at "STEPSD") => `(tactic| repeat' ((fail_if_success (with_reducible show wpAny _ _ (call (Value.ref 186) _) _ _ _)); walk_at "STEP1"))
theorem c_detS (n d : Nat) (hn : n ≤ 1) (IH : DetIs (n + 1) d w mean mg mb) : DetIs (n + 2) (d + 1) w mean mg mb := by
  intro f l A s Q E hf hg X hdep hh ret
  walk_at "FILL"
  have KX := X.kx
  have T := X.top
  obtain ⟨rs, hrs, hls, hrow⟩ := id hg
  have hsz : (List.toArray (rs.map Value.ref)).size = n + 2 := by simp [hrs]
  refine' enterC [(Str.ofString "table", .ref l)] KX T (by omega) ?ho ?hcd ?hb ?hkd ?hnd ?c1 ?c2 ?c3 (fun h₁ tk cells F N Y => ?_)
  walk_at "ENTERC"
  k_cells Y
  walk_at "SHOW"
  k_fold
  walk_at "STEPS"
  · exfalso
    rename (((Array.size _ : Nat) : Int) = 1) => hq
    rw [hsz] at hq
    omega
  · refine forC s.heap (s.heap.objs.size + 1) (DeI f n l (s.heap.objs.size + 1)) (by rfl) (by rfl) (by rfl) ?_ ?_
    · rintro i m news ⟨t, oc, v₀, rfl, hd, e1, e2⟩
      exact ⟨oc, v₀, [], rfl, hd, fun _ h => nomatch h⟩
    walk_at "SHOW"
    k_fold
    walk_at "STEPS"
    refine iter_range (n := n + 2) hh (by assumption) (small_one (by omega) (by omega) (by omega) (by omega)) (by rw [rangeSize_one, hsz]; omega) (by assumption) (by assumption) (fun it h' hit F N hoff => ?_)
    refine ⟨_, _, _, _, hit, F, N, hoff, ⟨_, _, _, rfl, by assumption, rfl, rfl⟩, ?_, ?_⟩
    · rintro i v m₁ oo oc rest h₁ tk I oI hi ⟨tv, rfl⟩ ⟨t, oc', v₀, enews, hd', e1, e2⟩ hdc F N hcI off1 off2
      cases enews
      have F := fr2 F e1 e2
      walk_at "SHOW"
      k_fold
      walk_at "STEPS"
      have e0 : ((List.range (n + 2)).map (f (Int.toNat 0))).getD (0 + (i : Int)).toNat 0 = f 0 i := by
        rw [show (0 + (i : Int)).toNat = i by omega]; exact rowInts_getD (f 0) hi
      have e0b : Builtin.Int.intBits (((List.range (n + 2)).map (f (Int.toNat 0))).getD (0 + (i : Int)).toNat 0) ≤ 64 := by
        rw [e0]; exact intBits_le_iff.mpr (Nat.lt_trans (hf 0 i) (by decide))
      have hmod : (0 + (i : Int)).fmod 2 = ((i % 2 : Nat) : Int) := by
        rw [Int.fmod_eq_emod_of_nonneg _ (by decide)]; omega
      walk_at "LCOMP"
      walk_at "STEPS"
      rename (News _ _ _ _) => NN
      rename Addr => S
      rw [show List.drop (Int.toNat 1) (List.map Value.ref rs) = (rs.drop 1).map Value.ref from (List.map_drop).symm] at NN
      have hsz' : (List.toArray ((rs.drop 1).map Value.ref)).size = n + 1 := by simp [hrs]
      refine LCg.CompSrc.ledger hh (by k_asm) (by k_asm) (by k_mem) (by rw [hsz', sizeLine_eq]; omega) ?_
      intro g'
      rw [hsz']
      refine compI (DcI f n i rs I (s.heap.objs.size + 1) oI oc S) ?t ?s ?f
      case s => exact ⟨[], [], rfl, rfl, rfl, fun _ h => absurd h (Nat.not_lt_zero _)⟩
      case t =>
        rintro j v I₂ oI₂ C oC D m₂ ys nw h tk E' hj hv ⟨as, rest, rfl, rfl, hasl, hrest⟩ hC hx F N off ne
        simp only [LCg.Off3, and_true] at off
        obtain ⟨a1, a2, a3, a4⟩ := off
        obtain ⟨r, hr, rfl⟩ : ∃ r, rs[j + 1]? = some r ∧ v = .ref r := by
          simp at hv
          obtain ⟨r, h1, h2⟩ := hv
          exact ⟨r, by simpa [Nat.add_comm] using h1, h2.symm⟩
        have hrd : rs.getD (j + 1) 0 = r := by rw [List.getD_eq_getElem?_getD, hr]; rfl
        obtain ⟨vr, hlr, hir⟩ := hrow (j + 1) (by omega)
        rw [hrd] at hlr
        have hvl := hir.length
        have hlen : ((List.range (n + 2)).map (f (j + 1))).length = n + 2 := rowInts_len _ _
        walk_at "SHOW"
        k_fold
        walk_at "STEPS"
        rename (News _ _ _ _) => NN
        rename (IntsAre _ _) => hI
        rename (_ < _ ∧ _) => hlt
        rename Addr => D'
        rename List Value => ws
        rw [minor_row f n i j hi] at hI
        refine LCg.CompEnd.intro (by assumption) NN ((S, _) :: (I, oI) :: (_, oc) :: (D', listOf (List.toArray ws) 0) :: rest) ?_ ⟨a1, a2, a3, ⟨fun h => ?_, fun h => ?_, fun h => ?_⟩, a4⟩ (.inr ⟨_, List.mem_cons_self, rfl, _, rfl⟩) ⟨as ++ [D'], _, by rw [List.map_append]; rfl, rfl, ?_, ?_⟩
        · intro p hp
          simp only [List.mem_cons] at hp ⊢
          rcases hp with hp | hp | hp | hp | hp | hp | hp | hp
          · exact .inr (.inr (.inr (.inl hp)))
          · exact .inr (.inr (.inr (.inr (.inl hp))))
          · exact .inr (.inr (.inr (.inr (.inr (.inl hp)))))
          · exact .inr (.inr (.inr (.inr (.inr (.inr (.inl hp))))))
          · exact .inr (.inr (.inr (.inr (.inr (.inr (.inr (.inl hp)))))))
          · exact .inr (.inr (.inr (.inr (.inr (.inr (.inr (.inr (.inl hp))))))))
          · exact .inl hp
          · exact .inr (.inr (.inr (.inr (.inr (.inr (.inr (.inr (.inr hp))))))))
        · have := hlt.2.2.1; omega
        · have := hlt.2.2.2.1; omega
        · have := hlt.2.2.2.2.1; omega
        · rw [List.length_append, hasl]; rfl
        · intro j' hj'
          rcases Nat.lt_or_ge j' j with hjl | hjg
          · obtain ⟨vs, e, h1, h2⟩ := hrest j' hjl
            exact ⟨vs, e, by rw [getD_app _ _ _ (by rw [hasl]; exact hjl)]; exact List.mem_cons_of_mem _ h1, h2⟩
          · obtain rfl : j' = j := by omega
            exact ⟨_, _, by rw [getD_end _ _ _ hasl.symm]; exact List.mem_cons_self, hI⟩
      case f =>
        rintro ys nw ⟨as, rest, rfl, rfl, hasl, hrest⟩
        walk_at "STEPSD"
        refine IH (minor f i) _ _ _ _ _ (fun a b => hf _ _) ⟨as, hasl, News.isList (by k_asm) (by k_mem), fun j hj => ?_⟩ ?X ?hdep hh ?_
        · obtain ⟨vs, e, h1, h2⟩ := hrest j hj
          exact ⟨vs, News.isList (by k_asm) (List.mem_cons_of_mem _ (List.mem_cons_of_mem _ (List.mem_cons_of_mem _ (List.mem_cons_of_mem _ h1)))), h2⟩
        case X => walk_at "AMB"
        case hdep => walk_at "DEP"
        intro t' h' tk' hk'
        walk_at "BACK"
        walk_at "STEPS"
        · have e : detTo f (fun k => det (n + 1) (minor f k)) i + ((List.range (n + 2)).map (f (Int.toNat 0))).getD (0 + (i : Int)).toNat 0 * det (n + 1) (minor f i) = detTo f (fun k => det (n + 1) (minor f k)) (i + 1) := by
            rw [e0]
            show _ = if i % 2 = 0 then _ else _
            rw [if_pos (by rename (Int.fmod _ _ = _) => hq; rw [hmod] at hq; omega)]
          exact ⟨_, _, _, _, rfl, by assumption, cb_drop (by assumption) (by kcf_all), (by intro p hp; rcases List.mem_cons.mp hp with rfl | hp; exact hcI; cases hp), (fun _ h => nomatch h), ⟨_, oc, _, rfl, hdc, congrArg (fun z => some (Value.int z _)) e, rfl⟩⟩
        · have e : detTo f (fun k => det (n + 1) (minor f k)) i - ((List.range (n + 2)).map (f (Int.toNat 0))).getD (0 + (i : Int)).toNat 0 * det (n + 1) (minor f i) = detTo f (fun k => det (n + 1) (minor f k)) (i + 1) := by
            rw [e0]
            show _ = if i % 2 = 0 then _ else _
            rw [if_neg (by rename (Int.fmod _ _ ≠ _) => hq; rw [hmod] at hq; omega)]
          exact ⟨_, _, _, _, rfl, by assumption, cb_drop (by assumption) (by kcf_all), (by intro p hp; rcases List.mem_cons.mp hp with rfl | hp; exact hcI; cases hp), (fun _ h => nomatch h), ⟨_, oc, _, rfl, hdc, congrArg (fun z => some (Value.int z _)) e, rfl⟩⟩
    · rintro m₁ news₁ h₁ tk₁ ⟨t, oc', v₀, rfl, hd', e1, e2⟩ F N
      have F := fr2 F e1 e2
      walk_at "SHOW"
      k_fold
      walk_at "STEPS"
      exact ret _ _ _ (Fr.keep (by assumption))
theorem c_detOne : DetIs 1 0 w mean mg mb := fun f l _ _ _ _ _ hg X hd hh ret => c_det1 f l hg X hd hh ret
theorem c_detTwo : DetIs 2 1 w mean mg mb := c_detS 0 0 (by omega) c_detOne
theorem c_detThree : DetIs 3 2 w mean mg mb := c_detS 1 1 (by omega) c_detTwo
end

end
section
inductive JO (a b : List Nat) (u : Tok) (i : Nat) (m : Str → Option Value) (news : List (Addr × Obj)) : Prop
  | mk (r ys ep : _) (h0 : news = [(r, listOf (List.toArray ys) ep)]) (h1 : IntsAre ys (rowOf (a.take i) b)) (h2 : m (Str.ofString "row") = some (.ref r)) (h3 : m (Str.ofString "second") = some (.str (tx b) u))
inductive JI (a' b : List Nat) (u : Tok) (x : Nat) (t : Tok) (r₀ : Addr) (ys₀ : List Value) (ep₀ : Nat) (J : Addr × Obj) (k : Nat) (m : Str → Option Value) (news : List (Addr × Obj)) : Prop
  | mk (r ys ep : _) (h0 : r₀ ≠ r) (h1 : J.1 ≠ r) (h2 : news = [(r, listOf (List.toArray ys) ep), J, (r₀, listOf (List.toArray ys₀) ep₀)]) (h3 : IntsAre ys ((rowOf (a' ++ [x]) b).take (k + 1))) (h4 : m (Str.ofString "row") = some (.ref r)) (h5 : m (Str.ofString "older") = some (.ref r₀)) (h6 : m (Str.ofString "second") = some (.str (tx b) u)) (h7 : m (Str.ofString "sign") = some (.str (ch x) t))
section
variable {w : World} {mean : ExcName → Option Value} {mg mb : Str → Option Value} {A : Around} {s : Shared} {Q E : Value → Shared → Prop}
local macro_rules | `(tactic| walk_at "call ref") => `(tactic| (k_here; k_dflt (refine' c_cost _ _ _ _ (by assumption) (by assumption) (by walk_at "AMB") (by walk_at "DEP") ?_); intro t' h' tk' hk'; walk_at "BACK"))
local macro_rules | `(tactic| walk_at "call builtin:min") => `(tactic| (k_here; (with_reducible show wpAny _ _ (call (Value.builtin "min") [Value.int _ _, Value.int _ _, Value.int _ _]) _ _ _); refine min3 (by assumption) (by assumption) (by assumption) (fun h' tk' t' F' N' => ?_); (try k_sweep); (try dsimp only)))
theorem c_distance (a b : List Nat) (t u : Tok) (ha : ∀ c ∈ a, c ∈ alpha) (hb : ∀ c ∈ b, c ∈ alpha) (hal : a.length ≤ 5) (hbl : b.length ≤ 5) (X : Amb w mean mg mb s.heap) (hdep : A.depth + 1 < recursionLimit) (hh : A.handled = none)
    (ret : ∀ t' h' tk', s.heap.StaysIn h' → Q (.int (ed a b) t') { s with heap := h', toks := tk' }) :
    wpAny (model pw w) A (call (.ref 159) [.str (tx a) t, .str (tx b) u]) Q E s := by
  walk_at "FILL"
  have KX := X.kx
  have T := X.top
  have hla := tx_len a
  have hlb := tx_len b
  have hb6 : b.length ≤ 1000000 := Nat.le_trans hbl (by decide)
  refine' enterP [(Str.ofString "first", .str (tx a) t), (Str.ofString "second", .str (tx b) u)] KX T (by omega) ?ho ?hcd ?hb ?hl ?c1 ?c2 ?c3 ?c4 (fun h₁ F N => ?_)
  walk_at "ENTER"
  walk_at "SHOW"
  k_fold
  walk_at "STEPS"
  walk_at "ACOMP"
  walk_at "STEPS"
  refine LCg.CompSrc.range (n := b.length + 1) hh (by k_asm) (by k_asm) (by assumption) (small_one (by omega) (by omega) (by omega) (by omega)) (by rw [rangeSize_nat]; omega) (by rw [sizeLine_eq]; omega) ?_
  intro g'
  refine kcf_range (fun k => 2 * k) (fun k' t' I' oI' C' oC' D' m' ys' h' tk' E' hlo hhi hC' hx' F' N' off' ne' hMark' => ?_) ?_
  · walk_at "SHOW"
    k_fold
    walk_at "STEPS"
  intro ys hys
  walk_at "STEPS"
  refine forN s.heap (JO a b u) (by rfl) (by rfl) ?_
  walk_at "SHOW"
  k_fold
  walk_at "STEPS"
  refine iter_str hh (by assumption) (by assumption) (fun it h' hit F N hoff => ?_)
  refine ⟨_, _, _, _, _, hit, F, N, hoff, (fun _ h => nomatch h), ⟨_, _, _, rfl, by rw [List.take_zero, rowOf_nil]; exact hys, rfl, rfl⟩, ?_, ?_⟩
  · rintro i v m₁ news₁ h₁ tk I oI hi ⟨c, u', hc, rfl⟩ ⟨r, ys₁, ep, rfl, hy, e1, e2⟩ F N off fx
    have F := fs2 F e1 e2
    have hrl := rowOf_len (a.take i) b
    simp only [List.forall_mem_cons] at off
    walk_at "SHOW"
    k_fold
    have hcA : c ∈ alpha := ha c (by
      have h0 : a[i]? = some c := by simpa [tx] using hc
      exact List.mem_of_getElem? h0)
    walk_at "STEPS"
    refine forN s.heap (JI (a.take i) b u c u' r ys₁ ep (I, oI)) (by rfl) (by rfl) ?_
    walk_at "SHOW"
    k_fold
    walk_at "STEPS"
    refine iter_range (n := b.length) hh (by assumption) (small_one (by omega) (by omega) (by omega) (by omega)) (by rw [rangeSize_nat]; omega) (by assumption) (by assumption) (fun it h' hit F N hoff => ?_)
    have hg0 := rowOf_getD (a.take i) b (k := 0) (Nat.zero_le _)
    rename (List.length (rowOf _ _) = _) => hrl0
    refine ⟨_, _, _, _, _, hit, F, N, hoff, (fun _ h => nomatch h), ⟨_, [_], _, ?_, ?_, rfl, ?_, rfl, rfl, rfl, rfl⟩, ?_, ?_⟩
    · rename (_ ∧ r < _) => hne; exact Nat.ne_of_lt hne.2
    · rename (_ ∧ r < _) => hne; exact Nat.ne_of_lt hne.1
    · rw [rowOf_take_one]
      have e : (rowOf (a.take i) b).getD 0 0 + 2 = ((ed (a.take i ++ [c]) [] : Nat) : Int) := by
        rw [hg0, List.take_zero, ed_nil', ed_nil', List.length_append]; simp; omega
      show IntsAre [Value.int ((rowOf (a.take i) b).getD 0 0 + 2) _] _
      rw [e]
      exact .cons _ _ .nil
    · rintro k v m₂ news₂ h₂ tk₂ I₂ oI₂ hk ⟨tv, rfl⟩ ⟨r', ys₂, ep₂, hrr, hIr, rfl, hy₂, g1, g2, g3, g4⟩ F N off₂ fx₂
      have F := fs4 F g1 g2 g3 g4
      have hrl := rowOf_len (a.take i) b
      have hrl2 := rowOf_len (a.take i ++ [c]) b
      have hlt : ((rowOf (a.take i ++ [c]) b).take (k + 1)).length = k + 1 := by rw [List.length_take, hrl2]; omega
      have hyA : b.getD (0 + (k : Int)).toNat 0 ∈ alpha := hb _ (getD_mem (by omega))
      simp only [List.forall_mem_cons] at off₂
      obtain ⟨off1, off2, off3, _⟩ := off₂
      dsimp only at hIr
      have hyl := hy₂.length
      have o1 : @Ne Nat r' I₂ := off1
      have o2 : @Ne Nat I r' := hIr
      have o3 : @Ne Nat r r' := hrr
      walk_at "SHOW"
      k_fold
      walk_at "STEPS"
      refine ⟨_, _, _, _, rfl, by assumption, cb_drop (by assumption) (by kcf_all), ?_, (fun _ h => nomatch h), ⟨_, _, _, hrr, hIr, rfl, ?_, rfl, rfl, rfl, rfl⟩⟩
      · intro p hp
        simp only [List.mem_cons, List.not_mem_nil, or_false] at hp
        rcases hp with rfl | rfl | rfl
        · exact off1
        · exact off2
        · exact off3
      · rw [List.concat_eq_append]
        have hcell := ed_cell (a.take i) b (x := c) (y := b.getD k 0) (k := k) (by rw [List.getD_eq_getElem?_getD, List.getElem?_eq_getElem hk]; rfl)
        have n0 : ((0 : Int) + (k : Int)).toNat = k := by omega
        have n1 : ((0 : Int) + (k : Int) + 1).toNat = k + 1 := by omega
        have g0 := rowOf_getD (a.take i) b (k := k) (by omega)
        have g1' := rowOf_getD (a.take i) b (k := k + 1) (by omega)
        have g2' : (List.take (k + 1) (rowOf (List.take i a ++ [c]) b)).getD k 0 = ((ed (a.take i ++ [c]) (b.take k) : Nat) : Int) := by
          rw [List.getD_eq_getElem?_getD, List.getElem?_take_of_lt (by omega), rowOf_get _ b (by omega)]; rfl
        rw [rowOf_take_succ _ b hk, hcell, n0, n1, g0, g1', g2']
        rw [← cell_cast]
        exact hy₂.append (.cons _ _ .nil)
    · intro m₂ news₂ h₂ tk₂ ⟨r', ys₂, ep₂, hrr, hIr, e, hy₂, g1, g2, g3, g4⟩ F N fx₂
      subst e
      have F := fr3 F g1 g2 g3
      walk_at "SHOW"
      k_fold
      walk_at "STEPS"
      refine ⟨_, _, _, _, rfl, by assumption, cb_drop (by assumption) (by kcf_all), ?_, (fun _ h => nomatch h), ⟨_, _, _, rfl, ?_, rfl, rfl⟩⟩
      · intro p hp
        rw [List.mem_singleton.mp hp]
        exact fun h => hIr h.symm
      · have h0 : a[i]? = some c := by simpa [tx] using hc
        have e0 : a.take (i + 1) = a.take i ++ [c] := by rw [List.take_add_one, h0]; rfl
        rw [e0]
        rw [List.take_of_length_le (by rw [rowOf_len]; omega)] at hy₂
        exact hy₂
  · intro m₁ news₁ h₁ tk₁ ⟨r, ys₁, ep, e, hy, e1, e2⟩ F N fx₁
    subst e
    have F := fr2 F e1 e2
    rw [show a.take (tx a).cps.size = a from List.take_length] at hy
    have hrl := rowOf_len a b
    walk_at "SHOW"
    k_fold
    walk_at "STEPS"
    rw [show (rowOf a b).getD _ 0 = ((ed a b : Nat) : Int) from ?_]
    · exact ret _ _ _ (Fr.keep (by assumption))
    · rw [show ((-1 : Int) + ((rowOf a b).length : Int)).toNat = b.length by omega, rowOf_getD a b (Nat.le_refl _), List.take_length]
end

end
section
inductive PreI (a b : List Nat) (t u : Tok) (s : Shared) (k : Nat) (s₁ : Shared) : Prop
  | mk (h tk m p x v : _) (h0 : s₁ = { s with heap := h, toks := tk }) (h1 : Fr s.heap s.heap.objs.size h m) (h2 : News s.heap s.heap.objs.size h []) (h3 : m (Str.ofString "a") = some (.str (tx a) t)) (h4 : m (Str.ofString "b") = some (.str (tx b) u)) (h5 : m (Str.ofString "pre") = some (.int ((p : Nat) : Int) x)) (h6 : m (Str.ofString "max_cost") = some (.int 10 v)) (h7 : k = a.length - p) (h8 : p ≤ a.length) (h9 : p ≤ b.length) (h10 : a.take p = b.take p)
def PreP (a b : List Nat) (t u : Tok) (s : Shared) (f : Flow) (s₁ : Shared) : Prop := f = .next ∧ ∃ k, PreI a b t u s k s₁
inductive PostI (a b : List Nat) (s : Shared) (k : Nat) (s₁ : Shared) : Prop
  | mk (t u h tk m q x v : _) (h0 : s₁ = { s with heap := h, toks := tk }) (h1 : Fr s.heap s.heap.objs.size h m) (h2 : News s.heap s.heap.objs.size h []) (h3 : m (Str.ofString "a") = some (.str (tx a) t)) (h4 : m (Str.ofString "b") = some (.str (tx b) u)) (h5 : m (Str.ofString "post") = some (.int (-((q : Nat) : Int)) x)) (h6 : m (Str.ofString "max_cost") = some (.int 10 v)) (h7 : k = a.length - q) (h8 : q ≤ a.length) (h9 : q ≤ b.length) (h10 : ed (a.take (a.length - q)) (b.take (b.length - q)) = ed a b)
def PostP (a b : List Nat) (s : Shared) (f : Flow) (s₁ : Shared) : Prop := f = .next ∧ ∃ k, PostI a b s k s₁
/-- after a cut: a is l, b is l', post -q -/
inductive CutP (l l' : List Nat) (q : Nat) (s : Shared) (f : Flow) (s₁ : Shared) : Prop
  | mk (h0 : f = .next) (h tk m t u x v : _) (h1 : s₁ = { s with heap := h, toks := tk }) (h2 : Fr s.heap s.heap.objs.size h m) (h3 : News s.heap s.heap.objs.size h []) (h4 : m (Str.ofString "a") = some (.str (tx l) t)) (h5 : m (Str.ofString "b") = some (.str (tx l') u)) (h6 : m (Str.ofString "post") = some (.int (-((q : Nat) : Int)) x)) (h7 : m (Str.ofString "max_cost") = some (.int 10 v))
theorem strip_pre (a b : List Nat) : ∀ p, p ≤ a.length → p ≤ b.length → a.take p = b.take p → ed (a.drop p) (b.drop p) = ed a b := by
  intro p
  induction p generalizing a b with
  | zero => intro _ _ _; rfl
  | succ p ih =>
    intro h1 h2 h
    cases a with
    | nil => simp at h1
    | cons x a =>
      cases b with
      | nil => simp at h2
      | cons y b =>
        simp only [List.take_succ_cons, List.cons.injEq] at h
        obtain ⟨rfl, h⟩ := h
        rw [List.drop_succ_cons, List.drop_succ_cons, ed_same]
        exact ih a b (by simpa using h1) (by simpa using h2) h
theorem mixRow_getD' (b a : List Nat) (i : Nat) {j : Nat} {z : Int} (h : j < a.length) (hz : z.toNat = j) : (mixRow b a i j).getD z.toNat 0 = ((ed (b.take i) (a.take (j + 1)) : Nat) : Int) := by
  rw [hz]; exact mixRow_getD b a i h
theorem strip_last (a b : List Nat) {p q : Nat} (h1 : p < a.length) (h2 : q < b.length) (h : a.getD p 0 = b.getD q 0) : ed (a.take p) (b.take q) = ed (a.take (p + 1)) (b.take (q + 1)) := by
  rw [take_next a h1, take_next b h2, h, ed_same_last]
/-- the two texts, the shorter first -/
inductive SwapP (d : Nat) (s : Shared) (f : Flow) (s₁ : Shared) : Prop
  | mk (h0 : f = .next) (a b h tk m t u v : _) (h1 : s₁ = { s with heap := h, toks := tk }) (h2 : Fr s.heap s.heap.objs.size h m) (h3 : News s.heap s.heap.objs.size h []) (h4 : m (Str.ofString "a") = some (.str (tx a) t)) (h5 : m (Str.ofString "b") = some (.str (tx b) u)) (h6 : m (Str.ofString "max_cost") = some (.int 10 v)) (h7 : a.length ≤ b.length) (h8 : a.length ≠ 0) (h9 : b.length ≤ 5) (h10 : (∀ c ∈ a, c ∈ alpha)) (h11 : (∀ c ∈ b, c ∈ alpha)) (h12 : ed b a = d)
inductive LO (b a : List Nat) (i : Nat) (m : Str → Option Value) (news : List (Addr × Obj)) : Prop
  | mk (t u v r ys ep p x : _) (h0 : news = [(r, listOf (List.toArray ys) ep)]) (h1 : IntsAre ys (mixRow b a i 0)) (h2 : m (Str.ofString "row") = some (.ref r)) (h3 : m (Str.ofString "a") = some (.str (tx a) t)) (h4 : m (Str.ofString "b") = some (.str (tx b) u)) (h5 : m (Str.ofString "max_cost") = some (.int 10 v)) (h6 : m (Str.ofString "result") = some (.int ((p : Nat) : Int) x)) (h7 : (i ≠ 0 → p = ed (b.take i) a))
inductive LI (b a : List Nat) (t u v : Tok) (i : Nat) (J : Addr × Obj) (k : Nat) (m : Str → Option Value) (news : List (Addr × Obj)) : Prop
  | mk (r ys ep lo x y z w' : _) (h0 : J.1 ≠ r) (h1 : news = [J, (r, listOf (List.toArray ys) ep)]) (h2 : IntsAre ys (mixRow b a i k)) (h3 : m (Str.ofString "row") = some (.ref r)) (h4 : m (Str.ofString "a") = some (.str (tx a) t)) (h5 : m (Str.ofString "b") = some (.str (tx b) u)) (h6 : m (Str.ofString "max_cost") = some (.int 10 v)) (h7 : m (Str.ofString "result") = some (.int ((resAt b a i k : Nat) : Int) x)) (h8 : m (Str.ofString "distance") = some (.int ((ed (b.take i) (a.take k) : Nat) : Int) y)) (h9 : m (Str.ofString "minimum") = some (.int lo z)) (h10 : m (Str.ofString "bchar") = some (.str (ch (b.getD (0 + (i : Int)).toNat 0)) w')) (h11 : (k ≠ 0 → lo ≤ 10))
section
variable {w : World} {mean : ExcName → Option Value} {mg mb : Str → Option Value} {A : Around} {s : Shared} {Q E : Value → Shared → Prop}
local macro_rules | `(tactic| walk_at "subscriptTail Name Slice str ref") => `(tactic| (k_here; (with_reducible show wpAny _ _ (subscriptTail _ _ (Value.str (tx _) _) (Value.ref _)) _ _ _); k_dflt (first
  | (refine' cut_from (by exact rfl) (by exact rfl) (by k_asm) (by k_asm) (by omega) (by omega) ?_ (by with_unfolding_all rfl) (by intro _; with_unfolding_all rfl); intro h' t' k F' N'; (try k_sweep); (try dsimp only))
  | (refine' cut_all (by exact rfl) (by exact rfl) (by k_asm) (by k_asm) (by omega) ?_ (by with_unfolding_all rfl) (by intro _; with_unfolding_all rfl); intro h' t' k F' N'; (try k_sweep); (try dsimp only))
  | (refine' cut_up (by exact rfl) (by exact rfl) (by k_asm) (by k_asm) (by omega) (by omega) (by omega) ?_ (by with_unfolding_all rfl) (by intro _; with_unfolding_all rfl); intro h' t' k F' N'; (try k_sweep); (try dsimp only)))))
local macro_rules | `(tactic| walk_at "truthy str") => `(tactic| (k_here; (with_reducible show wpAny _ _ (truthy (Value.str (tx _) _)) _ _ _); k_dflt (refine truthy_tx (by (try simp only [List.length_drop, List.length_take]); omega) (fun hlen => ?_) (fun hlen => ?_)); (all_goals try simp only [List.length_drop, List.length_take] at hlen); (all_goals first | (exfalso; omega) | skip); (all_goals try rw [Nat.min_eq_left (Nat.sub_le _ _)] at hlen); (all_goals try replace hlen := Nat.lt_of_sub_ne_zero hlen); (all_goals try dsimp only)))
local macro_rules | `(tactic| walk_at "subscriptTail Name BinOp str int") => `(tactic| (k_here; walk_at "ITX?"; k_dflt (refine' item_txneg (by omega) (by omega) (by omega) ?_ (by with_unfolding_all rfl) (by intro _; with_unfolding_all rfl))))
local macro_rules | `(tactic| walk_at "subscriptTail") => `(tactic| walk_at "subscriptTail Name BinOp str int")
local macro_rules | `(tactic| walk_at "call type:list") => `(tactic| (k_here; k_dflt (refine list_range2 (by assumption) (by assumption) (by assumption) (by assumption) (by omega) (fun D c h' tk' vs F' N' lt' hvs => ?_)); (try k_sweep); (try dsimp only)))
local macro_rules | `(tactic| walk_at "call ref") => `(tactic| (k_here; k_dflt (refine' c_subst _ _ _ _ (by assumption) (by assumption) (by walk_at "AMB") (by walk_at "DEP") ?_); intro t' h' tk' hk'; walk_at "BACK"))
local macro_rules | `(tactic| walk_at "STEPSIF") => `(tactic| repeat' ((fail_if_success (with_reducible show wpAny _ _ (exec (Stmt.If (Expr.Compare (Expr.Call _ _ _ _) _ _ _) _ _ _) _) _ _ _)); walk_at "STEP1"))
local macro_rules | `(tactic| walk_at "call builtin:min") => `(tactic| (k_here; (with_reducible show wpAny _ _ (call (Value.builtin "min") [Value.int _ _, Value.int _ _]) _ _ _); refine min2 (by assumption) (by assumption) (by assumption) (fun h' tk' t' F' N' => ?_); (try k_sweep); (try dsimp only)))
theorem sub_back {n q : Nat} (h : q < n) : n - (q + 1) + 1 = n - q := by
  rw [← Nat.sub_sub, Nat.sub_add_cancel (Nat.sub_pos_of_lt h)]
theorem sub_less {n q : Nat} (h : q < n) : n - (q + 1) < n - q := by omega
theorem sub_lt1 {n q : Nat} (h : q < n) : n - (q + 1) < n := by omega
theorem c_lev (a b : List Nat) (t u v : Tok) (ha : ∀ c ∈ a, c ∈ alpha) (hb : ∀ c ∈ b, c ∈ alpha) (hal : a.length ≤ 5) (hbl : b.length ≤ 5) (X : Amb w mean mg mb s.heap) (hdep : A.depth + 1 < recursionLimit) (hh : A.handled = none)
    (ret : ∀ t' h' tk', s.heap.StaysIn h' → Q (.int (ed a b) t') { s with heap := h', toks := tk' }) :
    wpAny (model pw w) A (call (.ref 123) [.str (tx a) t, .str (tx b) u, .int 10 v]) Q E s := by
  walk_at "FILL"
  have KX := X.kx
  have T := X.top
  have hla := tx_len a
  have hlb := tx_len b
  refine' enterP [(Str.ofString "a", .str (tx a) t), (Str.ofString "b", .str (tx b) u), (Str.ofString "max_cost", .int 10 v)] KX T (by omega) ?ho ?hcd ?hb ?hl ?c1 ?c2 ?c3 ?c4 (fun h₁ F N => ?_)
  walk_at "ENTER"
  walk_at "SHOW"
  k_fold
  walk_at "STEPS"
  · rename ((tx a == tx b) = true) => hq
    have e : a = b := tx_inj (eq_of_beq hq)
    have h0 : ((ed a b : Nat) : Int) = 0 := by rw [e, ed_self]; rfl
    rw [h0] at ret
    exact ret _ _ _ (Fr.keep (by assumption))
  refine wpAny_mono (Q := PreP a b t u s) (whileI (PreI a b t u s) (fun k s₁ hs => ?_) a.length ⟨_, _, _, 0, _, _, rfl, by assumption, by assumption, rfl, rfl, rfl, rfl, rfl, Nat.zero_le _, Nat.zero_le _, rfl⟩) (fun f s₁ hf => ?_) fun _ _ x => x
  · obtain ⟨h, tk, m, p, x, v', rfl, F, N, e1, e2, e3, e4, rfl, hpa, hpb, htk⟩ := hs
    have F := fr4 F e1 e2 e3 e4
    walk_at "SHOW"
    k_fold
    walk_at "STEPS"
    · rename ((ch _ == ch _) = true) => hq
      rw [ch_beq] at hq
      have hq := of_decide_eq_true hq
      refine ⟨a.length - (p + 1), sub_less (by omega), _, _, _, p + 1, _, _, rfl, by assumption, by assumption, rfl, rfl, rfl, rfl, rfl, by omega, by omega, ?_⟩
      rw [take_next a (by omega), take_next b (by omega), htk]
      simp only [Int.toNat_natCast] at hq
      rw [hq]
    all_goals exact ⟨rfl, a.length - p, _, _, _, p, _, _, rfl, by assumption, by assumption, rfl, rfl, rfl, rfl, rfl, hpa, hpb, htk⟩
  obtain ⟨rfl, k, h, tk, m, p, x, v', rfl, F, N, e1, e2, e3, e4, hk, hpa, hpb, htk⟩ := hf
  have F := fr4 F e1 e2 e3 e4
  have hed := strip_pre a b p hpa hpb htk
  walk_at "SHOW"
  walk_at "STEPS"
  have hA : ∀ c ∈ a.drop p, c ∈ alpha := fun c hc => ha c (List.mem_of_mem_drop hc)
  have hB : ∀ c ∈ b.drop p, c ∈ alpha := fun c hc => hb c (List.mem_of_mem_drop hc)
  have hAl : (a.drop p).length ≤ 5 := by rw [List.length_drop]; omega
  have hBl : (b.drop p).length ≤ 5 := by rw [List.length_drop]; omega
  generalize a.drop p = a1 at *
  generalize b.drop p = b1 at *
  refine wpAny_mono (Q := PostP a1 b1 s) (whileI (PostI a1 b1 s) (fun k s₁ hs => ?_) a1.length ⟨_, _, _, _, _, 0, _, _, rfl, by assumption, by assumption, rfl, rfl, rfl, rfl, rfl, Nat.zero_le _, Nat.zero_le _, ?_⟩) (fun f s₁ hf => ?_) fun _ _ x => x
  · obtain ⟨t1, u1, h, tk, m, q, x, v', rfl, F, N, e1, e2, e3, e4, rfl, hqa, hqb, hqe⟩ := hs
    rcases Nat.eq_zero_or_pos q with rfl | hq0
    · have e3 : m (Str.ofString "post") = some (.int 0 x) := e3
      have F := fr4 F e1 e2 e3 e4
      walk_at "SHOW"
      walk_at "STEPS"
      · rename ((ch _ == ch _) = true) => hq
        rw [ch_beq] at hq
        have hq := of_decide_eq_true hq
        refine ⟨a1.length - (0 + 1), by omega, _, _, _, _, _, 0 + 1, _, _, rfl, by assumption, by assumption, rfl, rfl, congrArg (fun z => some (Value.int z _)) (show ((0 : Int) - 1) = -((0 + 1 : Nat) : Int) by omega), rfl, rfl, by omega, by omega, ?_⟩
        · simp only [show (-((0 : Int) - 1)).toNat = 1 from rfl] at hq
          rw [strip_last a1 b1 (by omega) (by omega) hq, Nat.sub_add_cancel (by omega), Nat.sub_add_cancel (by omega), List.take_length, List.take_length]
      all_goals exact ⟨rfl, a1.length - 0, _, _, _, _, _, 0, _, _, rfl, by assumption, by assumption, rfl, rfl, rfl, rfl, rfl, hqa, hqb, hqe⟩
    · have F := fr4 F e1 e2 e3 e4
      walk_at "SHOW"
      walk_at "STEPS"
      · rename ((ch _ == ch _) = true) => hq
        rw [ch_beq] at hq
        have hq := of_decide_eq_true hq
        have c1 : (-(-(q : Int) - 1)).toNat = q + 1 := by omega
        refine ⟨a1.length - (q + 1), sub_less (by assumption), _, _, _, _, _, q + 1, _, _, rfl, by assumption, by assumption, rfl, rfl, congrArg (fun z => some (Value.int z _)) (show (-(q : Int) - 1) = -((q + 1 : Nat) : Int) by omega), rfl, rfl, by omega, by omega, ?_⟩
        · rw [c1] at hq
          rw [strip_last a1 b1 (sub_lt1 (by assumption)) (sub_lt1 (by assumption)) hq, sub_back (n := a1.length) (by assumption), sub_back (n := b1.length) (by assumption), hqe]
      all_goals exact ⟨rfl, a1.length - q, _, _, _, _, _, q, _, _, rfl, by assumption, by assumption, rfl, rfl, rfl, rfl, rfl, hqa, hqb, hqe⟩
  · show ed (a1.take a1.length) (b1.take b1.length) = _
    rw [List.take_length, List.take_length]
  obtain ⟨rfl, k, t1, u1, h, tk, m, q, x, v', rfl, F, N, e1, e2, e3, e4, hk, hqa, hqb, hqe⟩ := hf
  have F := fr4 F e1 e2 e3 e4
  walk_at "SHOW"
  refine wpAny_execs_cons ?_
  refine wpAny_mono (Q := CutP (a1.take (a1.length - q)) b1 q s) ?_ (fun f s₁ hf => ?_) fun _ _ x => x
  · walk_at "STEPS"
    · exact ⟨rfl, _, _, _, _, _, _, _, rfl, by assumption, by assumption, rfl, rfl, rfl, rfl⟩
    · have hq0 : q = 0 := by omega
      rw [hq0, Nat.sub_zero, List.take_length]
      exact ⟨rfl, _, _, _, _, _, _, _, rfl, by assumption, by assumption, rfl, rfl, congrArg (fun z => some (Value.int z _)) (show (-(q : Int)) = -((0 : Nat) : Int) by omega), rfl⟩
  obtain ⟨rfl, h, tk, m, t1, u1, x, v', rfl, F, N, e1, e2, e3, e4⟩ := hf
  have F := fr4 F e1 e2 e3 e4
  walk_at "SHOW"
  refine wpAny_execs_cons ?_
  refine wpAny_mono (Q := CutP (a1.take (a1.length - q)) (b1.take (b1.length - q)) q s) ?_ (fun f s₁ hf => ?_) fun _ _ x => x
  · walk_at "STEPS"
    · exact ⟨rfl, _, _, _, _, _, _, _, rfl, by assumption, by assumption, rfl, rfl, rfl, rfl⟩
    · have hq0 : q = 0 := by omega
      have e0 : b1.take (b1.length - q) = b1 := by rw [hq0, Nat.sub_zero, List.take_length]
      rw [e0]
      exact ⟨rfl, _, _, _, _, _, _, _, rfl, by assumption, by assumption, rfl, rfl, rfl, rfl⟩
  obtain ⟨rfl, h, tk, m, t1, u1, x, v', rfl, F, N, e1, e2, e3, e4⟩ := hf
  have F := fr3 F e1 e2 e4
  have hA2 : ∀ c ∈ a1.take (a1.length - q), c ∈ alpha := fun c hc => hA c (List.mem_of_mem_take hc)
  have hB2 : ∀ c ∈ b1.take (b1.length - q), c ∈ alpha := fun c hc => hB c (List.mem_of_mem_take hc)
  have hAl2 : (a1.take (a1.length - q)).length ≤ 5 := by rw [List.length_take]; omega
  have hBl2 : (b1.take (b1.length - q)).length ≤ 5 := by rw [List.length_take]; omega
  have hed2 := hqe.trans hed
  clear hqe hed
  generalize a1.take (a1.length - q) = a2 at *
  generalize b1.take (b1.length - q) = b2 at *
  have hla2 := tx_len a2
  have hlb2 := tx_len b2
  walk_at "SHOW"
  walk_at "STEPSIF"
  rotate_left
  · rename (b2.length = 0) => hz
    have e : ((ed a b : Nat) : Int) = 2 * (((tx a2).length : Int) + ((tx b2).length : Int)) := by
      rw [← hed2, hla2, hlb2, hz, List.length_eq_zero_iff.mp hz, ed_nil']; omega
    rw [e] at ret
    exact ret _ _ _ (Fr.keep (by assumption))
  · rename (a2.length = 0) => hz
    have e : ((ed a b : Nat) : Int) = 2 * (((tx a2).length : Int) + ((tx b2).length : Int)) := by
      rw [← hed2, hla2, hlb2, hz, List.length_eq_zero_iff.mp hz, ed_nil]; omega
    rw [e] at ret
    exact ret _ _ _ (Fr.keep (by assumption))
  rename (a2.length ≠ 0) => hz1
  rename (b2.length ≠ 0) => hz2
  refine wpAny_mono (Q := SwapP (ed a b) s) ?_ (fun f s₁ hf => ?_) fun _ _ x => x
  · walk_at "STEPS"
    · exact ⟨rfl, b2, a2, _, _, _, _, _, _, rfl, by assumption, News.nil, rfl, rfl, rfl, by omega, hz2, hAl2, hB2, hA2, hed2⟩
    · exact ⟨rfl, a2, b2, _, _, _, _, _, _, rfl, by assumption, by assumption, rfl, rfl, rfl, by omega, hz1, hBl2, hA2, hB2, by rw [ed_symm]; exact hed2⟩
  obtain ⟨rfl, a3, b3, h, tk, m, t1, u1, v', rfl, F, N, e1, e2, e3, h3l, h3n, h3b, hA3, hB3, hed3⟩ := hf
  have F := fr3 F e1 e2 e3
  have hla3 := tx_len a3
  have hlb3 := tx_len b3
  have h5a : a3.length ≤ 5 := Nat.le_trans h3l h3b
  have h6a : a3.length ≤ 1000000 := Nat.le_trans h5a (by decide)
  have h6b : b3.length ≤ 1000000 := Nat.le_trans h3b (by decide)
  walk_at "SHOW"
  walk_at "STEPS"
  refine forN s.heap (LO b3 a3) (by rfl) (by rfl) ?_
  walk_at "SHOW"
  walk_at "STEPS"
  refine iter_range (n := b3.length) hh (by assumption) (small_one (by omega) (by omega) (by omega) (by omega)) (by rw [rangeSize_nat]; omega) (by assumption) (by assumption) (fun it h' hit F N hoff => ?_)
  refine ⟨_, _, _, _, _, hit, F, N, hoff, (fun _ h => nomatch h), ⟨_, _, _, _, _, _, 0, _, rfl, by rw [mixRow_start]; assumption, rfl, rfl, rfl, rfl, rfl, fun h => absurd rfl h⟩, ?_, ?_⟩
  · rintro i v m₁ news₁ h₁ tk I oI hi ⟨tv, rfl⟩ ⟨t1, u1, v', r, ys₁, ep, p, x, rfl, hy, e1, e2, e3, e4, e5, e6⟩ F N off fx
    have F := fs4 F e1 e2 e3 e4
    have hrl := mixRow_len b3 a3 i 0
    have hyB : b3.getD (0 + (i : Int)).toNat 0 ∈ alpha := hB3 _ (getD_mem (by omega))
    simp only [List.forall_mem_cons] at off
    walk_at "SHOW"
    k_fold
    walk_at "STEPS"
    refine forN s.heap (LI b3 a3 t1 u1 v' i (I, oI)) (by rfl) (by rfl) ?_
    walk_at "SHOW"
    k_fold
    walk_at "STEPS"
    refine iter_range (n := a3.length) hh (by assumption) (small_one (by omega) (by omega) (by omega) (by omega)) (by rw [rangeSize_nat]; omega) (by assumption) (by assumption) (fun it h' hit F N hoff => ?_)
    have e0 : (0 + (i : Int)) * 2 = ((resAt b3 a3 i 0 : Nat) : Int) := by
      show _ = ((2 * i : Nat) : Int)
      omega
    have e0' : (0 + (i : Int)) * 2 = ((ed (b3.take i) (a3.take 0) : Nat) : Int) := by
      rw [List.take_zero, ed_nil', List.length_take]; omega
    refine ⟨_, _, _, _, _, hit, F, N, hoff, (fun _ h => nomatch h), ⟨r, _, _, _, _, _, _, _, fun h => off.1 h.symm, rfl, hy, rfl, rfl, rfl, rfl, congrArg (fun z => some (Value.int z _)) e0, congrArg (fun z => some (Value.int z _)) e0', rfl, rfl, fun h => absurd rfl h⟩, ?_, ?_⟩
    · rintro k v m₂ news₂ h₂ tk₂ I₂ oI₂ hk ⟨tv₂, rfl⟩ ⟨r', ys₂, ep₂, lo, x₂, y₂, z₂, w₂, hIr, rfl, hy₂, g1, g2, g3, g4, g5, g6, g7, g8, glo⟩ F N off₂ fx₂
      have F := fs8 F g1 g2 g3 g4 g5 g6 g7 g8
      have hrl := mixRow_len b3 a3 i k
      have hyA : a3.getD (0 + (k : Int)).toNat 0 ∈ alpha := hA3 _ (getD_mem (by omega))
      simp only [List.forall_mem_cons] at off₂
      obtain ⟨off1, off2, _⟩ := off₂
      have o1 : @Ne Nat r' I₂ := off2
      have o2 : @Ne Nat I r' := hIr
      have n0 : (0 + (k : Int)).toNat = k := by omega
      have m0 : (0 + (i : Int)).toNat = i := by omega
      have hd : (mixRow b3 a3 i k).getD (0 + (k : Int)).toNat 0 = ((ed (b3.take i) (a3.take (k + 1)) : Nat) : Int) := by
        rw [n0]; exact mixRow_getD b3 a3 i hk
      have hv : min (min ((resAt b3 a3 i k : Nat) : Int) ((mixRow b3 a3 i k).getD (0 + (k : Int)).toNat 0) + 2) (((ed (b3.take i) (a3.take k) : Nat) : Int) + ((cst (b3.getD (0 + (i : Int)).toNat 0) (a3.getD (0 + (k : Int)).toNat 0) : Nat) : Int)) = ((ed (b3.take (i + 1)) (a3.take (k + 1)) : Nat) : Int) := by
        rw [hd, n0, m0, lev_cast, ← lev_cell b3 a3 hi hk]
      have hv' : min (min ((resAt b3 a3 i k : Nat) : Int) ((mixRow b3 a3 i k).getD (0 + (k : Int)).toNat 0) + 2) (((ed (b3.take i) (a3.take k) : Nat) : Int) + ((cst (b3.getD (0 + (i : Int)).toNat 0) (a3.getD (0 + (k : Int)).toNat 0) : Nat) : Int)) = ((resAt b3 a3 i (k + 1) : Nat) : Int) := by
        rw [hv]; simp [resAt]
      have hlow := lev_low b3 a3 (i + 1) (k + 1) h3b (by omega)
      have hset : (mixRow b3 a3 i k).set (0 + (k : Int)).toNat (min (min ((resAt b3 a3 i k : Nat) : Int) ((mixRow b3 a3 i k).getD (0 + (k : Int)).toNat 0) + 2) (((ed (b3.take i) (a3.take k) : Nat) : Int) + ((cst (b3.getD (0 + (i : Int)).toNat 0) (a3.getD (0 + (k : Int)).toNat 0) : Nat) : Int))) = mixRow b3 a3 i (k + 1) := by
        rw [hv, n0]; exact mixRow_set b3 a3 i hk
      have hoffs : ∀ vs c, ∀ p ∈ [(I, oI), (r', listOf vs c)], p.1 ≠ I₂ := fun vs c p hp => by
        simp only [List.mem_cons, List.not_mem_nil, or_false] at hp
        rcases hp with rfl | rfl
        · exact off1
        · exact off2
      clear hd
      walk_at "SHOW"
      k_fold
      walk_at "STEPS"
      · exact ⟨_, _, _, _, rfl, by assumption, cb_drop (by assumption) (by kcf_all), hoffs _ _, (fun _ h => nomatch h), ⟨r', _, _, _, _, _, _, _, hIr, rfl, by rw [← hset]; exact ints_set hy₂ _, rfl, rfl, rfl, rfl, congrArg (fun z => some (Value.int z _)) hv', congrArg (fun z => some (Value.int z _)) (mixRow_getD' b3 a3 i hk n0), rfl, rfl, fun _ => by rw [hv]; omega⟩⟩
      · rename (¬ (_ < lo)) => hge
        rw [hv] at hge
        exact ⟨_, _, _, _, rfl, by assumption, cb_drop (by assumption) (by kcf_all), hoffs _ _, (fun _ h => nomatch h), ⟨r', _, _, _, _, _, _, _, hIr, rfl, by rw [← hset]; exact ints_set hy₂ _, rfl, rfl, rfl, rfl, congrArg (fun z => some (Value.int z _)) hv', congrArg (fun z => some (Value.int z _)) (mixRow_getD' b3 a3 i hk n0), rfl, rfl, fun _ => by omega⟩⟩
    · rintro m₂ news₂ h₂ tk₂ ⟨r', ys₂, ep₂, lo, x₂, y₂, z₂, w₂, hIr, rfl, hy₂, g1, g2, g3, g4, g5, g6, g7, g8, glo⟩ F N fx₂
      have F := fr6 F g1 g2 g3 g4 g5 g7
      have glo := glo h3n
      walk_at "SHOW"
      k_fold
      walk_at "STEPS"
      refine ⟨_, _, _, _, rfl, by assumption, cb_drop (by assumption) (by kcf_all), fun p hp => ?_, (fun _ h => nomatch h), ⟨_, _, _, r', ys₂, _, _, _, rfl, by rw [← mixRow_end]; exact hy₂, rfl, rfl, rfl, rfl, rfl, fun _ => ?_⟩⟩
      · rw [List.mem_singleton.mp hp]; exact fun h => hIr h.symm
      · unfold resAt
        rw [if_neg h3n, List.take_length]
  · rintro m₁ news₁ h₁ tk₁ ⟨t1, u1, v', r, ys₁, ep, p, x, rfl, hy, e1, e2, e3, e4, e5, e6⟩ F N fx
    have F := fr2 F e1 e5
    have e7 := e6 (by omega)
    rw [List.take_length, hed3] at e7
    walk_at "SHOW"
    k_fold
    walk_at "STEPS"
    rw [e7]
    exact ret _ _ _ (Fr.keep (by assumption))
end

end
section
theorem wpAny_newEnv_cell {M : Model} {A : Around} {E : Value → Shared → Prop} {s : Shared} {env : Env} {scope : Scope} {globals : Addr} {cl : List (Str × Addr)} {qual x : Str} {Q : Env → Shared → Prop} (hcells : ∀ n, cellsFrom n scope.names cl = (x, n) :: cl) (hpush : ∀ h : Heap, pushCells h scope.names = h.push { cls := .type "cell", data := .cell none })
    (hQ : Q (newEnv scope s.heap.objs.size globals ((x, s.heap.objs.size + 1) :: cl) qual none .none (some env) builtinsNs) { s with heap := (s.heap.push { cls := .type "dict", data := .dict #[] }).push { cls := .type "cell", data := .cell none } }) :
    wpAny M A (newFunctionEnv scope globals cl [] qual none .none (some env)) Q E s := by
  simp only [newFunctionEnv, Option.isSome_some, if_true]
  refine wpAny_bind (wpAny_alloc ?_)
  refine wpAny_bind (wpAny_layCells _ (fun name kind cells => by cases hkc : kind == NameKind.cell <;> simp [hkc]) _ _ _ _ ?_)
  rw [show ({ s with heap := s.heap.push { cls := .type "dict", data := .dict #[] } } : Shared).heap.objs.size = s.heap.objs.size + 1 from Heap.size_push ..]
  rw [hcells, hpush]
  refine wpAny_bind ?_
  rw [List.forIn_nil]
  exact wpAny_pure (wpAny_pure hQ)
section
variable {prog : Program} {w : World} {A : Around} {E : Value → Shared → Prop} {s : Shared} {env : Env} {h₀ : Heap} {L : Addr} {m : Str → Option Value}
inductive TurnEnd (h₀ : Heap) (L : Addr) (m : Str → Option Value) (I : Addr) (oI : Obj) (C : Addr) (oC : Obj) (D : Addr) (oD : Obj) (c : Addr) (oc : Obj) (J : List Value → List (Addr × Obj) → Prop) (ys : List Value) (s₁ : Shared) (y : Value) (s' : Shared) : Prop
  | mk (h' tk' nw' : _) (h0 : s' = { s₁ with heap := h', toks := tk' }) (h1 : Fr h₀ L h' m) (h2 : News h₀ L h' ((I, oI) :: (C, oC) :: (D, oD) :: (c, oc) :: nw')) (h3 : LCg.Off3 I C D nw') (h4 : (∀ p ∈ nw', p.1 ≠ c)) (h5 : J (ys ++ [y]) nw')
inductive CellSrc (prog : Program) (w : World) (A : Around) (h₀ : Heap) (L : Addr) (m : Str → Option Value) (env : Env) (elt : Expr) (x : Str) (scope : Scope) (cl : List (Str × Addr)) (Inv : Nat → List Value → List (Addr × Obj) → Prop) (Q : Value → Shared → Prop) (xv : Value) (s₁ : Shared) : Prop
  | mk (ax its news : _) (h0 : xv = .ref ax) (h1 : A.handled = none) (h2 : Fr h₀ L s₁.heap m) (h3 : News h₀ L s₁.heap news) (h4 : h₀.IsList ax its) (h5 : its.size ≤ sizeLine) (h6 : Inv 0 [] news) (h7 : (∀ i v I oI C oC D c oc ys nw h tk (E' : Value → Shared → Prop), i < its.size → its[i]? = some v → Inv i ys nw → oc.data = .cell (some v) → Fr h₀ L h m → News h₀ L h ((I, oI) :: (C, oC) :: (D, LCg.lst ys) :: (c, oc) :: nw) → LCg.Off3 I C D nw → (∀ p ∈ nw, p.1 ≠ c) → ((@Ne Nat I C) ∧ (@Ne Nat I D) ∧ (@Ne Nat C D) ∧ (@Ne Nat I c) ∧ (@Ne Nat C c) ∧ (@Ne Nat D c)) → wpAny (model prog w) A (eval elt (compEnvC scope ((x, c) :: cl) C env)) (TurnEnd h₀ L m I oI C oC D (LCg.lst ys) c oc (Inv (i + 1)) ys { s₁ with heap := h, toks := tk }) E' { s₁ with heap := h, toks := tk })) (h8 : (∀ ys nw D h tk, Inv its.size ys nw → Fr h₀ L h m → News h₀ L h ((D, LCg.lst ys) :: nw) → LCg.Off1 D nw → Q (.ref D) { s₁ with heap := h, toks := tk }))
/-- a list comp over a list of the base whose name is a captured one -/
inductive InC (h₀ : Heap) (L : Addr) (m : Str → Option Value) (I D ax : Addr) (its : Array Value) (Inv : Nat → List Value → List (Addr × Obj) → Prop) (s₁ : Shared) (k : Nat) (s' : Shared) : Prop
  | mk (h' : Heap) (tk i : Nat) (ys : List Value) (news' : List (Addr × Obj)) (oc : Obj) (v₀ : Option Value) (e : s' = { s₁ with heap := h', toks := tk }) (hi : i ≤ its.size) (hk : k = its.size + 1 - i) (hyl : ys.length = i) (hst : h'.IsListIter I ax i ∧ h'.IsList ax its) (F : Fr h₀ L h' m) (hn : h'.Ns (D + 1) (fun _ => none)) (N : News h₀ L h' ((D, LCg.lst ys) :: (D + 1 + 1, oc) :: news')) (hd : oc.data = .cell v₀)
      (off : LCg.Off3 I (D + 1) D news') (offc : ∀ p ∈ news', p.1 ≠ D + 1 + 1) (J : Inv i ys news')
theorem ListComp_Cell {elt iter : Expr} {x : Str} {px : Pos} {scope : Scope} {cl : List (Str × Addr)} {pos : Pos} {Q : Value → Shared → Prop} (Inv : Nat → List Value → List (Addr × Obj) → Prop) (_F₀ : Fr h₀ L s.heap m)
    (hclos : closureFor scope env = pure cl) (hcells : ∀ n, cellsFrom n scope.names cl = (x, n) :: cl) (hpush : ∀ h : Heap, pushCells h scope.names = h.push { cls := .type "cell", data := .cell none }) (hkind : scope.kind = .function)
    (hnames : ∀ y ∈ scope.names, y.2 = .local → scope.names.lookup y.1 = some .local) (hx : ∀ cl C, (compEnvC scope cl C env).kindOf x = some .cell)
    (h : wpAny (model prog w) A (eval iter env) (CellSrc prog w A h₀ L m env elt x scope cl Inv Q) E s)
    (hs : ∀ x, foldedSetIterable iter env x = pure x := by intro _; rfl) :
    wpAny (model prog w) A (eval (.ListComp elt [⟨.Name x px, iter, [], 0⟩] scope pos) env) Q E s := by
  rw [eval_ListComp]
  refine wpAny_comprehension_free (use := none) rfl hs hclos hkind hnames (wpAny_mono h (fun xv s₁ h₁ => ?_) fun _ _ e => e)
  obtain ⟨ax, its, news, rfl, hh, F, N, hl₀, hsz, start, turn, fin⟩ := h₁
  have hl : s₁.heap.IsList ax its := by
    obtain ⟨o, e, r⟩ := hl₀
    exact ⟨o, F.keep _ _ e, r⟩
  have hlt : ax < s₁.heap.objs.size := by obtain ⟨_, e, _⟩ := hl; exact Heap.lt_size e
  refine wpAny_pyIter_list hl ?_
  have up : ∀ b o, s₁.heap.get? b = some o → (s₁.heap.push { cls := .type "list_iterator", data := .fields #[.ref ax, .int 0 0] }).get? b = some o := fun b o e => Heap.get?_push_of_some _ e
  have W : Walks prog w A s₁.heap.objs.size [s₁.heap.objs.size, ax] [s₁.heap.objs.size] its.size (fun i v => its[i]? = some v) (fun i h => h.IsListIter s₁.heap.objs.size ax i ∧ h.IsList ax its) := Walks.list hh s₁.heap.objs.size ax (Nat.ne_of_lt hlt) its
  have hst : (fun i (h : Heap) => h.IsListIter s₁.heap.objs.size ax i ∧ h.IsList ax its) 0 (s₁.heap.push { cls := .type "list_iterator", data := .fields #[.ref ax, .int 0 0] }) := ⟨⟨_, Heap.get?_push_size _ rfl, rfl, rfl⟩, hl.push _⟩
  have F1 : Fr h₀ L (s₁.heap.push { cls := .type "list_iterator", data := .fields #[.ref ax, .int 0 0] }) m := F.keeps up
  have N1 : News h₀ L (s₁.heap.push { cls := .type "list_iterator", data := .fields #[.ref ax, .int 0 0] }) news := N.grown up
  have hLI : L ≠ s₁.heap.objs.size := Nat.ne_of_lt F.ns.lt
  have hI₀ : h₀.get? s₁.heap.objs.size = none := next_is_new F
  have offI : ∀ p ∈ news, p.1 < s₁.heap.objs.size := fun p hp => Heap.lt_size (N p hp).1
  have hI2 : s₁.heap.objs.size < (s₁.heap.push { cls := .type "list_iterator", data := .fields #[.ref ax, .int 0 0] }).objs.size := by rw [Heap.size_push]; exact Nat.lt_succ_self _
  generalize hg2 : s₁.heap.push { cls := .type "list_iterator", data := .fields #[.ref ax, .int 0 0] } = g2 at *
  generalize hIe : s₁.heap.objs.size = I at *
  refine wpAny_newObj_type (wpAny_newEnv_cell hcells hpush ?_)
  dsimp only
  generalize hH2 : g2.push { cls := .type "list", dict := none, data := .seq ([] : List Value).toArray } = H2
  generalize hH3 : H2.push { cls := .type "dict", data := .dict #[] } = H3
  generalize hH4 : H3.push { cls := .type "cell", data := .cell none } = h₁
  generalize hDe : g2.objs.size = D at *
  have hC : H2.objs.size = D + 1 := by rw [← hH2, Heap.size_push, hDe]
  have hcE : H3.objs.size = D + 1 + 1 := by rw [← hH3, Heap.size_push, hC]
  rw [hC]
  have old2 : ∀ b o, g2.get? b = some o → H2.get? b = some o := fun b o e => hH2 ▸ Heap.get?_push_of_some _ e
  have old3 : ∀ b o, H2.get? b = some o → h₁.get? b = some o := fun b o e => hH4 ▸ Heap.get?_push_of_some _ (hH3 ▸ Heap.get?_push_of_some _ e)
  have old : ∀ b o, g2.get? b = some o → h₁.get? b = some o := fun b o e => old3 b o (old2 b o e)
  have hacc : h₁.get? D = some (LCg.lst []) := old3 _ _ (by rw [← hH2, ← hDe]; exact Heap.get?_push_size _ rfl)
  have hns₁ : h₁.Ns (D + 1) (fun _ => none) := by
    have := Heap.Ns.new H2 (.type "dict")
    rw [hC, hH3] at this
    exact this.keeps fun b o e => hH4 ▸ Heap.get?_push_of_some _ e
  have hcell₁ : h₁.get? (D + 1 + 1) = some { cls := .type "cell", data := .cell none } := by rw [← hcE, ← hH4]; exact Heap.get?_push_size _ rfl
  have fresh₀ : ∀ a, D ≤ a → h₀.get? a = none := fun a ha => by
    cases e : h₀.get? a with
    | none => rfl
    | some o' => exact absurd (Nat.lt_of_lt_of_le (hDe ▸ Heap.lt_size (F1.keep a o' e) : @LT.lt Nat _ a D) ha) (Nat.lt_irrefl _)
  have hD₀ := fresh₀ D (Nat.le_refl _)
  have hC₀ := fresh₀ (D + 1) (by omega)
  have hc₀ := fresh₀ (D + 1 + 1) (by omega)
  have hLlt : @LT.lt Nat _ L D := hDe ▸ F1.ns.lt
  have hIlt : @LT.lt Nat _ I D := hI2
  have hax : @LT.lt Nat _ ax I := hlt
  have hDL : D ≠ L := Nat.ne_of_gt hLlt
  have hCL : D + 1 ≠ L := (show @Ne Nat (D + 1) L by omega)
  have hcL : D + 1 + 1 ≠ L := (show @Ne Nat (D + 1 + 1) L by omega)
  have hst₁ : (fun i (h : Heap) => h.IsListIter I ax i ∧ h.IsList ax its) 0 h₁ := W.frame _ _ _ hst fun b _ o e => old b o e
  have loop : ∀ s₃ : Shared, s₃ = { s₁ with heap := h₁ } →
      codeAny (model prog w) A (.compLoop (.ListComp elt [⟨.Name x px, iter, [], 0⟩] scope pos) 0 (.ref I) (.ref D) (compEnvC scope ((x, D + 1 + 1) :: cl) (D + 1) env))
        (compPost (model prog w) A E none Q (.ref D) (D + 1)) s₃ := by
    rintro s₃ rfl
    refine codeAny_compLoop_tests
      (InC h₀ L m I D ax its Inv s₁) ?_ (its.size + 1)
      ⟨h₁, _, 0, [], news, { cls := .type "cell", data := .cell none }, none, rfl, Nat.zero_le _, rfl, rfl, hst₁, F1.keeps old, hns₁, fun p hp => ?_, rfl, LCg.Off3.of fun p hp => ⟨Nat.ne_of_lt (offI p hp), ?_, ?_⟩, fun p hp => ?_, start⟩
    · rintro k s' ⟨h', tk, i, ys, news', oc, v₀, rfl, hi, rfl, hyl, hst', F', hn', N', hd, off', offc, J⟩
      by_cases hlt : i < its.size
      · refine W.item i _ _ _ hlt hst' fun v h₂ tk₂ hPv hst₂ hk₂ => ?_
        have off3 := off'.mem
        have N₂ : News h₀ L h₂ ((D, LCg.lst ys) :: (D + 1 + 1, oc) :: news') := LCg.news_but N' hk₂ fun p hp => by
          rcases List.mem_cons.mp hp with rfl | hp
          · exact Nat.ne_of_gt hIlt
          · rcases List.mem_cons.mp hp with rfl | hp
            · exact (show @Ne Nat (D + 1 + 1) I by omega)
            · exact (off3 p hp).1
        have F₂ : Fr h₀ L h₂ m := LCg.fr_but F' hk₂ hLI hI₀
        have hn₂ : h₂.Ns (D + 1) (fun _ => none) := hn'.at' fun o e => hk₂ _ o (by rw [List.mem_singleton]; exact (show @Ne Nat (D + 1) I by omega)) e
        have hmem := N₂ (D + 1 + 1, oc) (List.mem_cons_of_mem _ List.mem_cons_self)
        refine wpAny_assign_Name (wpAny_storeName_cell (by simp [compEnvC, relabel, hkind]) (hx _ _) (by simp [compEnvC]) ⟨oc, hmem.1, hd⟩ fun h₃ hv hs₃ => ?_)
        refine wpAny_tests_nil ?_
        simp only [if_true]
        obtain ⟨oc', hoc', hdc'⟩ := hv
        have hst₃ : h₃.IsListIter I ax (i + 1) ∧ h₃.IsList ax its := W.frame _ _ _ hst₂ fun b hb o e => hs₃.extBut b o (fun q => by
          rcases List.mem_cons.mp hb with hb | hb
          · have q' : @Eq Nat I (D + 1 + 1) := hb.symm.trans q
            omega
          · have q' : @Eq Nat ax (D + 1 + 1) := (List.mem_singleton.mp hb).symm.trans q
            omega) e
        obtain ⟨oI, heI⟩ : ∃ oI, h₃.get? I = some oI := by obtain ⟨o, e, _⟩ := hst₃.1; exact ⟨o, e⟩
        have hn₃ : h₃.Ns (D + 1) (fun _ => none) := hn₂.sameBut hs₃ (show @Ne Nat _ _ by omega)
        obtain ⟨oC, heC, hoC⟩ := LCg.ns_obj hn₃
        have F₃ : Fr h₀ L h₃ m := F₂.change hs₃ hcL hc₀
        have N₃ : News h₀ L h₃ ((I, oI) :: (D + 1, oC) :: (D, LCg.lst ys) :: (D + 1 + 1, oc') :: news') := fun p hp => by
          rcases List.mem_cons.mp hp with rfl | hp
          · exact ⟨heI, Ne.symm hLI, hI₀⟩
          rcases List.mem_cons.mp hp with rfl | hp
          · exact ⟨heC, hCL, hC₀⟩
          rcases List.mem_cons.mp hp with rfl | hp
          · have z := N₂ _ List.mem_cons_self
            exact ⟨hs₃.extBut _ _ ((show @Ne Nat (D) (D + 1 + 1) by omega)) z.1, z.2⟩
          rcases List.mem_cons.mp hp with rfl | hp
          · exact ⟨hoc', hcL, hc₀⟩
          · have z := N₂ p (List.mem_cons_of_mem _ (List.mem_cons_of_mem _ hp))
            exact ⟨hs₃.extBut _ _ (offc p hp) z.1, z.2⟩
        refine wpAny_mono (turn i v I oI (D + 1) oC D (D + 1 + 1) oc' ys news' h₃ _ _ hlt hPv J hdc' F₃ N₃ off' offc ⟨?_, ?_, ?_, ?_, ?_, ?_⟩) (fun y s₄ h₄ => ?_) fun _ _ e => e
        · exact (show @Ne Nat (I) (D + 1) by omega)
        · exact (show @Ne Nat (I) (D) by omega)
        · exact (show @Ne Nat (D + 1) (D) by omega)
        · exact (show @Ne Nat (I) (D + 1 + 1) by omega)
        · exact (show @Ne Nat (D + 1) (D + 1 + 1) by omega)
        · exact (show @Ne Nat (D) (D + 1 + 1) by omega)
        obtain ⟨h₄, tk₄, news₄, rfl, F₄, N₄, off₄, offc₄, J₄⟩ := h₄
        have zI := (N₄ (I, oI) List.mem_cons_self).1
        have zC := (N₄ (D + 1, oC) (List.mem_cons_of_mem _ List.mem_cons_self)).1
        have zD := (N₄ (D, LCg.lst ys) (List.mem_cons_of_mem _ (List.mem_cons_of_mem _ List.mem_cons_self))).1
        have hst₄ : h₄.IsListIter I ax (i + 1) ∧ h₄.IsList ax its := LCg.list_st (h₀ := h₀) (L := L) _ _ _ _ [] hst₃ heI zI F₄.keep (fun _ h => nomatch h) (.inl hl₀)
        refine append_at (hsz := by show ys.toArray.size ≤ sizeLine; rw [List.size_toArray, hyl]; exact Nat.le_trans hi hsz) zD fun h₅ hs₅ hD₅ => ?_
        have off4 := off₄.mem
        refine ⟨its.size + 1 - (i + 1), by omega, h₅, tk₄, i + 1, ys ++ [y], news₄, oc', _, rfl, hlt, rfl, by rw [List.length_append, List.length_singleton, hyl], W.frame _ _ _ hst₄ fun b hb o e => hs₅.extBut b o (fun q => ?_) e, F₄.change hs₅ hDL hD₀,
          (hoC.ns zC).sameBut hs₅ (show @Ne Nat _ _ by omega), fun p hp => ?_, hdc', off₄, offc₄, J₄⟩
        · rcases List.mem_cons.mp hb with hb | hb
          · have q' : @Eq Nat I D := hb.symm.trans q
            omega
          · have q' : @Eq Nat ax D := (List.mem_singleton.mp hb).symm.trans q
            omega
        · rcases List.mem_cons.mp hp with rfl | hp
          · exact ⟨hD₅.trans (congrArg some (LCg.lst_snoc ys y)), hDL, hD₀⟩
          · have z := N₄ p (List.mem_cons_of_mem _ (List.mem_cons_of_mem _ (List.mem_cons_of_mem _ hp)))
            refine ⟨hs₅.extBut _ _ ?_ z.1, z.2⟩
            rcases List.mem_cons.mp hp with rfl | hp
            · exact (show @Ne Nat (D + 1 + 1) (D) by omega)
            · exact (off4 p hp).2.2
      · obtain rfl : i = its.size := Nat.le_antisymm hi (Nat.not_lt.mp hlt)
        refine W.done _ _ _ hst' fun h₂ tk₂ hk₂ => ?_
        have off3 := off'.mem
        have F₂ : Fr h₀ L h₂ m := LCg.fr_but F' hk₂ hLI hI₀
        have N₂ : News h₀ L h₂ ((D, LCg.lst ys) :: news') := LCg.news_but (fun p hp => by
          rcases List.mem_cons.mp hp with rfl | hp
          · exact N' _ List.mem_cons_self
          · exact N' _ (List.mem_cons_of_mem _ (List.mem_cons_of_mem _ hp))) hk₂ fun p hp => by
          rcases List.mem_cons.mp hp with rfl | hp
          · exact Nat.ne_of_gt hIlt
          · exact (off3 p hp).1
        refine ⟨_, hn'.at' fun o e => hk₂ _ o (by rw [List.mem_singleton]; exact (show @Ne Nat (D + 1) I by omega)) e, fun h'' hs'' => fin ys news' D h'' _ J (F₂.change hs'' hCL hC₀) (fun p hp => ?_) off'.one⟩
        refine ⟨hs''.extBut _ _ ?_ (N₂ p hp).1, (N₂ p hp).2⟩
        rcases List.mem_cons.mp hp with rfl | hp
        · exact (show @Ne Nat D (D + 1) by omega)
        · exact (off3 p hp).2.1
    · rcases List.mem_cons.mp hp with rfl | hp
      · exact ⟨hacc, hDL, hD₀⟩
      rcases List.mem_cons.mp hp with rfl | hp
      · exact ⟨hcell₁, hcL, hc₀⟩
      · exact ⟨old _ _ (N1 p hp).1, (N1 p hp).2⟩
    · exact (have : @LT.lt Nat _ p.1 I := offI p hp; show @Ne Nat (p.1) (D + 1) by omega)
    · exact (have : @LT.lt Nat _ p.1 I := offI p hp; show @Ne Nat (p.1) (D) by omega)
    · exact (have : @LT.lt Nat _ p.1 I := offI p hp; show @Ne Nat (p.1) (D + 1 + 1) by omega)
  exact codeAny_compStart_list (loop _ rfl) (W.self 0 _ _ _ hst₁ (loop _ rfl))
end

end
section
theorem strs_at : ∀ {vs : List Value} {ts : List (List Nat)}, StrsAre vs (ts.map tx) → ∀ {i : Nat} {v : Value}, vs[i]? = some v → ∃ t, v = .str (tx (ts.getD i [])) t ∧ i < ts.length
  | [], [], _, i, v, e => by simp at e
  | v0 :: vs, [], h, _, _, _ => by cases h
  | [], t0 :: ts, h, _, _, _ => by cases h
  | v0 :: vs, t0 :: ts, h, i, v, e => by
    cases h with
    | cons x t h =>
      cases i with
      | zero => simp at e; exact ⟨t, e.symm, by simp⟩
      | succ i =>
        obtain ⟨t, h1, h2⟩ := strs_at h (i := i) (v := v) (by simpa using e)
        exact ⟨t, by simpa using h1, by simp; omega⟩
theorem pow_six (d : Nat) : (1 : Int) * 2 ^ (6 * (d : Int)).toNat = 64 ^ d := by
  rw [show (6 * (d : Int)).toNat = 6 * d by omega, Int.one_mul, Int.pow_mul]; rfl
section
variable {w : World} {mean : ExcName → Option Value} {mg mb : Str → Option Value} {A : Around} {s : Shared} {Q E : Value → Shared → Prop}
local macro_rules | `(tactic| walk_at "call ref") => `(tactic| (k_here; k_dflt (first
  | (refine' c_lev _ _ _ _ _ (by assumption) (by assumption) (by assumption) (by assumption) (by walk_at "AMB") (by walk_at "DEP") (by with_unfolding_all assumption) ?_)
  | (refine' c_mul _ _ _ _ (by exact IntMulOk.of_left (by decide)) (by walk_at "AMB") (by walk_at "DEP") ?_)
  | (refine' c_lshift _ _ _ _ (by omega) (by omega) (by decide) (by walk_at "AMB") (by walk_at "DEP") ?_)); intro t' h' tk' hk'; walk_at "BACK"))
inductive WtO (ts : List (List Nat)) (ct : Addr) (oct : Obj) (i : Nat) (ys : List Value) (nw : List (Addr × Obj)) : Prop
  | mk (as : List Addr) (rest : List (Addr × Obj)) (h0 : ys = as.map Value.ref) (h1 : nw = (ct, oct) :: rest) (h2 : as.length = i) (h3 : ∀ j, j < i → ∃ vs e, (as.getD j 0, listOf (List.toArray vs) e) ∈ rest ∧ IntsAre vs ((List.range 4).map (fun k => 64 ^ ed (ts.getD j []) (ts.getD k []))))
inductive WtIn (ts : List (List Nat)) (i : Nat) (N₀ : List (Addr × Obj)) (k : Nat) (ys : List Value) (nw : List (Addr × Obj)) : Prop
  | mk (h0 : nw = N₀) (h1 : IntsAre ys ((List.range k).map (fun k => 64 ^ ed (ts.getD i []) (ts.getD k []))))
theorem c_weights (l : Addr) (vs : List Value) (ts : List (List Nat)) (hl : s.heap.IsList l vs.toArray) (hs : StrsAre vs (ts.map tx)) (hlen : ts.length = 4) (ha : ∀ i, ∀ c ∈ ts.getD i [], c ∈ alpha) (ht : ∀ i, (ts.getD i []).length ≤ 5) (X : Amb w mean mg mb s.heap) (hdep : A.depth + 2 < recursionLimit) (hh : A.handled = none)
    (ret : ∀ D h' tk', s.heap.StaysIn h' → Grid h' D 4 4 (fun i j => 64 ^ ed (ts.getD i []) (ts.getD j [])) → Q (.ref D) { s with heap := h', toks := tk' }) :
    wpAny (model pw w) A (call (.ref 174) [.ref l]) Q E s := by
  walk_at "FILL"
  have KX := X.kx
  have T := X.top
  have hvl : vs.length = 4 := by rw [hs.length, List.length_map, hlen]
  have hsz : (List.toArray vs).size = 4 := by rw [List.size_toArray, hvl]
  refine' enterC [(Str.ofString "texts", .ref l)] KX T (by omega) ?ho ?hcd ?hb ?hkd ?hnd ?c1 ?c2 ?c3 (fun h₁ tk cells F N Y => ?_)
  walk_at "ENTERC"
  k_cells Y
  walk_at "SHOW"
  k_fold
  walk_at "STEPS"
  rename Obj => oct
  k_dflt (refine ListComp_Cell (WtO ts (s.heap.objs.size + 1) oct) (by k_asm) (by with_unfolding_all rfl) (by intro; rfl) (by intro; rfl) (by rfl) (by decide) (by intros; rfl) ?_)
  walk_at "STEPS"
  refine ⟨_, _, _, rfl, hh, by k_asm, by k_asm, hl, by rw [hsz, sizeLine_eq]; decide, ⟨[], [], rfl, rfl, rfl, fun _ h => absurd h (Nat.not_lt_zero _)⟩, ?_, ?_⟩
  · rintro i v I oI C oC D c oc ys nw h tk E' hi hv ⟨as, rest, rfl, rfl, hasl, hrest⟩ hd F N off offc ne
    simp only [LCg.Off3] at off
    obtain ⟨a1, a2⟩ := off
    obtain ⟨tv, rfl, hil⟩ := strs_at hs (by simpa using hv)
    have ha1 := ha i
    have ht1 := ht i
    walk_at "SHOW"
    k_fold
    walk_at "LCOMP"
    walk_at "STEPS"
    refine LCg.CompSrc.base hh (by k_asm) (by k_asm) hl (by rw [hsz, sizeLine_eq]; decide) ?_
    intro g'
    rw [hsz]
    refine compI (WtIn ts i ((I, oI) :: (C, oC) :: (D, LCg.lst (as.map Value.ref)) :: (c, oc) :: (s.heap.objs.size + 1, oct) :: rest)) ?t ?s ?f
    case s => exact ⟨rfl, .nil⟩
    case t =>
      rintro k v I₂ oI₂ C₂ oC₂ D₂ m₂ ys nw h tk E' hk hv ⟨rfl, hys⟩ hC hx F N off ne
      simp only [LCg.Off3] at off
      obtain ⟨tk₂, rfl, hkl⟩ := strs_at hs (by simpa using hv)
      have ha2 := ha k
      have ht2 := ht k
      have hed : ed (ts.getD i []) (ts.getD k []) ≤ 10 := by
        have := ed_le (ts.getD i []) (ts.getD k [])
        omega
      walk_at "SHOW"
      k_fold
      walk_at "STEPS"
      rename (News _ _ _ _) => NN
      refine LCg.CompEnd.intro (by assumption) NN _ (fun p hp => hp) off (.inl hl) ⟨rfl, ?_⟩
      rw [pow_six, List.range_succ, List.map_append]
      exact hys.append (.cons _ _ .nil)
    case f =>
      rintro ys nw ⟨rfl, hys⟩
      walk_at "STEPS"
      rename (News _ _ _ _) => NN
      rename (_ ≠ _ ∧ _) => o1
      rename_i D' h' tk' F'
      have hID : @Ne Nat I D' := o1.1
      have hCD : @Ne Nat C D' := o1.2.1
      have hDD : @Ne Nat D D' := o1.2.2.1
      have hcD : @Ne Nat c D' := o1.2.2.2.1
      refine ⟨_, _, (s.heap.objs.size + 1, oct) :: (D', LCg.lst ys) :: rest, rfl, by assumption, fun p hp => NN p ?_, ⟨a1, ⟨fun h => hID h.symm, fun h => hCD h.symm, fun h => hDD h.symm⟩, a2⟩, ?_, ⟨as ++ [D'], (D', LCg.lst ys) :: rest, by rw [List.map_append]; rfl, rfl, by rw [List.length_append, hasl]; rfl, ?_⟩⟩
      · simp only [List.mem_cons] at hp ⊢
        rcases hp with hp | hp | hp | hp | hp | hp | hp
        · exact .inr (.inl hp)
        · exact .inr (.inr (.inl hp))
        · exact .inr (.inr (.inr (.inl hp)))
        · exact .inr (.inr (.inr (.inr (.inl hp))))
        · exact .inr (.inr (.inr (.inr (.inr (.inl hp)))))
        · exact .inl hp
        · exact .inr (.inr (.inr (.inr (.inr (.inr hp)))))
      · rw [List.forall_mem_cons] at offc
        exact List.forall_mem_cons.mpr ⟨offc.1, List.forall_mem_cons.mpr ⟨fun h => hcD h.symm, offc.2⟩⟩
      · intro j hj
        rcases Nat.lt_or_ge j i with hjl | hjg
        · obtain ⟨vs, e, h1, h2⟩ := hrest j hjl
          exact ⟨vs, e, by rw [getD_app _ _ _ (by rw [hasl]; exact hjl)]; exact List.mem_cons_of_mem _ h1, h2⟩
        · obtain rfl : j = i := by omega
          exact ⟨ys, ys.length, by rw [getD_end _ _ _ hasl.symm]; exact List.mem_cons_self, hys⟩
  · rintro ys nw D h tk ⟨as, rest, rfl, rfl, hasl, hrest⟩ F N off
    refine ret _ _ _ (Fr.keep (by assumption)) ⟨as, by rw [hasl, hsz], News.isList (by assumption) List.mem_cons_self, fun j hj => ?_⟩
    obtain ⟨vs, e, h1, h2⟩ := hrest j (by rw [hsz]; exact hj)
    exact ⟨vs, News.isList (by assumption) (List.mem_cons_of_mem _ (List.mem_cons_of_mem _ h1)), h2⟩
end

end
section
section
variable {prog : Program} {w : World} {A : Around} {E : Value → Shared → Prop} {s : Shared} {h₀ : Heap}
/-- the iterator of a tuple of the ledger -/
theorem iter_tup {L l : Addr} {items : Array Value} {ol : Obj} {m : Str → Option Value} {news : List (Addr × Obj)} {Q : Value → Shared → Prop} (hh : A.handled = none) (hl : (l, ol) ∈ news) (hc : ol.cls = .type "tuple") (hd : ∃ n, ol.data = .seq items n) (F : Fr h₀ L s.heap m) (N : News h₀ L s.heap news)
    (h : ∀ it h', IterAt prog w A h₀ L it items.size (fun i v => items[i]? = some v) [(l, ol)] { s with heap := h' } → Fr h₀ L h' m → News h₀ L h' news → (∀ I, it = .ref I → ∀ p ∈ news, @LT.lt Nat _ p.1 I) → Q it { s with heap := h' }) :
    wpAny (model prog w) A (pyIter (.ref l)) Q E s := by
  have hls : s.heap.IsTuple l items := ⟨ol, (N _ hl).1, hc, hd⟩
  have hlt : l < s.heap.objs.size := Heap.lt_size (N _ hl).1
  refine wpAny_pyIter_tuple hls ?_
  have up : ∀ b o, s.heap.get? b = some o → (s.heap.push { cls := .type "tuple_iterator", data := .fields #[.ref l, .int 0 0] }).get? b = some o := fun b o e => Heap.get?_push_of_some _ e
  refine h _ _ ⟨s.heap.objs.size, [s.heap.objs.size, l], _, rfl, Walks.tuple hh s.heap.objs.size l (Nat.ne_of_lt hlt) items, fun i h st => let ⟨o, ho, _⟩ := st.1; ⟨o, ho⟩, ⟨⟨_, Heap.get?_push_size _ rfl, rfl, rfl⟩, hls.at fun o e => up l o e⟩, next_is_new F, Nat.ne_of_lt F.ns.lt, ?_⟩
    (F.push _) (fun p hp => ⟨up _ _ (N p hp).1, (N p hp).2⟩) (fun I e p hp => ?_)
  · intro b hb
    rcases List.mem_cons.mp hb with rfl | hb
    · exact .inl rfl
    · obtain rfl := List.mem_singleton.mp hb
      exact .inr (.inr ⟨_, List.mem_singleton.mpr rfl⟩)
  · cases e; exact Heap.lt_size (N p hp).1
end
/-- a list of whole numbers among the rows nw -/
inductive RowIs (r : Addr) (ns : List Int) (nw : List (Addr × Obj)) : Prop
  | mk (o vs n : _) (h0 : (r, o) ∈ nw) (h1 : o.cls = .type "list") (h2 : o.data = .seq (List.toArray vs) n) (h3 : IntsAre vs ns)
/-- n lists of 31 whole numbers each -/
inductive RowsAt (as : List Addr) (n : Nat) (g : Nat → Nat → Int) (nw : List (Addr × Obj)) : Prop
  | mk (h0 : as.length = n) (h1 : as.Nodup) (h2 : ∀ j, j < n → RowIs (as.getD j 0) ((List.range 31).map (g j)) nw)
/-- news is some rows ahead of rest, none of which stands in rest -/
inductive TailOf (rest : List (Addr × Obj)) : List (Addr × Obj) → (List (Addr × Obj) → List (Addr × Obj)) → Prop
  | nil : TailOf rest rest (fun r => r)
  | cons {p l f} : (∀ q ∈ rest, @Ne Nat q.1 p.1) → TailOf rest l f → TailOf rest (p :: l) (fun r => p :: f r)
theorem TailOf.mem {rest news : List (Addr × Obj)} {f} (t : TailOf rest news f) : ∀ q ∈ rest, q ∈ news := by
  induction t with
  | nil => exact fun _ h => h
  | cons _ _ ih => exact fun q h => List.mem_cons_of_mem _ (ih q h)
noncomputable def bump (g : Nat → Nat → Int) (a t : Nat) (v : Int) (k j : Nat) : Int := if k = a ∧ j = t then v else g k j
section
variable {prog : Program} {w : World} {A : Around} {E : Value → Shared → Prop} {s : Shared} {h₀ : Heap} {L C r : Addr} {m : Str → Option Value} {news rest : List (Addr × Obj)} {f : List (Addr × Obj) → List (Addr × Obj)} {as : List Addr} {n : Nat} {g : Nat → Nat → Int} {k : Int} {u : Tok} {value slice : PySem.Expr} {ops : List Value}
theorem item_refs {ep : Nat} {Q : Value → Shared → Prop} (N : News h₀ L s.heap news) (hm : (C, listOf (List.toArray (as.map Value.ref)) ep) ∈ news) (R : RowsAt as n g rest) (h0 : 0 ≤ k) (h1 : k < (n : Int)) (h2 : k < 2 ^ 63) (h : Q (.ref (as.getD k.toNat 0)) s)
    (hs : subscripted slice false (.ref C) (.int k u) = operate ops (getItem (.ref C) (.int k u))) : wpAny (model prog w) A (subscriptTail value slice (.ref C) (.int k u)) Q E s := by
  have hl : s.heap.IsList C (List.toArray (as.map Value.ref)) := ⟨_, (N _ hm).1, rfl, _, rfl⟩
  refine tail_any hl.typeIs slot_list_getitem.lookup (wpAny_getItem_list hl h0 h2 (x := .ref (as.getD k.toNat 0)) ?_ h) hs
  have hlen := R.1
  rw [List.getElem?_toArray, List.getElem?_map, List.getD_eq_getElem?_getD, List.getElem?_eq_getElem (by omega)]; rfl
theorem item_row {t : Int} {j : Nat} {Q : Value → Shared → Prop} (N : News h₀ L s.heap news) (T : TailOf rest news f) (R : RowsAt as n g rest) (hj : j < n) (h0 : 0 ≤ t) (h1 : t < 31) (h : ∀ v, Q (.int (g j t.toNat) v) s)
    (hs : subscripted slice false (.ref (as.getD j 0)) (.int t u) = operate ops (getItem (.ref (as.getD j 0)) (.int t u))) : wpAny (model prog w) A (subscriptTail value slice (.ref (as.getD j 0)) (.int t u)) Q E s := by
  obtain ⟨o, vs, c, h2, hc, hd, hi⟩ := R.3 j hj
  obtain ⟨v, hv⟩ := ints_getD hi (i := t.toNat) (by rw [rowInts_len]; omega)
  rw [rowInts_getD (g j) (by omega)] at hv
  have hl : s.heap.IsList (as.getD j 0) (List.toArray vs) := ⟨o, (N _ (T.mem _ h2)).1, hc, _, hd⟩
  exact tail_any hl.typeIs slot_list_getitem.lookup (wpAny_getItem_list hl h0 (by omega) (by simpa using hv) (h v)) hs
noncomputable def putIn (r : Addr) (o : Obj) (l : List (Addr × Obj)) : List (Addr × Obj) := l.map fun p => if p.1 = r then (r, o) else p
theorem putIn_fst {r : Addr} {o : Obj} {l : List (Addr × Obj)} {p : Addr × Obj} (h : p ∈ putIn r o l) : ∃ q ∈ l, q.1 = p.1 := by
  obtain ⟨q, hq, rfl⟩ := List.mem_map.mp h
  refine ⟨q, hq, ?_⟩
  split
  · rename_i e; exact e
  · rfl
theorem TailOf.put {r : Addr} {o : Obj} (t : TailOf rest news f) (hr : ∃ q ∈ rest, q.1 = r) : ∀ p ∈ f (putIn r o rest), p = (r, o) ∨ (p ∈ news ∧ p.1 ≠ r) := by
  induction t with
  | nil =>
    intro p hp
    obtain ⟨q, hq, rfl⟩ := List.mem_map.mp hp
    by_cases e : q.1 = r
    · rw [if_pos e]; exact .inl rfl
    · rw [if_neg e]; exact .inr ⟨hq, e⟩
  | cons hne _ ih =>
    intro p hp
    rcases List.mem_cons.mp hp with rfl | hp
    · refine .inr ⟨List.mem_cons_self, ?_⟩
      obtain ⟨q, hq, e⟩ := hr
      exact fun h => hne q hq (e.trans h.symm)
    · rcases ih p hp with h | ⟨h, h'⟩
      · exact .inl h
      · exact .inr ⟨List.mem_cons_of_mem _ h, h'⟩
/-- one place of one of the lists is set anew -/
theorem set_row {t v : Int} {j : Nat} {tv : Tok} {Q : Unit → Shared → Prop} (F : Fr h₀ L s.heap m) (N : News h₀ L s.heap news) (T : TailOf rest news f) (R : RowsAt as n g rest) (hj : j < n) (h0 : 0 ≤ t) (h1 : t < 31)
    (h : ∀ h' rest', Fr h₀ L h' m → News h₀ L h' (f rest') → RowsAt as n (bump g j t.toNat v) rest' → (∀ p ∈ rest', ∃ q ∈ rest, q.1 = p.1) → Q () { s with heap := h' }) :
    wpAny (model prog w) A (setItem (.ref (as.getD j 0)) (.int t u) (.int v tv)) Q E s := by
  obtain ⟨o, vs, c, h2, hc, hd, hi⟩ := id (R.3 j hj)
  have hm := N _ (T.mem _ h2)
  have hl : s.heap.IsList (as.getD j 0) (List.toArray vs) := ⟨o, hm.1, hc, _, hd⟩
  have hvl := hi.length
  rw [rowInts_len] at hvl
  refine wpAny_setItem_list hl h0 (by omega) (by rw [List.size_toArray]; omega) fun h' hl' hs' => ?_
  obtain ⟨o', ho', hc', c', hd'⟩ := hl'
  refine h h' (putIn (as.getD j 0) o' rest) (F.change hs' hm.2.1 hm.2.2) (fun p hp => ?_) ⟨R.1, R.2, fun i hi' => ?_⟩ (fun p hp => putIn_fst hp)
  · rcases T.put ⟨_, h2, rfl⟩ p hp with rfl | ⟨hp, hne⟩
    · exact ⟨ho', hm.2⟩
    · exact ⟨hs'.2 _ hne ▸ (N p hp).1, (N p hp).2⟩
  · by_cases e : i = j
    · subst e
      refine ⟨o', vs.set t.toNat (.int v tv), c', List.mem_map.mpr ⟨_, h2, if_pos rfl⟩, hc', ?_, ?_⟩
      · rw [hd']; simp
      · refine ints_of_get (bump g i t.toNat v i) 31 _ (by rw [List.length_set]; omega) fun k x hx => ?_
        rw [List.getElem?_set] at hx
        by_cases ek : t.toNat = k
        · rw [if_pos ek] at hx
          split at hx
          · cases hx; exact ⟨tv, by unfold bump; rw [if_pos ⟨rfl, ek.symm⟩]⟩
          · cases hx
        · rw [if_neg ek] at hx
          have hk : k < vs.length := by
            rcases Nat.lt_or_ge k vs.length with h | h
            · exact h
            · rw [List.getElem?_eq_none h] at hx; cases hx
          obtain ⟨y, hy⟩ := ints_getD hi (i := k) (by rw [rowInts_len]; omega)
          rw [hx] at hy
          cases hy
          rw [rowInts_getD (g i) (by omega)]
          exact ⟨y, by unfold bump; rw [if_neg (fun h => ek h.2.symm)]⟩
    · obtain ⟨o₂, vs₂, c₂, h4, hc₂, hd₂, hi₂⟩ := R.3 i hi'
      have hne : as.getD i 0 ≠ as.getD j 0 := fun hq => by
        have hnd := R.2
        have hlen := R.1
        rw [List.getD_eq_getElem?_getD, List.getD_eq_getElem?_getD, List.getElem?_eq_getElem (by omega), List.getElem?_eq_getElem (by omega)] at hq
        exact e ((List.getElem_inj hnd).mp hq)
      refine ⟨o₂, vs₂, c₂, List.mem_map.mpr ⟨_, h4, if_neg hne⟩, hc₂, hd₂, ?_⟩
      have : bump g j t.toNat v i = g i := by funext k; unfold bump; rw [if_neg (fun h => e h.1)]
      rw [this]; exact hi₂
end

end
section
/-- the lists after the first k of the four that one more tree is counted in -/
noncomputable def kf (g : Nat → Nat → Int) (is : List Int) (t : Nat) : Nat → Nat → Nat → Int
  | 0 => g
  | k + 1 => bump (kf g is t k) (is.getD k 0).toNat t (kf g is t k (is.getD k 0).toNat t + 1)
theorem kf_four {g : Nat → Nat → Int} {is : List Int} {T P Q S : Nat} (h0 : (is.getD 0 0).toNat = P) (h1 : (is.getD 1 0).toNat = Q) (h2 : (is.getD 2 0).toNat = S) (h3 : (is.getD 3 0).toNat = 6) (hP : P < Q) (hQ : Q < S) (hS : S < 6) {K t : Nat} :
    kf g is T 4 K t = g K t + if (K = 6 ∨ K = P ∨ K = Q ∨ K = S) ∧ t = T then 1 else 0 := by
  simp only [kf, h0, h1, h2, h3]
  unfold bump
  have n1 : ¬ (Q = P) := by omega
  have n2 : ¬ (S = P) := by omega
  have n3 : ¬ (S = Q) := by omega
  have n4 : ¬ (6 = P) := by omega
  have n5 : ¬ (6 = Q) := by omega
  have n6 : ¬ (6 = S) := by omega
  have n7 : ¬ (P = Q) := by omega
  have n8 : ¬ (P = S) := by omega
  have n9 : ¬ (P = 6) := by omega
  have n10 : ¬ (Q = S) := by omega
  have n11 : ¬ (Q = 6) := by omega
  have n12 : ¬ (S = 6) := by omega
  by_cases ht : t = T
  · subst ht
    by_cases k1 : K = 6
    · subst k1; simp [n4, n5, n6]
    by_cases k2 : K = S
    · subst k2; simp [n2, n3, n12]
    by_cases k3 : K = Q
    · subst k3; simp [n1, n10, n11]
    by_cases k4 : K = P
    · subst k4; simp [n7, n8, n9]
    simp [k1, k2, k3, k4]
  · simp [ht]
theorem ne_sub {rest rest' : List (Addr × Obj)} {X : Addr} (h : ∀ p ∈ rest, @Ne Nat p.1 X) (hs : ∀ p ∈ rest', ∃ q ∈ rest, q.1 = p.1) : ∀ p ∈ rest', @Ne Nat p.1 X := fun p hp => by
  obtain ⟨q, hq, e⟩ := hs p hp
  exact e ▸ h q hq
/-- one if the three ties hang all four places together, hold tie K (or K is 6) and come to t -/
noncomputable def ind (d : Nat → Nat) (p q s K t : Nat) : Nat := if trees.contains (p, q, s) && inTree K (p, q, s) && tot d (p, q, s) == t then 1 else 0
noncomputable def inS (d : Nat → Nat) (p q K t : Nat) : Nat → Nat
  | 0 => 0
  | k + 1 => inS d p q K t k + ind d p q (q + 1 + k) K t
noncomputable def inQ (d : Nat → Nat) (p K t : Nat) : Nat → Nat
  | 0 => 0
  | k + 1 => inQ d p K t k + inS d p (p + 1 + k) K t (5 - (p + 1 + k))
noncomputable def inP (d : Nat → Nat) (K t : Nat) : Nat → Nat
  | 0 => 0
  | k + 1 => inP d K t k + inQ d k K t (5 - k)
theorem kf_ind {d : Nat → Nat} {g : Nat → Nat → Int} {is : List Int} {p q s : Nat} (h0 : (is.getD 0 0).toNat = p) (h1 : (is.getD 1 0).toNat = q) (h2 : (is.getD 2 0).toNat = s) (h3 : (is.getD 3 0).toNat = 6) (hp : p < q) (hq : q < s) (hs : s < 6) (hsp : trees.contains (p, q, s) = true) {K t : Nat} :
    kf g is (tot d (p, q, s)) 4 K t = g K t + (ind d p q s K t : Nat) := by
  rw [kf_four h0 h1 h2 h3 hp hq hs]
  unfold ind inTree
  rw [hsp]
  congr 1
  by_cases hc : (K = 6 ∨ K = p ∨ K = q ∨ K = s) ∧ t = tot d (p, q, s)
  · rw [if_pos hc, if_pos]
    · rfl
    · simp only [Bool.true_and, Bool.and_eq_true, Bool.or_eq_true, beq_iff_eq]
      refine ⟨?_, hc.2.symm⟩
      rcases hc.1 with h | h | h | h <;> simp [h]
  · rw [if_neg hc, if_neg]
    · rfl
    · simp only [Bool.true_and, Bool.and_eq_true, Bool.or_eq_true, beq_iff_eq]
      rintro ⟨h, e⟩
      refine hc ⟨?_, e.symm⟩
      rcases h with ((h | h) | h) | h <;> simp [h]
noncomputable def sumI (d : Nat → Nat) (K t : Nat) : List (Nat × Nat × Nat) → Nat
  | [] => 0
  | T :: l => ind d T.1 T.2.1 T.2.2 K t + sumI d K t l
theorem sumI_app (d : Nat → Nat) (K t : Nat) (a b : List (Nat × Nat × Nat)) : sumI d K t (a ++ b) = sumI d K t a + sumI d K t b := by
  induction a with
  | nil => exact (Nat.zero_add _).symm
  | cons T a ih => show ind d T.1 T.2.1 T.2.2 K t + sumI d K t (a ++ b) = _ + _ + _; rw [ih, Nat.add_assoc]
noncomputable def lS (p q : Nat) : Nat → List (Nat × Nat × Nat)
  | 0 => []
  | k + 1 => lS p q k ++ [(p, q, q + 1 + k)]
noncomputable def lQ (p : Nat) : Nat → List (Nat × Nat × Nat)
  | 0 => []
  | k + 1 => lQ p k ++ lS p (p + 1 + k) (5 - (p + 1 + k))
noncomputable def lP : Nat → List (Nat × Nat × Nat)
  | 0 => []
  | k + 1 => lP k ++ lQ k (5 - k)
theorem inS_sum (d : Nat → Nat) (p q K t : Nat) : ∀ k, inS d p q K t k = sumI d K t (lS p q k)
  | 0 => rfl
  | k + 1 => by rw [lS, sumI_app, ← inS_sum d p q K t k]; rfl
theorem inQ_sum (d : Nat → Nat) (p K t : Nat) : ∀ k, inQ d p K t k = sumI d K t (lQ p k)
  | 0 => rfl
  | k + 1 => by rw [lQ, sumI_app, ← inQ_sum d p K t k, ← inS_sum]; rfl
theorem inP_sum (d : Nat → Nat) (K t : Nat) : ∀ k, inP d K t k = sumI d K t (lP k)
  | 0 => rfl
  | k + 1 => by rw [lP, sumI_app, ← inP_sum d K t k, ← inQ_sum]; rfl
theorem sumI_count (d : Nat → Nat) (K t : Nat) (l : List (Nat × Nat × Nat)) : sumI d K t l = (((l.filter fun T => trees.contains T).filter (inTree K)).map (tot d)).count t := by
  induction l with
  | nil => rfl
  | cons T l ih =>
    show ind d T.1 T.2.1 T.2.2 K t + sumI d K t l = _
    rw [ih, List.filter_cons]
    unfold ind
    cases h1 : trees.contains T
    · exact Nat.zero_add _
    · rw [if_pos rfl, List.filter_cons]
      cases h2 : inTree K T
      · exact Nat.zero_add _
      · rw [if_pos rfl, List.map_cons, List.count_cons, Nat.add_comm]
        rfl
theorem inP_six (d : Nat → Nat) (K t : Nat) (_ : K < 7) : inP d K t 6 = (tots d K).count t := by
  rw [inP_sum, sumI_count, show (lP 6).filter (fun T => trees.contains T) = trees by decide]
  rfl

end
section
section
variable {w : World} {mean : ExcName → Option Value} {mg mb : Str → Option Value} {A : Around} {s : Shared} {Q E : Value → Shared → Prop}
local macro_rules | `(tactic| walk_at "subscriptTail") => `(tactic| (k_here; walk_at "ITEM?"; k_dflt (first
  | (refine' item_grid (by k_asm) (by assumption) (by omega) (by omega) (by omega) ?_ (by with_unfolding_all rfl); intro r' vs' hr' hi' hl')
  | (refine' item_refs (by k_asm) (by k_mem) (by assumption) (by omega) (by omega) (by omega) ?_ (by with_unfolding_all rfl)))))
local macro_rules | `(tactic| walk_at "compareOp Eq ref ref") => `(tactic| (k_here; (with_reducible show wpAny _ _ (compareOp _ (Value.ref _) (Value.ref _)) _ _ _); k_dflt (refine' set_eq_L (by k_asm) (by k_mem) (by k_mem) (by assumption) (by assumption) (by exact Nat.le_of_ble_eq_true rfl) (by exact Nat.le_of_ble_eq_true rfl) (by assumption) (by units_room) ?_)))
local macro_rules | `(tactic| walk_at "setAdd int") => `(tactic| (k_here; (with_reducible show wpAny _ _ (setAdd _ (Value.int _ _)) _ _ _); k_dflt (refine' setL_add (by k_asm) (by k_asm) (by k_updF) (by first | assumption | exact setL_nil (by assumption)) (by exact Nat.le_of_ble_eq_true rfl) ?_); intro h' so' b' F' N' hs'; (try dsimp only at N')))
local macro_rules | `(tactic| walk_at "setUnled") => `(tactic| (k_here; k_dflt (refine' setL_unled (by k_asm) (by k_asm) (by k_updF) (by assumption) (by exact Nat.le_of_ble_eq_true rfl) ?_); intro h' so' F' N' hs'; (try dsimp only at N')))
local macro_rules | `(tactic| walk_at "STEPSI") => `(tactic| repeat' ((fail_if_success (with_reducible show wpAny _ _ (execs (Stmt.If _ _ _ _ :: _) _) _ _ _)); (fail_if_success (with_reducible show wpAny _ _ (execs (Stmt.Assign [Expr.Name "total" _] _ _ :: _) _) _ _ _)); (fail_if_success (with_reducible show wpAny _ _ (execs [] _) _ _ _)); walk_at "STEP1"))
local macro_rules | `(tactic| walk_at "TAIL") => `(tactic| with_reducible assumption)
local macro_rules | `(tactic| walk_at "subscriptTail") => `(tactic| (k_here; (with_reducible show wpAny _ _ (subscriptTail _ _ (Value.ref (List.getD _ _ _)) (Value.int _ _)) _ _ _); k_dflt (refine' item_row (by k_asm) (by walk_at "TAIL") (by assumption) (by omega) (by omega) (by omega) ?_ (by with_unfolding_all rfl); intro t')))
local macro_rules | `(tactic| walk_at "setItem ref int") => `(tactic| (k_here; (with_reducible show wpAny _ _ (setItem (Value.ref (List.getD _ _ _)) (Value.int _ _) (Value.int _ _)) _ _ _); k_dflt (refine' set_row (by k_asm) (by k_asm) (by walk_at "TAIL") (by assumption) (by omega) (by omega) (by omega) ?_); intro h' rest' F' N' R' hsub'; (try dsimp only at N'); (try k_sweep)))
/-- a tie: its two ends and its distance -/
noncomputable def tieOf (d : Nat → Nat) (k j : Nat) : Int := if j = 0 then endA k else if j = 1 then endB k else d k
inductive TrC (i : Nat) (ys : List Value) (nw : List (Addr × Obj)) : Prop
  | mk (as : List Addr) (h0 : ys = as.map Value.ref) (h1 : RowsAt as i (fun _ _ => 0) nw)
theorem off1_ne {D : Addr} {l : List (Addr × Obj)} (h : LCg.Off1 D l) : ∀ p ∈ l, @Ne Nat p.1 D := by
  induction l with
  | nil => exact fun _ h => nomatch h
  | cons q l ih => exact List.forall_mem_cons.mpr ⟨h.1, ih h.2⟩
theorem nat2 (p q : Nat) : (0 + (p : Int) + 1 + (q : Int)).toNat = p + 1 + q := by omega
theorem nat3 (p q r : Nat) : (0 + (p : Int) + 1 + (q : Int) + 1 + (r : Int)).toNat = p + 1 + q + 1 + r := by omega
theorem lt_step (p q : Nat) : p < p + 1 + q := by omega
theorem sum31 {a b c : Nat} (ha : a ≤ 10) (hb : b ≤ 10) (hc : c ≤ 10) : 0 ≤ (a : Int) + (b : Int) + (c : Int) ∧ (a : Int) + (b : Int) + (c : Int) < 31 ∧ ((a : Int) + (b : Int) + (c : Int)).toNat = a + b + c := by omega
theorem at_k (p q r : Nat) (hr : p + 1 + q + 1 + r < 6) : ∀ k, k < 4 → 0 ≤ [0 + (p : Int), 0 + (p : Int) + 1 + (q : Int), 0 + (p : Int) + 1 + (q : Int) + 1 + (r : Int), 6].getD k 0 ∧ [0 + (p : Int), 0 + (p : Int) + 1 + (q : Int), 0 + (p : Int) + 1 + (q : Int) + 1 + (r : Int), 6].getD k 0 < 7
  | 0, _ => by show (0 : Int) ≤ 0 + (p : Int) ∧ 0 + (p : Int) < 7; omega
  | 1, _ => by show (0 : Int) ≤ 0 + (p : Int) + 1 + (q : Int) ∧ 0 + (p : Int) + 1 + (q : Int) < 7; omega
  | 2, _ => by show (0 : Int) ≤ 0 + (p : Int) + 1 + (q : Int) + 1 + (r : Int) ∧ 0 + (p : Int) + 1 + (q : Int) + 1 + (r : Int) < 7; omega
  | 3, _ => ⟨show (0 : Int) ≤ 6 by decide, show (6 : Int) < 7 by decide⟩
  | k + 4, h => absurd h (by omega)
theorem ends_in {p q s : Nat} (hp : p < 6) (hq : q < 6) (hs : s < 6) : ∀ x ∈ [(endB s : Int), (endA s : Int), (endB q : Int), (endA q : Int), (endB p : Int), (endA p : Int)], x ∈ [(3 : Int), 2, 1, 0] := by
  have a : ∀ k, k < 6 → (endA k : Int) ∈ [(3 : Int), 2, 1, 0] := by decide
  have b : ∀ k, k < 6 → (endB k : Int) ∈ [(3 : Int), 2, 1, 0] := by decide
  intro x hx
  simp only [List.mem_cons, List.not_mem_nil, or_false] at hx
  rcases hx with rfl | rfl | rfl | rfl | rfl | rfl
  · exact b s hs
  · exact a s hs
  · exact b q hq
  · exact a q hq
  · exact b p hp
  · exact a p hp
theorem spans_iff {p q s : Nat} (hp : p < q) (hq : q < s) (hs : s < 6) : card [(endB s : Int), (endA s : Int), (endB q : Int), (endA q : Int), (endB p : Int), (endA p : Int)] = card [3, 2, 1, 0] ↔ trees.contains (p, q, s) = true := by
  have key : ∀ s, s < 6 → ∀ q, q < s → ∀ p, p < q → (card [(endB s : Int), (endA s : Int), (endB q : Int), (endA q : Int), (endB p : Int), (endA p : Int)] = card [3, 2, 1, 0] ↔ trees.contains (p, q, s) = true) := by decide +kernel
  exact key s hs q hq p hp
theorem RowsAt.congr {as : List Addr} {n : Nat} {g g' : Nat → Nat → Int} {nw : List (Addr × Obj)} (R : RowsAt as n g nw) (h : ∀ K, K < n → ∀ t, t < 31 → g K t = g' K t) : RowsAt as n g' nw :=
  ⟨R.1, R.2, fun j hj => by
    obtain ⟨o, vs, c, h1, h2, h3, h4⟩ := R.3 j hj
    refine ⟨o, vs, c, h1, h2, h3, ?_⟩
    rw [show (List.range 31).map (g' j) = (List.range 31).map (g j) from List.map_congr_left fun t ht => (h j hj t (List.mem_range.mp ht)).symm]
    exact h4⟩
inductive TrK (rest₀ : List (Addr × Obj)) (l : Addr) (Ct : Addr) (as : List Addr) (p q r : Nat) (tt : Int) (tp tq ts : Tok) (I₁ I₂ I₃ : Addr) (oI₁ oI₂ oI₃ : Obj) (g : Nat → Nat → Int) (k : Nat) (m : Str → Option Value) (news : List (Addr × Obj)) : Prop
  | mk (rest : List (Addr × Obj)) (Tu : Addr) (oT : Obj) (t : Tok) (h0 : news = (Tu, oT) :: (I₃, oI₃) :: (I₂, oI₂) :: (I₁, oI₁) :: (Ct, LCg.lst (as.map Value.ref)) :: rest) (h1 : (∀ p ∈ rest, @Ne Nat p.1 Tu)) (h2 : (∀ p ∈ rest, @Ne Nat p.1 Ct)) (h3 : (∀ p ∈ rest, @Ne Nat p.1 I₁)) (h4 : (∀ p ∈ rest, @Ne Nat p.1 I₂)) (h5 : (∀ p ∈ rest, @Ne Nat p.1 I₃)) (h6 : (∀ p ∈ rest, ∃ q ∈ rest₀, q.1 = p.1)) (h7 : RowsAt as 7 (kf g [0 + (p : Int), 0 + (p : Int) + 1 + (q : Int), 0 + (p : Int) + 1 + (q : Int) + 1 + (r : Int), 6] tt.toNat k) rest) (h8 : m (Str.ofString "counts") = some (.ref Ct)) (h9 : m (Str.ofString "ties") = some (.ref l)) (h10 : m (Str.ofString "p") = some (.int (0 + (p : Int)) tp)) (h11 : m (Str.ofString "q") = some (.int (0 + (p : Int) + 1 + (q : Int)) tq)) (h12 : m (Str.ofString "total") = some (.int tt t))
theorem news_head {h₀ h : Heap} {L p : Addr} {o : Obj} {rest : List (Addr × Obj)} (N : News h₀ L h ((p, o) :: rest)) : ∃ o', o' = o ∧ News h₀ L h ((p, o') :: rest) := ⟨o, rfl, N⟩
inductive TrP (l : Addr) (d : Nat → Nat) (Ct : Addr) (as : List Addr) (i : Nat) (m : Str → Option Value) (news : List (Addr × Obj)) : Prop
  | mk (rest : _) (h0 : news = (Ct, LCg.lst (as.map Value.ref)) :: rest) (h1 : (∀ p ∈ rest, @Ne Nat p.1 Ct)) (h2 : RowsAt as 7 (fun K t => inP d K t i) rest) (h3 : m (Str.ofString "counts") = some (.ref Ct)) (h4 : m (Str.ofString "ties") = some (.ref l))
inductive TrQ (l : Addr) (d : Nat → Nat) (Ct : Addr) (as : List Addr) (p : Nat) (tp : Tok) (I₁ : Addr) (oI₁ : Obj) (i : Nat) (m : Str → Option Value) (news : List (Addr × Obj)) : Prop
  | mk (rest : _) (h0 : news = (I₁, oI₁) :: (Ct, LCg.lst (as.map Value.ref)) :: rest) (h1 : (∀ p ∈ rest, @Ne Nat p.1 Ct)) (h2 : (∀ p ∈ rest, @Ne Nat p.1 I₁)) (h3 : RowsAt as 7 (fun K t => (inP d K t p + inQ d p K t i : Nat)) rest) (h4 : m (Str.ofString "counts") = some (.ref Ct)) (h5 : m (Str.ofString "ties") = some (.ref l)) (h6 : m (Str.ofString "p") = some (.int (0 + (p : Int)) tp))
inductive TrS (l : Addr) (d : Nat → Nat) (Ct : Addr) (as : List Addr) (p j : Nat) (tp tq : Tok) (I₁ I₂ : Addr) (oI₁ oI₂ : Obj) (i : Nat) (m : Str → Option Value) (news : List (Addr × Obj)) : Prop
  | mk (rest : _) (h0 : news = (I₂, oI₂) :: (I₁, oI₁) :: (Ct, LCg.lst (as.map Value.ref)) :: rest) (h1 : (∀ p ∈ rest, @Ne Nat p.1 Ct)) (h2 : (∀ p ∈ rest, @Ne Nat p.1 I₁)) (h3 : (∀ p ∈ rest, @Ne Nat p.1 I₂)) (h4 : RowsAt as 7 (fun K t => (inP d K t p + inQ d p K t j + inS d p (p + 1 + j) K t i : Nat)) rest) (h5 : m (Str.ofString "counts") = some (.ref Ct)) (h6 : m (Str.ofString "ties") = some (.ref l)) (h7 : m (Str.ofString "p") = some (.int (0 + (p : Int)) tp)) (h8 : m (Str.ofString "q") = some (.int (0 + (p : Int) + 1 + (j : Int)) tq))
theorem c_trees (l : Addr) (d : Nat → Nat) (hg : Grid s.heap l 6 3 (tieOf d)) (hd : ∀ k, k < 6 → d k ≤ 10) (X : Amb w mean mg mb s.heap) (hdep : A.depth < recursionLimit) (hh : A.handled = none) (hu : A.units + 64 < cLine)
    (ret : ∀ D h' tk', s.heap.StaysIn h' → Grid h' D 7 31 (fun k t => ((tots d k).count t : Int)) → Q (.ref D) { s with heap := h', toks := tk' }) :
    wpAny (model pw w) A (call (.ref 164) [.ref l]) Q E s := by
  walk_at "FILL"
  have KX := X.kx
  have T := X.top
  refine' enterP [(Str.ofString "ties", .ref l)] KX T (by omega) ?ho ?hcd ?hb ?hl ?c1 ?c2 ?c3 ?c4 (fun h₁ F N => ?_)
  walk_at "ENTER"
  walk_at "SHOW"
  k_fold
  walk_at "STEPS"
  walk_at "ACOMP"
  walk_at "STEPS"
  refine LCg.CompSrc.range (n := 7) hh (by k_asm) (by k_asm) (by assumption) (small_one (by omega) (by omega) (by omega) (by omega)) (by rw [rangeSize_one]; rfl) (by rw [sizeLine_eq]; omega) ?_
  intro g'
  refine compI TrC ?t ?s ?f
  case s => exact ⟨[], rfl, rfl, List.nodup_nil, fun _ h => absurd h (Nat.not_lt_zero _)⟩
  case t =>
    rintro i v I oI C oC D m₂ ys nw h tk E' hi ⟨t, rfl⟩ ⟨as, rfl, hasl, hnd, hrows⟩ hC hx F N off ne
    walk_at "SHOW"
    k_fold
    walk_at "STEPS"
    rename (News _ _ _ _) => NN
    rename (_ < _ ∧ _) => hlt
    rename (IntsAre _ _) => hI
    rename_i D' h' F' _ _ _ _ _
    have hID : @LT.lt Nat _ I D' := hlt.2.1
    have hCD : @LT.lt Nat _ C D' := hlt.2.2.1
    have hDD : @LT.lt Nat _ D D' := hlt.2.2.2.1
    refine LCg.CompEnd.intro (by assumption) NN ((D', listOf (List.toArray (List.replicate (Int.toNat 31) [Value.int 0 tk]).flatten) 0) :: nw) ?_ ⟨⟨fun h => ?_, fun h => ?_, fun h => ?_⟩, off⟩ trivial ⟨as ++ [D'], by rw [List.map_append]; rfl, ?_, ?_, ?_⟩
    · intro p hp
      simp only [List.mem_cons] at hp ⊢
      rcases hp with hp | hp | hp | hp | hp
      · exact .inr (.inr (.inl hp))
      · exact .inr (.inr (.inr (.inl hp)))
      · exact .inr (.inr (.inr (.inr (.inl hp))))
      · exact .inl hp
      · exact .inr (.inr (.inr (.inr (.inr hp))))
    · exact Nat.ne_of_gt hID h
    · exact Nat.ne_of_gt hCD h
    · exact Nat.ne_of_gt hDD h
    · rw [List.length_append, hasl]; rfl
    · refine List.nodup_append.mpr ⟨hnd, by simp, fun a ha b hb => ?_⟩
      obtain rfl := List.mem_singleton.mp hb
      obtain ⟨j, hj, rfl⟩ := List.getElem_of_mem ha
      obtain ⟨o, vs, c, h1, _⟩ := hrows j (by omega)
      have hq := allLt_ne hlt.2.2.2.2 _ h1
      rw [List.getD_eq_getElem?_getD, List.getElem?_eq_getElem hj] at hq
      exact hq
    · intro j hj
      rcases Nat.lt_or_ge j i with hjl | hjg
      · obtain ⟨o, vs, c, h1, h2, h3, h4⟩ := hrows j hjl
        exact ⟨o, vs, c, by rw [getD_app _ _ _ (by rw [hasl]; exact hjl)]; exact List.mem_cons_of_mem _ h1, h2, h3, h4⟩
      · obtain rfl : j = i := by omega
        exact ⟨_, _, _, by rw [getD_end _ _ _ hasl.symm]; exact List.mem_cons_self, rfl, rfl, hI⟩
  case f =>
    rintro ys nw ⟨as, rfl, R⟩
    walk_at "STEPS"
    rename (News _ _ _ _) => NN
    rename (LCg.Off1 _ _) => o1
    rename_i Ct h' tk' F'
    refine forN s.heap (TrP l d Ct as) (by rfl) (by rfl) ?_
    walk_at "SHOW"
    k_fold
    walk_at "STEPS"
    refine iter_range (n := 6) hh (by assumption) (small_one (by omega) (by omega) (by omega) (by omega)) (by rw [rangeSize_one]; rfl) (by assumption) (by assumption) (fun it h' hit F N hoff => ?_)
    refine ⟨_, _, _, _, _, hit, F, N, hoff, (fun _ h => nomatch h), ⟨nw, rfl, off1_ne o1, R, rfl, rfl⟩, ?_, ?_⟩
    · rintro p v m₁ news₁ h₁ tk I₁ oI₁ hp ⟨tp, rfl⟩ ⟨rest, rfl, r1, R, e1, e2⟩ F N off fx
      have F := fs2 F e1 e2
      try dsimp only
      rw [List.forall_mem_cons] at off
      obtain ⟨off1, off2⟩ := off
      have o1 : @Ne Nat Ct I₁ := off1
      walk_at "SHOW"
      k_fold
      walk_at "STEPS"
      refine forN s.heap (TrQ l d Ct as p tp I₁ oI₁) (by rfl) (by rfl) ?_
      walk_at "SHOW"
      k_fold
      walk_at "STEPS"
      refine iter_range (n := 5 - p) hh (by assumption) (small_one (by omega) (by omega) (by omega) (by omega)) (by rw [rangeSize_one]; omega) (by assumption) (by assumption) (fun it h' hit F N hoff => ?_)
      refine ⟨_, _, _, _, _, hit, F, N, hoff, (fun _ h => nomatch h), ⟨rest, rfl, r1, off2, R, rfl, rfl, rfl⟩, ?_, ?_⟩
      · rintro q v m₂ news₂ h₂ tk₂ I₂ oI₂ hq ⟨tq, rfl⟩ ⟨rest, rfl, r1, r2, R, e1, e2, e3⟩ F N off fx
        have F := fs3 F e1 e2 e3
        try dsimp only
        rw [List.forall_mem_cons, List.forall_mem_cons] at off
        obtain ⟨off1, off2, off3⟩ := off
        have o2 : @Ne Nat I₁ I₂ := off1
        have o3 : @Ne Nat Ct I₂ := off2
        have hq6 : p + 1 + q < 6 := by omega
        clear hq
        walk_at "SHOW"
        k_fold
        walk_at "STEPS"
        refine forN s.heap (TrS l d Ct as p q tp tq I₁ I₂ oI₁ oI₂) (by rfl) (by rfl) ?_
        walk_at "SHOW"
        k_fold
        walk_at "STEPS"
        refine iter_range (n := 5 - (p + 1 + q)) hh (by assumption) (small_one (by omega) (by omega) (by omega) (by omega)) (by rw [rangeSize_one]; omega) (by assumption) (by assumption) (fun it h' hit F N hoff => ?_)
        refine ⟨_, _, _, _, _, hit, F, N, hoff, (fun _ h => nomatch h), ⟨rest, rfl, r1, r2, off3, R, rfl, rfl, rfl, rfl⟩, ?_, ?_⟩
        · rintro r v m₃ news₃ h₃ tk₃ I₃ oI₃ hr ⟨ts, rfl⟩ ⟨rest, rfl, r1, r2, r3, R, e1, e2, e3, e4⟩ F N off fx
          have F := fs4 F e1 e2 e3 e4
          try dsimp only
          rw [List.forall_mem_cons, List.forall_mem_cons, List.forall_mem_cons] at off
          obtain ⟨off1, off2, off3, off4⟩ := off
          have o4 : @Ne Nat I₂ I₃ := off1
          have o5 : @Ne Nat I₁ I₃ := off2
          have o6 : @Ne Nat Ct I₃ := off3
          have ea : ∀ x, x < 6 → ((List.range 3).map (tieOf d x)).getD (Int.toNat 0) 0 = endA x := fun x _ => rowInts_getD (tieOf d x) (by decide)
          have eb : ∀ x, x < 6 → ((List.range 3).map (tieOf d x)).getD (Int.toNat 1) 0 = endB x := fun x _ => rowInts_getD (tieOf d x) (by decide)
          have ed' : ∀ x, x < 6 → ((List.range 3).map (tieOf d x)).getD (Int.toNat 2) 0 = d x := fun x _ => rowInts_getD (tieOf d x) (by decide)
          have hr6 : p + 1 + q + 1 + r < 6 := by omega
          clear hr
          have hends : ∀ x ∈ [((List.range 3).map (tieOf d (0 + (p : Int) + 1 + (q : Int) + 1 + (r : Int)).toNat)).getD (Int.toNat 1) 0, ((List.range 3).map (tieOf d (0 + (p : Int) + 1 + (q : Int) + 1 + (r : Int)).toNat)).getD (Int.toNat 0) 0,
              ((List.range 3).map (tieOf d (0 + (p : Int) + 1 + (q : Int)).toNat)).getD (Int.toNat 1) 0, ((List.range 3).map (tieOf d (0 + (p : Int) + 1 + (q : Int)).toNat)).getD (Int.toNat 0) 0,
              ((List.range 3).map (tieOf d (0 + (p : Int)).toNat)).getD (Int.toNat 1) 0, ((List.range 3).map (tieOf d (0 + (p : Int)).toNat)).getD (Int.toNat 0) 0], x ∈ [(3 : Int), 2, 1, 0] := by
            rw [nat1 p, nat2 p q, nat3 p q r, ea p hp, eb p hp, ea _ hq6, eb _ hq6, ea _ hr6, eb _ hr6]
            exact ends_in hp hq6 hr6
          walk_at "SHOW"
          k_fold
          walk_at "STEPSI"
          (rename (Obj.SetObjOf (PySem.strKind _ _) _ _ _) => hz1)
          (rename (Obj.SetObjOf (PySem.intKind _ _) _ _ _) => hz2)
          clear hz1 hz2
          refine wpAny_execs_cons ?_
          refine wpAny_If ?_
          walk_at "STEPSI"
          all_goals
            (rename (Obj.SetObjOf (PySem.strKind _ _) _ _ _) => hz1)
            (rename (Obj.SetObjOf (PySem.intKind _ _) _ _ _) => hz2)
            clear hz1 hz2
          · rename (_ = card [3, 2, 1, 0]) => hq
            rw [nat1 p, nat2 p q, nat3 p q r, ea p hp, eb p hp, ea _ hq6, eb _ hq6, ea _ hr6, eb _ hr6] at hq
            have hsp := (spans_iff (p := p) (q := p + 1 + q) (s := p + 1 + q + 1 + r) (lt_step p q) (lt_step (p + 1 + q) r) hr6).mp hq
            clear hends hq
            iterate 8 ((rename (SetL _ _ _ _) => hz1); clear hz1)
            walk_at "STEPS"
            have hT31 : 0 ≤ ((List.range 3).map (tieOf d (0 + (p : Int)).toNat)).getD (Int.toNat 2) 0 + ((List.range 3).map (tieOf d (0 + (p : Int) + 1 + (q : Int)).toNat)).getD (Int.toNat 2) 0 + ((List.range 3).map (tieOf d (0 + (p : Int) + 1 + (q : Int) + 1 + (r : Int)).toNat)).getD (Int.toNat 2) 0 ∧
                ((List.range 3).map (tieOf d (0 + (p : Int)).toNat)).getD (Int.toNat 2) 0 + ((List.range 3).map (tieOf d (0 + (p : Int) + 1 + (q : Int)).toNat)).getD (Int.toNat 2) 0 + ((List.range 3).map (tieOf d (0 + (p : Int) + 1 + (q : Int) + 1 + (r : Int)).toNat)).getD (Int.toNat 2) 0 < 31 ∧
                (((List.range 3).map (tieOf d (0 + (p : Int)).toNat)).getD (Int.toNat 2) 0 + ((List.range 3).map (tieOf d (0 + (p : Int) + 1 + (q : Int)).toNat)).getD (Int.toNat 2) 0 + ((List.range 3).map (tieOf d (0 + (p : Int) + 1 + (q : Int) + 1 + (r : Int)).toNat)).getD (Int.toNat 2) 0).toNat = tot d (p, p + 1 + q, p + 1 + q + 1 + r) := by
              rw [nat1 p, nat2 p q, nat3 p q r, ed' p hp, ed' _ hq6, ed' _ hr6]
              exact sum31 (hd p hp) (hd _ hq6) (hd _ hr6)
            rename (Fr _ _ _ _) => FF
            generalize ((List.range 3).map (tieOf d (0 + (p : Int)).toNat)).getD (Int.toNat 2) 0 + ((List.range 3).map (tieOf d (0 + (p : Int) + 1 + (q : Int)).toNat)).getD (Int.toNat 2) 0 + ((List.range 3).map (tieOf d (0 + (p : Int) + 1 + (q : Int) + 1 + (r : Int)).toNat)).getD (Int.toNat 2) 0 = tt at hT31 FF ⊢
            obtain ⟨hT0, hT31, hTt⟩ := hT31
            try dsimp only
            refine forN s.heap (TrK rest l Ct as p q r tt tp tq ts I₁ I₂ I₃ oI₁ oI₂ oI₃ (fun K t => (inP d K t p + inQ d p K t q + inS d p (p + 1 + q) K t r : Nat))) (by rfl) (by rfl) ?_
            walk_at "SHOW"
            k_fold
            walk_at "STEPS"
            have hints : ∀ t6, IntsAre [Value.int (0 + (p : Int)) tp, Value.int (0 + (p : Int) + 1 + (q : Int)) tq, Value.int (0 + (p : Int) + 1 + (q : Int) + 1 + (r : Int)) ts, Value.int 6 t6] [0 + (p : Int), 0 + (p : Int) + 1 + (q : Int), 0 + (p : Int) + 1 + (q : Int) + 1 + (r : Int), 6] := fun _ => .cons _ _ (.cons _ _ (.cons _ _ (.cons _ _ .nil)))
            rename (News _ _ _ _) => NN
            rename (_ < _ ∧ _) => hlt
            rename_i Tu h' F'
            have hT1 : ∀ p ∈ rest, @Ne Nat p.1 Tu := allLt_ne hlt.2.2.2.2.2.2
            have l2 := hlt.2.2.1
            have l3 := hlt.2.2.2.1
            have l4 := hlt.2.2.2.2.1
            have l5 := hlt.2.2.2.2.2.1
            obtain ⟨oT, eT, NN⟩ := news_head NN
            try dsimp only
            refine iter_tup hh (List.mem_cons_self) (by rw [eT]) ⟨_, by rw [eT]⟩ (by assumption) NN (fun it h' hit F N hoff => ?_)
            clear eT
            refine ⟨_, _, _, _, (Tu, oT) :: (I₃, oI₃) :: (I₂, oI₂) :: (I₁, oI₁) :: (Ct, LCg.lst (as.map Value.ref)) :: rest, hit, F, fun p hp => N p ?_, fun I e p hp => Nat.ne_of_lt (hoff I e p ?_), ?_, ⟨rest, Tu, _, _, rfl, hT1, r1, r2, r3, off4, fun p hp => ⟨p, hp, rfl⟩, R, rfl, rfl, rfl, rfl, rfl⟩, ?_, ?_⟩
            · simp only [List.mem_cons] at hp ⊢
              rcases hp with hp | hp | hp | hp | hp | hp
              · exact .inl hp
              · exact .inr (.inr (.inr (.inl hp)))
              · exact .inr (.inr (.inr (.inr (.inl hp))))
              · exact .inr (.inr (.inr (.inr (.inr (.inl hp)))))
              · exact .inr (.inr (.inr (.inr (.inr (.inr (.inl hp))))))
              · exact .inr (.inr (.inr (.inr (.inr (.inr (.inr hp))))))
            · simp only [List.mem_cons] at hp ⊢
              rcases hp with hp | hp | hp | hp | hp | hp
              · exact .inl hp
              · exact .inr (.inr (.inr (.inl hp)))
              · exact .inr (.inr (.inr (.inr (.inl hp))))
              · exact .inr (.inr (.inr (.inr (.inr (.inl hp)))))
              · exact .inr (.inr (.inr (.inr (.inr (.inr (.inl hp))))))
              · exact .inr (.inr (.inr (.inr (.inr (.inr (.inr hp))))))
            · exact fun x hx => List.mem_singleton.mp hx ▸ List.mem_cons_self
            · rintro k v m₄ news₄ h₄ tk₄ I₄ oI₄ hk hv ⟨rest₄, Tu₄, oT₄, tt₂, rfl, s1, s2, s3, s4, s5, s6, R, e1, e2, e3, e4, e5⟩ F N off fx
              obtain ⟨tv, rfl⟩ : ∃ tv, v = Value.int ([0 + (p : Int), 0 + (p : Int) + 1 + (q : Int), 0 + (p : Int) + 1 + (q : Int) + 1 + (r : Int), 6].getD k 0) tv := by
                obtain ⟨tv, h⟩ := ints_getD (hints _) (i := k) hk
                rw [List.getElem?_toArray] at hv
                exact ⟨tv, Option.some.inj (hv.symm.trans h)⟩
              rw [List.forall_mem_cons, List.forall_mem_cons, List.forall_mem_cons, List.forall_mem_cons, List.forall_mem_cons] at off
              obtain ⟨f1, f2, f3, f4, f5, f6⟩ := off
              have hk0 := (at_k p q r hr6 k hk).1
              have hk7 := (at_k p q r hr6 k hk).2
              have TL : TailOf rest₄ ((I₄, oI₄) :: (Tu₄, oT₄) :: (I₃, oI₃) :: (I₂, oI₂) :: (I₁, oI₁) :: (Ct, LCg.lst (as.map Value.ref)) :: rest₄) (fun r => (I₄, oI₄) :: (Tu₄, oT₄) :: (I₃, oI₃) :: (I₂, oI₂) :: (I₁, oI₁) :: (Ct, LCg.lst (as.map Value.ref)) :: r) := .cons f6 (.cons s1 (.cons s5 (.cons s4 (.cons s3 (.cons s2 .nil)))))
              clear hints hv
              try dsimp only
              generalize hkk : [0 + (p : Int), 0 + (p : Int) + 1 + (q : Int), 0 + (p : Int) + 1 + (q : Int) + 1 + (r : Int), 6].getD k 0 = kk at hk0 hk7 F ⊢
              have F := fs5 F e1 e2 e3 e4 e5
              walk_at "SHOW"
              k_fold
              walk_at "STEPS"
              rename_i h' rest' F' N' R' hsub'
              refine ⟨_, _, _, _, rfl, F', N', ?_, (fun x hx => ?_), ⟨rest', Tu₄, oT₄, tt₂, rfl, ne_sub s1 hsub', ne_sub s2 hsub', ne_sub s3 hsub', ne_sub s4 hsub', ne_sub s5 hsub', (fun p hp => let ⟨q, hq, e⟩ := hsub' p hp; let ⟨q₂, hq₂, e₂⟩ := s6 q hq; ⟨q₂, hq₂, e₂.trans e⟩), ?_, rfl, rfl, rfl, rfl, rfl⟩⟩
              · exact List.forall_mem_cons.mpr ⟨f1, List.forall_mem_cons.mpr ⟨f2, List.forall_mem_cons.mpr ⟨f3, List.forall_mem_cons.mpr ⟨f4, List.forall_mem_cons.mpr ⟨f5, ne_sub f6 hsub'⟩⟩⟩⟩⟩
              · have hx' := List.mem_singleton.mp hx
                have h := fx x hx
                simp only [List.mem_cons] at h ⊢
                rcases h with h | h | h | h | h | h
                · exact .inl h
                · exact .inr (.inl h)
                · exact .inr (.inr (.inl h))
                · exact .inr (.inr (.inr (.inl h)))
                · exact .inr (.inr (.inr (.inr (.inl h))))
                · obtain ⟨q₂, hq₂, e₂⟩ := s6 x h
                  exact absurd (e₂.trans (congrArg Prod.fst hx')) (hT1 q₂ hq₂)
              · show RowsAt as 7 (bump (kf _ _ _ k) (Int.toNat (List.getD _ k 0)) _ (kf _ _ _ k (Int.toNat (List.getD _ k 0)) _ + 1)) rest'
                rw [hkk]
                exact R'
            · rintro m₄ news₄ h₄ tk₄ ⟨rest, Tu, oT, tt₂, rfl, s1, s2, s3, s4, s5, s6, R, e1, e2, e3, e4, e5⟩ F N fx
              have F := fr5 F e1 e2 e3 e4 e5
              try dsimp only
              walk_at "SHOW"
              k_fold
              walk_at "STEPS"
              rename (News _ _ _ _) => NN
              refine ⟨_, _, _, _, rfl, by assumption, fun x hx => NN x (List.mem_cons_of_mem _ hx), ?_, (fun _ h => nomatch h), ⟨rest, rfl, s2, s3, s4, R.congr fun K hK t ht => ?_, rfl, rfl, rfl, rfl⟩⟩
              · exact List.forall_mem_cons.mpr ⟨off1, List.forall_mem_cons.mpr ⟨off2, List.forall_mem_cons.mpr ⟨off3, s5⟩⟩⟩
              · have hk := kf_ind (d := d) (g := fun K t => (inP d K t p + inQ d p K t q + inS d p (p + 1 + q) K t r : Nat)) (is := [0 + (p : Int), 0 + (p : Int) + 1 + (q : Int), 0 + (p : Int) + 1 + (q : Int) + 1 + (r : Int), 6]) (p := p) (q := p + 1 + q) (s := p + 1 + q + 1 + r) (nat1 p) (nat2 p q) (nat3 p q r) rfl (lt_step p q) (lt_step (p + 1 + q) r) hr6 hsp (K := K) (t := t)
                rw [← hTt] at hk
                refine Eq.trans (b := kf (fun K t => (inP d K t p + inQ d p K t q + inS d p (p + 1 + q) K t r : Nat)) [0 + (p : Int), 0 + (p : Int) + 1 + (q : Int), 0 + (p : Int) + 1 + (q : Int) + 1 + (r : Int), 6] tt.toNat 4 K t) rfl (hk.trans ?_)
                show (_ : Int) = ((inP d K t p + inQ d p K t q + (inS d p (p + 1 + q) K t r + ind d p (p + 1 + q) (p + 1 + q + 1 + r) K t) : Nat) : Int)
                omega
          · rename (¬ _ = card [3, 2, 1, 0]) => hq
            rw [nat1 p, nat2 p q, nat3 p q r, ea p hp, eb p hp, ea _ hq6, eb _ hq6, ea _ hr6, eb _ hr6] at hq
            have hsp := fun h => hq ((spans_iff (p := p) (q := p + 1 + q) (s := p + 1 + q + 1 + r) (lt_step p q) (lt_step (p + 1 + q) r) hr6).mpr h)
            clear hends hq
            iterate 8 ((rename (SetL _ _ _ _) => hz1); clear hz1)
            walk_at "STEPS"
            refine ⟨_, _, _, _, rfl, by assumption, cb_drop (by assumption) (by kcf_all), ?_, (fun _ h => nomatch h), ⟨rest, rfl, r1, r2, r3, R.congr fun K hK t ht => ?_, rfl, rfl, rfl, rfl⟩⟩
            · exact List.forall_mem_cons.mpr ⟨off1, List.forall_mem_cons.mpr ⟨off2, List.forall_mem_cons.mpr ⟨off3, off4⟩⟩⟩
            · show (inP d K t p + inQ d p K t q + inS d p (p + 1 + q) K t r : Nat) = ((inP d K t p + inQ d p K t q + (inS d p (p + 1 + q) K t r + ind d p (p + 1 + q) (p + 1 + q + 1 + r) K t) : Nat) : Int)
              have : ind d p (p + 1 + q) (p + 1 + q + 1 + r) K t = 0 := by
                unfold ind
                rw [Bool.eq_false_iff.mpr hsp]; rfl
              rw [this]; rfl
        · rintro m₃ news₃ h₃ tk₃ ⟨rest, rfl, r1, r2, r3, R, e1, e2, e3, e4⟩ F N fx
          have F := fr4 F e1 e2 e3 e4
          try dsimp only
          walk_at "SHOW"
          k_fold
          walk_at "STEPS"
          rename (News _ _ _ _) => NN
          refine ⟨_, _, _, _, rfl, by assumption, NN, ?_, (fun _ h => nomatch h), ⟨rest, rfl, r1, r2, R.congr fun K hK t ht => ?_, rfl, rfl, rfl⟩⟩
          · exact List.forall_mem_cons.mpr ⟨off1, List.forall_mem_cons.mpr ⟨off2, r3⟩⟩
          · show (_ : Int) = ((inP d K t p + (inQ d p K t q + inS d p (p + 1 + q) K t (5 - (p + 1 + q))) : Nat) : Int)
            omega
      · rintro m₂ news₂ h₂ tk₂ ⟨rest, rfl, r1, r2, R, e1, e2, e3⟩ F N fx
        have F := fr3 F e1 e2 e3
        try dsimp only
        walk_at "SHOW"
        k_fold
        walk_at "STEPS"
        rename (News _ _ _ _) => NN
        refine ⟨_, _, _, _, rfl, by assumption, NN, ?_, (fun _ h => nomatch h), ⟨rest, rfl, r1, R.congr fun K hK t ht => ?_, rfl, rfl⟩⟩
        · exact List.forall_mem_cons.mpr ⟨off1, r2⟩
        · exact congrArg Int.ofNat rfl
    · rintro m₁ news₁ h₁ tk₁ ⟨rest, rfl, r1, R, e1, e2⟩ F N fx
      have F := fr2 F e1 e2
      try dsimp only
      walk_at "SHOW"
      k_fold
      walk_at "STEPS"
      rename (News _ _ _ _) => NN
      refine ret _ _ _ (Fr.keep (by assumption)) ⟨as, R.1, News.isList NN List.mem_cons_self, fun j hj => ?_⟩
      obtain ⟨o, vs, c, h1, hc, hdd, hi⟩ := R.3 j hj
      refine ⟨vs, ⟨o, (NN _ (List.mem_cons_of_mem _ h1)).1, hc, c, hdd⟩, ?_⟩
      rw [show (List.range 31).map (fun t => ((tots d j).count t : Int)) = (List.range 31).map (fun t => (inP d j t 6 : Int)) from List.map_congr_left fun t ht => by rw [inP_six d j t hj]]
      exact hi
end

end
section
section
variable {w : World} {mean : ExcName → Option Value} {mg mb : Str → Option Value} {A : Around} {s : Shared} {Q E : Value → Shared → Prop} {K : Frag} {f : Addr} {args : List Value}
  {name qual : Str} {params : Arguments} {body : List Stmt} {scope : Scope} {dV kV doc pm cdv ct oc : Value} {an od : Option Addr} {osl : Array (Option Value)} {h₀ : Heap} {it : Addr} {io : Obj}
/-- entering a function that changes one object of its caller's, which is no object of the caller's base -/
theorem enterH (binds : List (Str × Value)) (X : (heap39 w.params).In h₀) (T : TopM mean mg mb h₀) (kc : h₀.StaysIn s.heap) (hi0 : h₀.get? it = none) (hio : s.heap.get? it = some io) (hdep : A.depth < recursionLimit)
    (ho : (heap39 w.params).lookup f = some ⟨oc, od, .func (fnOf name qual params body scope dV kV doc pm an cdv ct), osl⟩) (hcd : codeIn (heap39 w.params) cdv qual = true)
    (hbind : bindArgs (fnOf name qual params body scope dV kV doc pm an cdv ct) ⟨args, []⟩ = pure binds) (hloc : ∀ y ∈ binds, scope.names.lookup y.1 = some .local)
    (hco : scope.isCoroutine = false) (hgen : scope.isGenerator = false) (hk : scope.kind = .function)
    (hcell : ∀ x ∈ scope.names, x.2 ≠ .cell)
    (h : ∀ g h₁, h₀.StaysIn g → (∀ b o, b ≠ it → s.heap.get? b = some o → g.get? b = some o) → Fr g s.heap.objs.size h₁ (fun y => binds.reverse.lookup y) → News g s.heap.objs.size h₁ [(it, io)] →
      wpAny (model pw w) (A.deeper (envOf qual scope s.heap.objs.size f cdv)) (execs body (envOf qual scope s.heap.objs.size f cdv))
        (fun fl s' => Q (match fl with | .ret v => v | _ => .none) s')
        (fun e s' => wpAny (model pw w) (A.deeper (envOf qual scope s.heap.objs.size f cdv)) (leaving (envOf qual scope s.heap.objs.size f cdv) e) (fun _ s'' => E e s'') (fun e' s'' => E e' s'') s')
        { s with heap := h₁, toks := s.toks + binds.length }) :
    wpAny (model pw w) A (call (.ref f) args) Q E s := by
  refine wpAny_call ?_
  have X' := X.keeps kc
  have T' := T.keeps kc
  refine codeAny_call_def (fd := fnOf name qual params body scope dV kV doc pm an cdv ct) (body := body) (binds := binds) hdep (X' _ _ ho) rfl T'.nolimit (codeRec_of X' hcd) rfl (BindsTo.of_eq hbind) hcell hloc (fun h₁ hns hk₁ => ?_) hco hgen hk
  refine wpAny_mono (h (hideAll s.heap [it]) h₁ (fun b o e => hideAll_get [it] (kc b o e) fun hm => ?_) (fun b o hb e => hideAll_get [it] e (by rw [List.mem_singleton]; exact hb)) ⟨hns, fun b o e => hk₁ b o (of_hideAll _ e), Nat.le_of_eq (hideAll_size _ _)⟩ (fun p hp => ?_)) (fun _ _ x => x) fun _ _ x => x
  · rw [List.mem_singleton.mp hm, hi0] at e; cases e
  · obtain rfl := List.mem_singleton.mp hp
    exact ⟨hk₁ _ _ hio, Nat.ne_of_lt (Heap.lt_size hio), hideAll_none [it] (List.mem_singleton.mpr rfl)⟩
end
/-- a list's iterator, at place i -/
def ListIt (o : Obj) (l : Addr) (i : Nat) : Prop := o.cls = .type "list_iterator" ∧ o.data = .fields #[.ref l, .int i 0]
section
variable {prog : Program} {w : World} {A : Around} {E : Value → Shared → Prop} {s : Shared} {h₀ : Heap} {L it l : Addr} {m : Str → Option Value} {news : List (Addr × Obj)} {g : Obj → List (Addr × Obj)} {io : Obj} {items : Array Value} {x : Value} {i : Nat}
theorem next_item {Q : Value → Shared → Prop} (F : Fr h₀ L s.heap m) (N : News h₀ L s.heap news) (U : UpdF it io news g) (hi : ListIt io l i) (hl₀ : h₀.IsList l items) (hx : items[i]? = some x)
    (h : ∀ h' o', Fr h₀ L h' m → News h₀ L h' (g o') → ListIt o' l (i + 1) → (∀ b o, b ≠ it → s.heap.get? b = some o → h'.get? b = some o) → Q x { s with heap := h' }) :
    wpAny (model prog w) A (call (.builtin "next") [.ref it]) Q E s := by
  have hl : s.heap.IsList l items := hl₀.at fun o e => F.keep l o e
  obtain ⟨pre, post, hln, hg, a, b⟩ := U.split
  have hmem : (it, io) ∈ news := by rw [hln]; exact List.mem_append_right _ (.head _)
  have hm := N (it, io) hmem
  have hit : s.heap.IsListIter it l i := ⟨io, hm.1, hi.1, hi.2⟩
  refine call_function_entry (by decide +kernel) (by decide +kernel) kdk_entry_next (kdk_args_next _) ?_
  unfold Builtin.«next»
  refine wpAny_bind (m := someArgs "next" 1 2 _) (wpAny_of_eq (a := [Value.ref it]) (by first | rfl | kernel_rfl!) ?_)
  dsimp only
  refine wpAny_bind (wpAny_specialOf (name := Str.ofString "__next__") hit.typeIs slot_listiter_next.lookup ?_)
  refine wpAny_ite_split (fun hab => absurd hab (by decide)) (fun _ => ?_)
  obtain ⟨o, ho, hc, hd⟩ := id hit
  obtain ⟨ol, hol, _, nl, hdl⟩ := hl
  refine wpAny_bind (wpAny_callSpecial?_slot (name := Str.ofString "__next__") hit.typeIs slot_listiter_next
    (wpAny_call_entry slot_listiter_next hit.typeIs entry_listiter_next ?_ (args_listiter_next _)))
  show wpAny _ _ (field (.ref it) 0 >>= _) _ _ s
  refine wpAny_bind (wpAny_field ho hd (x := .ref l) rfl ?_)
  show wpAny _ _ (if (Value.ref l == Value.none) = true then _ else _) _ _ s
  rw [if_neg (show ¬ ((Value.ref l == Value.none) = true) from Bool.false_ne_true)]
  show wpAny _ _ (field (.ref it) 1 >>= _) _ _ s
  refine wpAny_bind (wpAny_field ho hd (x := .int i 0) rfl ?_)
  show wpAny _ _ (seqItems? (.ref l) >>= _) _ _ s
  refine wpAny_bind (wpAny_seqItems hol hdl ?_)
  simp only [Int.toNat_natCast, hx]
  refine wpAny_bind (wpAny_setField ho hd (by simp) (wpAny_pure ⟨x, rfl, ?_⟩))
  have hit' : (s.heap.update it (Obj.mapFields (·.setIfInBounds 1 (rawInt ((i : Int) + 1))))).IsListIter it l (i + 1) :=
    ⟨_, Heap.get?_update_self _ ho (Obj.isFreed_of_fields (Obj.data_mapFields hd _)), (Obj.cls_mapFields ..).trans hc, by
      rw [Obj.data_mapFields hd]; simp [rawInt]⟩
  obtain ⟨o', ho', hc', hd'⟩ := hit'
  have hs := Heap.SameBut.update s.heap it (Obj.mapFields (·.setIfInBounds 1 (rawInt ((i : Int) + 1))))
  exact wpAny_pure ⟨_, rfl, h _ o' (F.change hs hm.2.1 hm.2.2) (hg o' ▸ (show News h₀ L s.heap (pre ++ (it, io) :: post) from hln ▸ N).setIn a b hs ho') ⟨hc', hd'⟩ (fun b o hb e => hs.extBut b o hb e)⟩
end
theorem digit_mask : ∀ d, d < 64 → Builtin.bitAnd (((64 + d : Nat) : Int)) 63 = ((d : Nat) : Int) ∧ Builtin.bitAnd (((64 + d : Nat) : Int)) 64 = 64 ∧ Builtin.bitAnd ((d : Nat) : Int) 63 = ((d : Nat) : Int) ∧ Builtin.bitAnd ((d : Nat) : Int) 64 = 0 := by decide +kernel
theorem or_digit (v d : Nat) (h : d < 64) : Builtin.bitOr (((v : Nat) : Int) * 2 ^ (Int.toNat 6)) ((d : Nat) : Int) = ((v * 64 + d : Nat) : Int) := by
  have e : ((v : Nat) : Int) * 2 ^ (Int.toNat 6) = ((v * 64 : Nat) : Int) := by
    rw [Int.natCast_mul]; rfl
  have hz : v * 64 &&& d = 0 := by
    have hd : d = d % 2 ^ 6 := (Nat.mod_eq_of_lt h).symm
    apply Nat.eq_of_testBit_eq
    intro j
    rw [Nat.testBit_and, Nat.zero_testBit]
    by_cases hj : j < 6
    · rw [show v * 64 = v * 2 ^ 6 from rfl, Nat.testBit_mul_two_pow]
      simp [Nat.not_le.mpr hj]
    · rw [hd, Nat.testBit_mod_two_pow]
      simp [hj]
  rw [e, bitOr_and, bitAnd_pp (Int.natCast_nonneg _) (Int.natCast_nonneg _), Int.toNat_natCast, Int.toNat_natCast, hz]
  simp
/-- the number of the digits dg 0, dg 1, .. , the highest first -/
noncomputable def horD (dg : Nat → Nat) : Nat → Nat
  | 0 => 0
  | j + 1 => horD dg j * 64 + dg j
theorem horD_lt (dg : Nat → Nat) : ∀ m, (∀ j, j < m → dg j < 64) → horD dg m < 64 ^ m
  | 0, _ => Nat.one_pos
  | m + 1, h => by
    have h1 := horD_lt dg m fun j hj => h j (by omega)
    have h2 := h m (by omega)
    show horD dg m * 64 + dg m < 64 ^ (m + 1)
    rw [Nat.pow_succ]
    omega
theorem horD_hor (g : Nat → Nat) (n : Nat) : ∀ j, horD (fun k => g (n - 1 - k)) j = hor g n j
  | 0 => rfl
  | j + 1 => congrArg (fun z => z * 64 + g (n - 1 - j)) (horD_hor g n j)
section
variable {prog : Program} {w : World} {A : Around} {E : Value → Shared → Prop} {s : Shared} {h₀ : Heap} {L it l : Addr} {m : Str → Option Value} {news : List (Addr × Obj)} {g : Obj → List (Addr × Obj)} {io : Obj} {items : Array Value} {x : Value} {i : Nat}
theorem next_end {Q : Value → Shared → Prop} (hh : A.handled = none) (F : Fr h₀ L s.heap m) (N : News h₀ L s.heap news) (hm : (it, io) ∈ news) (hi : ListIt io l i) (hl₀ : h₀.IsList l items) (hx : items[i]? = none)
    (h : ∀ h' e, Heap.ExtBut it s.heap h' → s.heap.get? e = none → (∃ ob vs, h'.get? e = some ob ∧ ob.cls = .type "StopIteration" ∧ ob.data = .fields vs ∧ vs[1]? = some .none ∧ ∃ a0, vs[0]? = some a0) → E (.ref e) { s with heap := h' }) :
    wpAny (model prog w) A (call (.builtin "next") [.ref it]) Q E s := by
  have hl : s.heap.IsList l items := hl₀.at fun o e => F.keep l o e
  have hmm := N (it, io) hm
  have hit : s.heap.IsListIter it l i := ⟨io, hmm.1, hi.1, hi.2⟩
  refine call_function_entry (by decide +kernel) (by decide +kernel) kdk_entry_next (kdk_args_next _) ?_
  unfold Builtin.«next»
  refine wpAny_bind (m := someArgs "next" 1 2 _) (wpAny_of_eq (a := [Value.ref it]) (by first | rfl | kernel_rfl!) ?_)
  dsimp only
  refine wpAny_bind (wpAny_specialOf (name := Str.ofString "__next__") hit.typeIs slot_listiter_next.lookup ?_)
  refine wpAny_ite_split (fun hab => absurd hab (by decide)) (fun _ => ?_)
  obtain ⟨o, ho, hc, hd⟩ := id hit
  obtain ⟨ol, hol, _, nl, hdl⟩ := hl
  refine wpAny_bind (wpAny_callSpecial?_slot (name := Str.ofString "__next__") hit.typeIs slot_listiter_next
    (wpAny_call_entry slot_listiter_next hit.typeIs entry_listiter_next ?_ (args_listiter_next _)))
  show wpAny _ _ (field (.ref it) 0 >>= _) _ _ s
  refine wpAny_bind (wpAny_field ho hd (x := .ref l) rfl ?_)
  show wpAny _ _ (if (Value.ref l == Value.none) = true then _ else _) _ _ s
  rw [if_neg (show ¬ ((Value.ref l == Value.none) = true) from Bool.false_ne_true)]
  show wpAny _ _ (field (.ref it) 1 >>= _) _ _ s
  refine wpAny_bind (wpAny_field ho hd (x := .int i 0) rfl ?_)
  show wpAny _ _ (seqItems? (.ref l) >>= _) _ _ s
  refine wpAny_bind (wpAny_seqItems hol hdl ?_)
  simp only [Int.toNat_natCast, hx]
  refine wpAny_bind (wpAny_rule (wpAny_bind (wpAny_setField ho hd (by simp) ?_)))
  show wpAny _ _ (newExc (.type "StopIteration") [] >>= _) _ _ _
  refine wpAny_bind ?_
  simp only [newExc, newTuple]
  refine wpAny_bind (wpAny_newObj_type ?_ (by size_fits))
  refine wpAny_bind (m := firstArgMember _ _) (wpAny_of_eq (a := Value.none) (by first | rfl | (simp only [firstArgMember]; rfl)) ?_)
  refine wpAny_newObj_type ?_ (by size_fits)
  simp only [raiseNew]
  refine wpAny_bind (wpAny_handled ?_)
  first | rw [show (A.in1.in1).handled = none from hh] | rw [show A.in1.handled = none from hh] | rw [hh]
  refine wpAny_bind (wpAny_pure (wpAny_throw ?_))
  refine h _ _ (((Heap.SameBut.update ..).extBut.push _).push _) ?_ ⟨_, _, Heap.get?_push_size _ rfl, rfl, rfl, rfl, _, rfl⟩
  refine Heap.get?_none_of_le ?_
  rw [Heap.size_push]
  exact Nat.le_succ_of_le (Nat.le_of_eq (by simp [Heap.update]))
end

end
section
section
variable {w : World} {mean : ExcName → Option Value} {mg mb : Str → Option Value} {A : Around} {s : Shared} {Q E : Value → Shared → Prop}
local macro_rules | `(tactic| walk_at "call builtin:next") => `(tactic| (k_here; (with_reducible show wpAny _ _ (call (Value.builtin "next") [Value.ref _]) _ _ _); k_dflt (refine' next_item (by k_asm) (by k_asm) (by k_updF) (by assumption) (by assumption) (by assumption) ?_); intro h' o' F' N' hi' hk'; (try dsimp only at N')))
local macro_rules | `(tactic| walk_at "inplaceOp LShift int int") => `(tactic| (k_here; (with_reducible show wpAny _ _ (inplaceOp _ (Value.int _ _) (Value.int _ _)) _ _ _); k_dflt (refine' ilshift_int (by omega) (by omega) ?_)))
theorem first_digit {d : Nat} {p : Prop} [Decidable p] (h : d < 64) : Builtin.bitAnd (if p then ((64 + d : Nat) : Int) else ((d : Nat) : Int)) 63 = ((0 * 64 + d : Nat) : Int) := by
  rw [Nat.zero_mul, Nat.zero_add]
  split
  · exact (digit_mask d h).1
  · exact (digit_mask d h).2.2.1
theorem digit_step {v d : Nat} (h : d < 64) {p : Prop} [Decidable p] : Builtin.bitOr (((v : Nat) : Int) * 2 ^ (Int.toNat 6)) (Builtin.bitAnd (if p then ((64 + d : Nat) : Int) else ((d : Nat) : Int)) 63) = ((v * 64 + d : Nat) : Int) := by
  have e : Builtin.bitAnd (if p then ((64 + d : Nat) : Int) else ((d : Nat) : Int)) 63 = ((d : Nat) : Int) := by
    split
    · exact (digit_mask d h).1
    · exact (digit_mask d h).2.2.1
  rw [e]; exact or_digit v d h
inductive VaI (s : Shared) (g : Heap) (it l : Addr) (i m : Nat) (dg : Nat → Nat) (n : Nat) (s₁ : Shared) : Prop
  | mk (h tk j io t u mm : _) (h0 : s₁ = { s with heap := h, toks := tk }) (h1 : j + n = m) (h2 : 1 ≤ j) (h3 : ListIt io l (i + j)) (h4 : Fr g s.heap.objs.size h mm) (h5 : News g s.heap.objs.size h [(it, io)]) (h6 : mm (Str.ofString "iterator") = some (.ref it)) (h7 : mm (Str.ofString "val") = some (.int (horD dg j : Nat) t)) (h8 : mm (Str.ofString "b") = some (.int (if j < m then ((64 + dg (j - 1) : Nat) : Int) else ((dg (j - 1) : Nat) : Int)) u))
theorem c_varint (h₀ : Heap) (it l : Addr) (io : Obj) (items : Array Value) (i m : Nat) (dg : Nat → Nat) (X : Amb w mean mg mb h₀) (kc : h₀.StaysIn s.heap) (hi0 : h₀.get? it = none) (hio : s.heap.get? it = some io) (hit : ListIt io l i) (hl : s.heap.IsList l items) (hdep : A.depth < recursionLimit) (hh : A.handled = none)
    (hm : 1 ≤ m ∧ m ≤ 31) (hd : ∀ j, j < m → dg j < 64) (hv : ∀ j, j < m → ∃ t, items[i + j]? = some (.int (if j + 1 < m then ((64 + dg j : Nat) : Int) else ((dg j : Nat) : Int)) t))
    (ret : ∀ t' h' tk' io', (∀ b o, b ≠ it → s.heap.get? b = some o → h'.get? b = some o) → h'.get? it = some io' → ListIt io' l (i + m) → Q (.int ((horD dg m : Nat) : Int) t') { s with heap := h', toks := tk' }) :
    wpAny (model pw w) A (call (.ref 29) [.ref it]) Q E s := by
  walk_at "FILL"
  have KX := X.kx
  have T := X.top
  have hne : l ≠ it := fun q => by
    obtain ⟨o, ho, hc, _⟩ := hl
    rw [q, hio] at ho; cases ho
    rw [hit.1] at hc; simp at hc
  refine' enterH (it := it) [(Str.ofString "iterator", .ref it)] KX T kc hi0 hio hdep ?ho ?hcd ?hb ?hl ?c1 ?c2 ?c3 ?c4 (fun g h₁ kg kg2 F N => ?_)
  walk_at "ENTER"
  have KX := KX.keeps kg
  have T := T.keeps kg
  obtain ⟨t0, hx0⟩ := hv 0 (by omega)
  have hl1 : g.IsList l items := by
    obtain ⟨o, ho, r⟩ := hl
    exact ⟨o, kg2 _ _ hne ho, r⟩
  walk_at "SHOW"
  k_fold
  walk_at "STEPS"
  refine noted_false (whileI (VaI s g it l i m dg) (fun k s₁ hs => ?_) (m - 1) ⟨_, _, 1, _, _, _, _, rfl, by omega, Nat.le_refl _, by assumption, by assumption, by assumption, rfl, congrArg (fun z => some (Value.int z _)) (first_digit (hd 0 (by omega))), rfl⟩)
  obtain ⟨h, tk, j, io', t, u, mm, rfl, hjn, hj1, hio', F, N, e1, e2, e3⟩ := hs
  have hdj := hd (j - 1) (by omega)
  by_cases hjm : j < m
  · rw [if_pos hjm] at e3
    have F := fr3 F e1 e2 e3
    obtain ⟨tx, hx⟩ := hv j hjm
    have hbits : Builtin.Int.intBits ((horD dg j : Nat) : Int) ≤ 200 := intBits_le_iff.mpr (by
      rw [Int.natAbs_natCast]
      refine Nat.lt_of_lt_of_le (horD_lt dg j fun j' hj' => hd j' (by omega)) ?_
      refine Nat.le_trans (Nat.pow_le_pow_right (by decide) (show j ≤ 31 by omega)) (by decide))
    walk_at "SHOW"
    k_fold
    walk_at "STEPS"
    · have hq := digit_step (v := horD dg j) (hd j hjm) (p := j + 1 < m)
      exact ⟨k - 1, by omega, _, _, j + 1, _, _, _, _, rfl, by omega, by omega, by assumption, by assumption, by assumption, rfl, congrArg (fun z => some (Value.int z _)) hq, rfl⟩
    · exfalso
      rename (Builtin.bitAnd _ _ = 0) => hz
      rw [(digit_mask _ hdj).2.1] at hz
      exact absurd hz (by decide)
  · obtain rfl : j = m := by omega
    rw [if_neg hjm] at e3
    have F := fr3 F e1 e2 e3
    walk_at "SHOW"
    k_fold
    walk_at "STEPS"
    · exfalso
      rename (Builtin.bitAnd _ _ ≠ 0) => hz
      exact hz (digit_mask _ hdj).2.2.2
    · exact ret _ _ _ _ (fun b o hb e => F.keep _ _ (kg2 b o hb e)) (N.get (List.mem_singleton.mpr rfl)) hio'
end

end
section
section
variable {prog : Program} {w : World} {A : Around} {E : Value → Shared → Prop} {s : Shared} {h₀ : Heap} {L : Addr} {m : Str → Option Value} {env : Env}
inductive RngSrc (prog : Program) (w : World) (A : Around) (h₀ : Heap) (L : Addr) (m : Str → Option Value) (env : Env) (elt : Expr) (x : Str) (scope : Scope) (cl : List (Str × Addr)) (Q : Value → Shared → Prop) (xv : Value) (s₁ : Shared) : Prop
  | mk (r a b c t u v n news : _) (h0 : xv = .ref r) (h1 : A.handled = none) (h2 : Fr h₀ L s₁.heap m) (h3 : News h₀ L s₁.heap news) (h4 : IsRange s₁.heap r a b c t u v) (h5 : Builtin.Range.small a b c = true) (h6 : Builtin.Range.rangeSize a b c = ((n : Nat) : Int)) (h7 : n ≤ sizeLine) (h8 : ∀ s₂ : Shared, (∃ h, s₂ = { s₁ with heap := h }) → LCg.CompRest prog w A h₀ L m env elt x scope cl s₂ (fun _ => True) (fun i v => ∃ t, v = .int (a + (i : Int) * c) t) (LCg.FinE h₀ L m s₂ Q) n 0 [] news)
theorem rng_st {I : Addr} {a c : Int} {n : Nat} : ∀ i (h h' : Heap) (o : Obj) (nw : List (Addr × Obj)), IsRangeIter h I (a + (i : Nat) * c) ((n : Int) - (i : Nat)) c → h.get? I = some o → h'.get? I = some o → (∀ b o, h₀.get? b = some o → h'.get? b = some o) → News h₀ L h' nw → True → IsRangeIter h' I (a + (i : Nat) * c) ((n : Int) - (i : Nat)) c :=
  fun i h h' o nw st e e' _ _ _ => by
    have st' : h.get? I = some _ := st
    rw [e] at st'
    cases st'
    exact e'
/-- a list comp over a range of any step -/
theorem ListComp_Rng {elt iter : Expr} {x : Str} {px : Pos} {scope : Scope} {cl : List (Str × Addr)} {pos : Pos} {Q : Value → Shared → Prop} (_F₀ : Fr h₀ L s.heap m)
    (hclos : closureFor scope env = pure cl) (hcell : ∀ y ∈ scope.names, y.2 ≠ .cell) (hkind : scope.kind = .function)
    (hnames : ∀ y ∈ scope.names, y.2 = .local → scope.names.lookup y.1 = some .local) (hx : scope.names.lookup x = some .local)
    (h : wpAny (model prog w) A (eval iter env) (RngSrc prog w A h₀ L m env elt x scope cl Q) E s)
    (hs : ∀ x, foldedSetIterable iter env x = pure x := by intro _; rfl) :
    wpAny (model prog w) A (eval (.ListComp elt [⟨.Name x px, iter, [], 0⟩] scope pos) env) Q E s := by
  rw [eval_ListComp]
  refine wpAny_comprehension_free (use := none) rfl hs hclos hkind hnames (wpAny_mono h (fun xv s₁ h₁ => ?_) fun _ _ e => e)
  obtain ⟨r, a, b, c, t, u, v, n, news, rfl, hh, F, N, hr, hsm, hn, hsz, R⟩ := h₁
  have W : Walks prog w A s₁.heap.objs.size [s₁.heap.objs.size] [s₁.heap.objs.size] n (fun i v => ∃ t, v = .int (a + (i : Int) * c) t) (fun i h => IsRangeIter h s₁.heap.objs.size (a + (i : Nat) * c) ((n : Int) - (i : Nat)) c) :=
    let W := (Walks.range (prog := prog) (w := w) (A := A) hh s₁.heap.objs.size a c n).bound
    { sub := W.sub, frame := W.frame, done := W.done, self := W.self,
      item := fun i s Q E hi st hQ => W.item i s Q E hi st fun v h' tk hP => hQ v h' tk (by obtain ⟨_, t, rfl⟩ := hP; exact ⟨t, rfl⟩) }
  refine wpAny_pyIter_range hr hsm ?_
  refine LCg.block_U W hsz (fun i h st => ⟨_, st⟩) rng_st hcell hkind hx (by show IsRangeIter _ _ _ _ _; rw [hn]; simpa using Heap.get?_push_size _ rfl) (fun b hb => ?_)
    (F.keeps fun _ _ e => Heap.get?_push_of_some _ e) (N.grown fun _ _ e => Heap.get?_push_of_some _ e) (Nat.ne_of_lt F.ns.lt) (next_is_new F) (fun p hp => Nat.ne_of_lt (Heap.lt_size (N p hp).1)) trivial (R _ ⟨_, rfl⟩) ?_
  · rw [List.mem_singleton.mp hb]
    show s₁.heap.objs.size < (s₁.heap.push _).objs.size
    rw [Heap.size_push]; exact Nat.lt_succ_self _
  · intro D C h tk m' ys news' F' N' o1 hn hC₀ hD₀ hCL hDL hCD offC fin
    refine ⟨m', hn, fun h'' hs'' => fin D h'' tk (F'.change hs'' hCL hC₀) (fun p hp => ?_) o1⟩
    refine ⟨hs''.extBut _ _ ?_ (N' p hp).1, (N' p hp).2⟩
    rcases List.mem_cons.mp hp with rfl | hp
    · exact Ne.symm hCD
    · exact offC p hp
/-- iter of a list -/
theorem iter_mk {l : Addr} {items : Array Value} {news : List (Addr × Obj)} {Q : Value → Shared → Prop} (F : Fr h₀ L s.heap m) (N : News h₀ L s.heap news) (hl : s.heap.IsList l items)
    (h : ∀ I h' oI, Fr h₀ L h' m → News h₀ L h' ((I, oI) :: news) → (∀ p ∈ news, p.1 < I) → ListIt oI l 0 → Q (.ref I) { s with heap := h' }) :
    wpAny (model prog w) A (call (.builtin "iter") [.ref l]) Q E s := by
  refine call_function_entry (by decide +kernel) (by decide +kernel) kdk_entry_iter (kdk_args_iter _) ?_
  unfold Builtin.«iter»
  refine wpAny_bind (m := someArgs "iter" 1 2 _) (wpAny_of_eq (a := [Value.ref l]) (by first | rfl | kernel_rfl!) ?_)
  show wpAny _ _ (pyIter (.ref l) >>= _) _ _ _
  refine wpAny_bind (wpAny_pyIter_list hl ?_)
  exact wpAny_pure ⟨_, rfl, h _ _ _ (F.push _) (News.push F N _ rfl) (fun q hq => Heap.lt_size (N q hq).1) ⟨rfl, rfl⟩⟩
end

end
section
section
variable {w : World} {mean : ExcName → Option Value} {mg mb : Str → Option Value} {A : Around} {s : Shared} {Q E : Value → Shared → Prop}
inductive NuI (g : Nat → Nat) (N₀ : List (Addr × Obj)) (i : Nat) (ys : List Value) (nw : List (Addr × Obj)) : Prop
  | mk (h0 : nw = N₀) (h1 : IntsAre ys ((List.range i).map (fun j => ((64 + g (30 - j) : Nat) : Int))))
local macro_rules | `(tactic| walk_at "call builtin:iter") => `(tactic| (k_here; (with_reducible show wpAny _ _ (call (Value.builtin "iter") [Value.ref _]) _ _ _); k_dflt (refine' iter_mk (by k_asm) (by k_asm) (by exact News.isList (by k_asm) (by k_mem)) ?_); intro I' h' o' F' N' l1 hi'))
local macro_rules | `(tactic| walk_at "STEPSV") => `(tactic| repeat' ((fail_if_success (with_reducible show wpAny _ _ (call (Value.ref 29) _) _ _ _)); walk_at "STEP1"))
theorem rngSize_down : Builtin.Range.rangeSize 30 0 (-1) = ((30 : Nat) : Int) := by decide
theorem c_number (l : Addr) (vs : List Value) (g : Nat → Nat) (hl : s.heap.IsList l vs.toArray) (hi : IntsAre vs ((List.range 31).map fun t => ((g t : Nat) : Int))) (hg : ∀ t, t < 31 → g t < 64) (X : Amb w mean mg mb s.heap) (hdep : A.depth + 1 < recursionLimit) (hh : A.handled = none)
    (ret : ∀ t' h' tk', s.heap.StaysIn h' → Q (.int ((numTo g 31 : Nat) : Int) t') { s with heap := h', toks := tk' }) :
    wpAny (model pw w) A (call (.ref 169) [.ref l]) Q E s := by
  walk_at "FILL"
  have KX := X.kx
  have T := X.top
  have hlen : ((List.range 31).map fun t => ((g t : Nat) : Int)).length = 31 := by simp
  have hget : ∀ t, t < 31 → ((List.range 31).map fun t => ((g t : Nat) : Int)).getD t 0 = ((g t : Nat) : Int) := fun t ht => rowInts_getD (fun t => ((g t : Nat) : Int)) ht
  refine' enterC [(Str.ofString "counts", .ref l)] KX T (by omega) ?ho ?hcd ?hb ?hkd ?hnd ?c1 ?c2 ?c3 (fun h₁ tk cells F N Y => ?_)
  walk_at "ENTERC"
  k_cells Y
  walk_at "SHOW"
  k_fold
  walk_at "STEPSV"
  k_dflt (refine ListComp_Rng (by k_asm) (by with_unfolding_all rfl) (by decide) (by rfl) (by decide) (by rfl) ?_)
  walk_at "STEPSV"
  rename Obj => oc
  refine ⟨_, 30, 0, -1, _, _, _, 30, _, rfl, hh, by k_asm, by k_asm, by assumption, by decide, rngSize_down, by rw [sizeLine_eq]; decide, ?_⟩
  rintro s₂ ⟨g', rfl⟩
  refine compI (NuI g [(s.heap.objs.size + 1, oc)]) ?t ⟨rfl, .nil⟩ ?f
  case t =>
    rintro i v I oI C oC D m₂ ys nw h tk E' hi' ⟨tv, rfl⟩ ⟨rfl, hys⟩ hC hx F N off ne
    simp only [LCg.Off3] at off
    walk_at "SHOW"
    k_fold
    walk_at "STEPS"
    refine ⟨rfl, ?_⟩
    have e : (64 : Int) + ((List.range 31).map fun t => ((g t : Nat) : Int)).getD (30 + (i : Int) * (-1)).toNat 0 = ((64 + g (30 - i) : Nat) : Int) := by
      rw [show (30 + (i : Int) * (-1)).toNat = 30 - i by omega, hget _ (by omega)]; omega
    rw [e, show List.range (i + 1) = List.range i ++ [i] from List.range_succ, List.map_append]
    exact hys.append (.cons _ _ .nil)
  case f =>
    rintro ys nw ⟨rfl, hys⟩
    have hyl := hys.length
    rw [List.length_map, List.length_range] at hyl
    walk_at "STEPSV"
    rename (IntsAre _ (_ ++ _)) => hw
    rename (ListIt _ _ _) => hli
    rename (News _ _ _ _) => NN
    rename (Fr _ _ _ _) => FF
    rename List Value => ws
    refine c_varint s.heap _ _ _ (List.toArray ws) 0 31 (fun j => g (31 - 1 - j)) X FF.keep (NN _ List.mem_cons_self).2.2 (NN _ List.mem_cons_self).1 hli (News.isList NN (by k_mem)) (by walk_at "DEP") hh ⟨by decide, by decide⟩ (fun j hj => hg _ (by omega)) (fun j hj => ?_) (fun t' h' tk' io' kk _ _ => ?_)
    · have hwl : (((List.range 30).map (fun j => ((64 + g (30 - j) : Nat) : Int))) ++ [((List.range 31).map fun t => ((g t : Nat) : Int)).getD (Int.toNat 0) 0]).length = 31 := by simp
      obtain ⟨t, ht⟩ := ints_getD hw (i := j) (by rw [hwl]; exact hj)
      refine ⟨t, ?_⟩
      rw [List.getElem?_toArray, Nat.zero_add, ht]
      congr 2
      by_cases h30 : j < 30
      · rw [if_pos (by omega), getD_app _ _ _ (by simpa using h30)]
        exact rowInts_getD (fun j => ((64 + g (30 - j) : Nat) : Int)) h30
      · obtain rfl : j = 30 := by omega
        rw [if_neg (by omega), getD_end _ _ _ (by simp)]
        exact hget 0 (by omega)
    · have FF' := LCg.fr_but FF (fun b o hb e => kk b o (by simpa using hb) e) (Ne.symm (NN _ List.mem_cons_self).2.1) (NN _ List.mem_cons_self).2.2
      rw [horD_hor, hor_all]
      exact ret _ _ _ FF'.keep
end

end
section
section
variable {w : World} {mean : ExcName → Option Value} {mg mb : Str → Option Value} {A : Around} {s : Shared} {Q E : Value → Shared → Prop}
theorem hex_word : ∀ i < 31, 10 ≤ i → (Str.ofString "0x" ++ Txt.item (Str.ofString "1248") ((0 + Int.ofNat i).fmod 4)) ++ Txt.mul (Str.ofString "0") ((0 + Int.ofNat i).fdiv 4) = wordAt i := by decide +kernel
theorem hex_word_len : ∀ i < 31, (Str.ofString "0x" ++ Txt.item (Str.ofString "1248") ((0 + Int.ofNat i).fmod 4)).length + (Txt.mul (Str.ofString "0") ((0 + Int.ofNat i).fdiv 4)).length ≤ 20 := by decide +kernel
theorem name_word : ∀ i < 10, flagNames.getD (0 + Int.ofNat i).toNat Str.empty = wordAt i := by decide +kernel
noncomputable def posTo (ns : List Int) (i : Nat) : List Nat := (List.range i).filter fun k => decide (0 < ns.getD k 0)
theorem posTo_succ (ns : List Int) (i : Nat) : posTo ns (i + 1) = if 0 < ns.getD i 0 then posTo ns i ++ [i] else posTo ns i := by
  unfold posTo
  rw [List.range_succ, List.filter_append]
  split
  · rename_i h; rw [List.filter_cons_of_pos (by simpa using h)]; rfl
  · rename_i h; rw [List.filter_cons_of_neg (by simpa using h), List.filter_nil, List.append_nil]
inductive WoI (ns : List Int) (nw₀ : List (Addr × Obj)) (i : Nat) (ys : List Value) (nw : List (Addr × Obj)) : Prop
  | mk (h0 : nw = nw₀) (h1 : StrsAre ys ((posTo ns i).map wordAt)) (h2 : ys.length ≤ i)
theorem c_words (l : Addr) (vs : List Value) (ns : List Int) (hl : s.heap.IsList l vs.toArray) (hi : IntsAre vs ns) (hn : ns.length = 31) (X : Amb w mean mg mb s.heap) (hdep : A.depth < recursionLimit) (hh : A.handled = none)
    (ret : ∀ t' h' tk', s.heap.StaysIn h' → Q (.str (Txt.join (Str.ofString ", ") ((posTo ns 31).map wordAt)) t') { s with heap := h', toks := tk' }) :
    wpAny (model pw w) A (call (.ref 198) [.ref l]) Q E s := by
  walk_at "FILL"
  obtain ⟨KX, T⟩ := X
  have hvl := hi.length
  refine' enterC [(Str.ofString "counts", .ref l)] KX T hdep ?ho ?hcd ?hb ?hkd ?hnd ?c1 ?c2 ?c3 (fun h₁ tk cells F N Y => ?_)
  walk_at "ENTERC"
  k_cells Y
  walk_at "SHOW"
  k_fold
  walk_at "STEPS"
  k_dflt (refine LCt.ListComp_T (F₀ := by k_asm) (by with_unfolding_all rfl) (by decide) (by rfl) (by decide) (by rfl) ?_)
  walk_at "STEPS"
  refine LCt.CompSrcT.range (n := 31) hh (by k_asm) (by k_asm) (by assumption) (small_one (by omega) (by omega) (by omega) (by omega)) (by rw [rangeSize_one]; rfl) (by rw [sizeLine_eq]; omega) ?_
  intro g'
  refine compT (WoI ns _) ?_ ⟨rfl, .nil, Nat.le_refl _⟩ ?_
  · rintro i v I oI C oC D m₂ ys nw h tk E' hi' ⟨t, rfl⟩ ⟨rfl, hys, hyl⟩ hC hx F N off ne
    simp only [LCg.Off3, and_true] at off
    walk_at "SHOW"
    k_fold
    walk_at "STEPS"
    · rename (0 < ns.getD _ 0) => hp
      have hlt : i < 10 := by omega
      refine ⟨rfl, ?_, by rw [List.length_append]; exact Nat.add_le_add_right hyl 1⟩
      rw [posTo_succ, if_pos (by rw [show (0 + (i : Int)).toNat = i by omega] at hp; exact hp), List.map_append]
      refine strs_app hys ?_
      rw [show List.map wordAt [i] = [flagNames.getD (0 + (i : Int)).toNat Str.empty] from congrArg (fun z => [z]) (name_word i hlt).symm]
      exact .cons _ _ .nil
    · rename (0 < ns.getD _ 0) => hp
      have h10 : 10 ≤ i := by omega
      have hlw := hex_word_len i hi'
      refine PyProof.Rows.add_str (fun t' tk' => ?_) (by rw [sizeLine_eq]; exact Nat.le_trans hlw (by decide))
      walk_at "STEPS"
      refine ⟨rfl, ?_, by rw [List.length_append]; exact Nat.add_le_add_right hyl 1⟩
      rw [posTo_succ, if_pos (by rw [show (0 + (i : Int)).toNat = i by omega] at hp; exact hp), List.map_append]
      refine strs_app hys ?_
      rw [show List.map wordAt [i] = [(Str.ofString "0x" ++ Txt.item (Str.ofString "1248") ((0 + (i : Int)).fmod 4)) ++ Txt.mul (Str.ofString "0") ((0 + (i : Int)).fdiv 4)] from congrArg (fun z => [z]) (hex_word i hi' h10).symm]
      exact .cons _ _ .nil
    · rename (¬ (0 < ns.getD _ 0)) => hp
      refine ⟨rfl, ?_, Nat.le_succ_of_le hyl⟩
      rw [posTo_succ, if_neg (by rw [show (0 + (i : Int)).toNat = i by omega] at hp; exact hp)]
      exact hys
  · rintro ys nw ⟨rfl, hys, hyl⟩
    walk_at "STEPS"
    refine join_words (News.isList (by assumption) (by k_mem)) (l := posTo ns 31) hys (fun k hk => by have := List.mem_range.mp (List.mem_filter.mp hk).1; omega) (by have := List.length_filter_le (fun k => decide (0 < ns.getD k 0)) (List.range 31); rw [List.length_range] at this; unfold posTo; omega) ?_
    intro t' k
    walk_at "STEPS"
    exact ret _ _ _ (Fr.keep (by assumption))
end

end
section
/-- a list that a call has made: it stands in h', and was not in h -/
def MadeList (h h' : Heap) (l : Addr) (vs : List Value) : Prop := ∃ c, h'.get? l = some (listOf (List.toArray vs) c) ∧ h.get? l = none
theorem made_of {h₀ h : Heap} {L : Addr} {news : List (Addr × Obj)} {l : Addr} {vs : List Value} {c : Nat} (N : News h₀ L h news) (hm : (l, listOf (List.toArray vs) c) ∈ news) : MadeList h₀ h l vs :=
  ⟨c, (N _ hm).1, (N _ hm).2.2⟩
section
variable {h₀ h h' : Heap} {L l : Addr} {m : Str → Option Value} {news : List (Addr × Obj)} {vs : List Value}
theorem MadeList.row (M : MadeList h h' l vs) (F : Fr h₀ L h m) (N : News h₀ L h news) (hk : h.StaysIn h') :
    ∃ c, News h₀ L h' ((l, listOf (List.toArray vs) c) :: news) ∧ (∀ p ∈ news, @Ne Nat p.1 l) := by
  obtain ⟨c, h1, h2⟩ := M
  refine ⟨c, fun p hp => ?_, fun p hp q => ?_⟩
  · rcases List.mem_cons.mp hp with rfl | hp
    · refine ⟨h1, fun q => ?_, ?_⟩
      · obtain ⟨o, _, _, ho, _⟩ := F.ns
        have q' : l = L := q
        rw [q', ho] at h2; cases h2
      · cases e : h₀.get? l with
        | none => rfl
        | some o => rw [F.keep _ _ e] at h2; cases h2
    · exact ⟨hk _ _ (N p hp).1, (N p hp).2⟩
  · have q' : p.1 = l := q
    have := (N p hp).1
    rw [q', h2] at this; cases this
/-- what stands at the addresses «as» stands on while the base and the rows R stand -/
theorem rows_in (F : Fr h₀ L h m) (N : News h₀ L h news) : ∀ as : List Addr, (∀ a ∈ as, ∃ o, h.get? a = some o ∧ ∀ es n, o.data ≠ .dict es n) →
    ∃ R, News h₀ L h R ∧ (∀ p ∈ news, p ∈ R) ∧ ∀ h'', h₀.StaysIn h'' → News h₀ L h'' R → ∀ a ∈ as, h''.get? a = h.get? a
  | [], _ => ⟨news, N, fun _ hp => hp, fun _ _ _ _ ha => nomatch ha⟩
  | a :: as, H => by
    obtain ⟨R, NR, hsub, hR⟩ := rows_in F N as fun b hb => H b (List.mem_cons_of_mem _ hb)
    obtain ⟨o, ho, hod⟩ := H a List.mem_cons_self
    cases e : h₀.get? a with
    | some o' =>
      refine ⟨R, NR, hsub, fun h'' k N'' b hb => ?_⟩
      rcases List.mem_cons.mp hb with rfl | hb
      · rw [k _ _ e, F.keep _ _ e]
      · exact hR h'' k N'' b hb
    | none =>
      refine ⟨(a, o) :: R, News.more F NR ho hod e, fun p hp => List.mem_cons_of_mem _ (hsub p hp), fun h'' k N'' b hb => ?_⟩
      rcases List.mem_cons.mp hb with rfl | hb
      · rw [(N'' _ List.mem_cons_self).1, ho]
      · exact hR h'' k (fun p hp => N'' p (List.mem_cons_of_mem _ hp)) b hb
/-- a list that stands while the base and the rows R stand -/
def ListP (h₀ : Heap) (L : Addr) (R : List (Addr × Obj)) (l : Addr) (vs : List Value) : Prop := ∀ h, h₀.StaysIn h → News h₀ L h R → h.IsList l (List.toArray vs)
theorem ListP.up {R R' : List (Addr × Obj)} (P : ListP h₀ L R l vs) (hs : ∀ p ∈ R, p ∈ R') : ListP h₀ L R' l vs := fun h k N => P h k fun p hp => N p (hs p hp)
theorem ListP.now {R : List (Addr × Obj)} (P : ListP h₀ L R l vs) (F : Fr h₀ L h m) (N : News h₀ L h news) (hs : ∀ p ∈ R, p ∈ news) : h.IsList l (List.toArray vs) := P h F.keep fun p hp => N p (hs p hp)
theorem isList_nodict {h : Heap} {l : Addr} {xs : Array Value} (hl : h.IsList l xs) : ∃ o, h.get? l = some o ∧ ∀ es n, o.data ≠ .dict es n := by
  obtain ⟨o, ho, _, n, hd⟩ := hl
  exact ⟨o, ho, fun es k q => by rw [hd] at q; cases q⟩
theorem listP_in (F : Fr h₀ L h m) (N : News h₀ L h news) (hl : h.IsList l (List.toArray vs)) : ∃ R, News h₀ L h R ∧ (∀ p ∈ news, p ∈ R) ∧ ListP h₀ L R l vs := by
  obtain ⟨R, NR, hs, hR⟩ := rows_in F N [l] (fun a ha => by rw [List.mem_singleton.mp ha]; exact isList_nodict hl)
  refine ⟨R, NR, hs, fun h'' k N'' => ?_⟩
  obtain ⟨o, ho, r⟩ := hl
  exact ⟨o, (hR h'' k N'' l List.mem_cons_self).trans ho, r⟩
/-- a table of whole numbers that stands while the base and the rows R stand -/
inductive GridP (h₀ : Heap) (L : Addr) (R : List (Addr × Obj)) (T : Addr) (n c : Nat) (f : Nat → Nat → Int) : Prop
  | mk (rs : List Addr) (h0 : rs.length = n) (h1 : ListP h₀ L R T (rs.map Value.ref)) (h2 : ∀ i, i < n → ∃ vs, ListP h₀ L R (rs.getD i 0) vs ∧ IntsAre vs ((List.range c).map (f i)))
theorem GridP.up {R R' : List (Addr × Obj)} {T : Addr} {n c : Nat} {f : Nat → Nat → Int} (P : GridP h₀ L R T n c f) (hs : ∀ p ∈ R, p ∈ R') : GridP h₀ L R' T n c f :=
  let ⟨rs, e, a, b⟩ := P
  ⟨rs, e, a.up hs, fun i hi => let ⟨vs, p, q⟩ := b i hi; ⟨vs, p.up hs, q⟩⟩
theorem GridP.now {R : List (Addr × Obj)} {T : Addr} {n c : Nat} {f : Nat → Nat → Int} (P : GridP h₀ L R T n c f) (F : Fr h₀ L h m) (N : News h₀ L h news) (hs : ∀ p ∈ R, p ∈ news) : Grid h T n c f :=
  let ⟨rs, e, a, b⟩ := P
  ⟨rs, e, a.now F N hs, fun i hi => let ⟨vs, p, q⟩ := b i hi; ⟨vs, p.now F N hs, q⟩⟩
theorem gridP_in {T : Addr} {n c : Nat} {f : Nat → Nat → Int} (F : Fr h₀ L h m) (N : News h₀ L h news) (G : Grid h T n c f) : ∃ R, News h₀ L h R ∧ (∀ p ∈ news, p ∈ R) ∧ GridP h₀ L R T n c f := by
  obtain ⟨rs, e, hl, hr⟩ := G
  have hrow : ∀ a ∈ rs, ∃ i, i < n ∧ rs.getD i 0 = a := fun a ha => by
    obtain ⟨i, hi, rfl⟩ := List.mem_iff_getElem.mp ha
    exact ⟨i, by omega, by rw [List.getD_eq_getElem?_getD, List.getElem?_eq_getElem hi]; rfl⟩
  obtain ⟨R, NR, hs, hR⟩ := rows_in F N (T :: rs) (fun a ha => by
    rcases List.mem_cons.mp ha with rfl | ha
    · exact isList_nodict hl
    · obtain ⟨i, hi, rfl⟩ := hrow a ha
      obtain ⟨vs, h1, _⟩ := hr i hi
      exact isList_nodict h1)
  refine ⟨R, NR, hs, rs, e, fun h'' k N'' => ?_, fun i hi => ?_⟩
  · obtain ⟨o, ho, r⟩ := hl
    exact ⟨o, (hR h'' k N'' T List.mem_cons_self).trans ho, r⟩
  · obtain ⟨vs, ⟨o, ho, r⟩, hv⟩ := hr i hi
    refine ⟨vs, fun h'' k N'' => ⟨o, (hR h'' k N'' _ (List.mem_cons_of_mem _ ?_)).trans ho, r⟩, hv⟩
    rw [List.getD_eq_getElem?_getD, List.getElem?_eq_getElem (by omega)]
    exact List.getElem_mem _
end
section
variable {prog : Program} {w : World} {A : Around} {E : Value → Shared → Prop} {s : Shared} {h₀ : Heap} {L l : Addr} {m : Str → Option Value} {n c : Nat} {f : Nat → Nat → Int} {k : Int} {u : Tok} {value slice : PySem.Expr} {ops : List Value} {Q : Value → Shared → Prop} {R news : List (Addr × Obj)} {vs : List Value}
/-- a row of a table -/
theorem item_gridP (F : Fr h₀ L s.heap m) (N : News h₀ L s.heap news) (G : GridP h₀ L R l n c f) (hs : ∀ p ∈ R, p ∈ news) (h0 : 0 ≤ k) (h1 : k < (n : Int)) (h2 : k < 2 ^ 63)
    (h : ∀ r vs, ListP h₀ L R r vs → IntsAre vs ((List.range c).map (f k.toNat)) → ((List.range c).map (f k.toNat)).length = c → Q (.ref r) s)
    (he : subscripted slice false (.ref l) (.int k u) = operate ops (getItem (.ref l) (.int k u))) : wpAny (model prog w) A (subscriptTail value slice (.ref l) (.int k u)) Q E s := by
  obtain ⟨rs, e, hl, hr⟩ := G
  obtain ⟨vs, a, b⟩ := hr k.toNat (by omega)
  have hls := hl.now F N hs
  refine tail_any hls.typeIs slot_list_getitem.lookup (wpAny_getItem_list hls h0 h2 (x := .ref (rs.getD k.toNat 0)) ?_ (h _ _ a b (rowInts_len c _))) he
  rw [List.getElem?_toArray, List.getElem?_map, List.getD_eq_getElem?_getD, List.getElem?_eq_getElem (by omega)]; rfl
/-- an int of a list -/
theorem item_listP {ns : List Int} (F : Fr h₀ L s.heap m) (N : News h₀ L s.heap news) (G : ListP h₀ L R l vs) (hs : ∀ p ∈ R, p ∈ news) (hi : IntsAre vs ns) (h0 : 0 ≤ k) (h1 : k < (ns.length : Int)) (h2 : k < 2 ^ 63)
    (h : ∀ t, Q (.int (ns.getD k.toNat 0) t) s)
    (he : subscripted slice false (.ref l) (.int k u) = operate ops (getItem (.ref l) (.int k u))) : wpAny (model prog w) A (subscriptTail value slice (.ref l) (.int k u)) Q E s := by
  have hls := G.now F N hs
  obtain ⟨t, ht⟩ := ints_getD hi (i := k.toNat) (by omega)
  exact tail_any hls.typeIs slot_list_getitem.lookup (wpAny_getItem_list hls h0 h2 (by rw [List.getElem?_toArray]; exact ht) (h t)) he
/-- a text of a list -/
theorem item_textP {ts : List (List Nat)} (F : Fr h₀ L s.heap m) (N : News h₀ L s.heap news) (G : ListP h₀ L R l vs) (hs : ∀ p ∈ R, p ∈ news) (hi : StrsAre vs (ts.map tx)) (h0 : 0 ≤ k) (h1 : k < (ts.length : Int)) (h2 : k < 2 ^ 63)
    (h : ∀ t, Q (.str (tx (ts.getD k.toNat [])) t) s)
    (he : subscripted slice false (.ref l) (.int k u) = operate ops (getItem (.ref l) (.int k u))) : wpAny (model prog w) A (subscriptTail value slice (.ref l) (.int k u)) Q E s := by
  have hls := G.now F N hs
  have hlen : vs.length = ts.length := by rw [hi.length, List.length_map]
  have key : ∀ (vs : List Value) (ts : List (List Nat)), StrsAre vs (ts.map tx) → ∀ i, i < ts.length → ∃ t, vs[i]? = some (.str (tx (ts.getD i [])) t) := by
    intro vs
    induction vs with
    | nil =>
      intro ts h i hi
      cases ts with
      | nil => simp at hi
      | cons t0 ts => cases h
    | cons v0 vs ih =>
      intro ts h i hi
      cases ts with
      | nil => simp at hi
      | cons t0 ts =>
        cases h with
        | cons x t h =>
          cases i with
          | zero => exact ⟨t, rfl⟩
          | succ i =>
            obtain ⟨t, ht⟩ := ih ts h i (by simpa using hi)
            exact ⟨t, by simpa using ht⟩
  obtain ⟨t, ht⟩ := key vs ts hi k.toNat (by omega)
  exact tail_any hls.typeIs slot_list_getitem.lookup (wpAny_getItem_list hls h0 h2 (by rw [List.getElem?_toArray]; exact ht) (h t)) he
theorem pcut_to {g : Heap} {r : Addr} {i : Int} {ui : Tok} (hg : s.heap = g.push { cls := .type "slice", data := .fields #[.none, .int i ui, .none] }) (hr : r = g.objs.size) (hF : Fr h₀ L g m) (hN : News h₀ L g news) (hl : ListP h₀ L R l vs) (hsub : ∀ p ∈ R, p ∈ news) (hi : 0 ≤ i) (hz : vs.length ≤ 1000000)
    (h : ∀ D h', Fr h₀ L h' m → News h₀ L h' ((D, listOf (List.toArray (vs.take i.toNat)) 0) :: news) → (∀ p ∈ news, p.1 < D) → Q (.ref D) { s with heap := h' })
    (hs : subscripted slice false (.ref l) (.ref g.objs.size) = operate [.ref g.objs.size, .ref l] (getItem (.ref l) (.ref g.objs.size))) (ht : ∀ r, letTemporaryGo value (.ref l) r = pure ()) :
    wpAny (model prog w) A (subscriptTail value slice (.ref l) (.ref r)) Q E s := by
  obtain ⟨sh, s1, s2, s3, s4⟩ := s
  cases hg
  cases hr
  refine kmk_slice (s := ⟨g, s1, s2, s3, s4⟩) hF hN (hl.now hF hN hsub) .none (.int i ui) (fun D h' F' N' l1 => h D h' F' ?_ l1) hs ht (by rw [List.size_toArray, sizeLine_eq]; omega)
  have e := slicePick_upto' (List.toArray vs) i.toNat
  rw [Int.toNat_of_nonneg hi] at e
  rw [e] at N'
  exact N'
end
section
variable {prog : Program} {w : World} {A : Around} {E : Value → Shared → Prop} {s : Shared} {h₀ : Heap} {L D b : Addr} {m : Str → Option Value} {news news' : List (Addr × Obj)} {os vs : List Value} {n n2 : Nat}
/-- extend of a list of the ledger by one of the ledger that is not empty -/
theorem ext_list {ms : List Int} {Q : Value → Shared → Prop} (F : Fr h₀ L s.heap m) (N : News h₀ L s.heap news) (hb : (b, listOf (List.toArray vs) n2) ∈ news) (hi : IntsAre vs ms) (hne : ms.length ≠ 0)
    (U : Upd D (listOf (List.toArray os) n) (listOf (List.toArray (os ++ vs)) (n + 1)) news news') (hz : os.length + ms.length ≤ 1000000)
    (h : ∀ h', Fr h₀ L h' m → News h₀ L h' news' → Q .none { s with heap := h' }) : wpAny (model prog w) A (call (.builtin "list.extend") [.ref D, .ref b]) Q E s := by
  have hl := hi.length
  rw [← hl] at hne hz
  refine kl_extend F N hb (l := os ++ vs) rfl (by simpa using hne) U (fun q => ?_) ?_ ?_ h
  · rw [List.size_toArray, List.size_toArray] at q
    have hs := sizeLine_eq
    unfold Builtin.List.listTooLong at q
    simp at q
    omega
  · have hs := sizeLine_eq
    show os.length ≤ _
    omega
  · have hs := sizeLine_eq
    rw [List.size_toArray, List.size_toArray]
    omega
end
section
variable {prog : Program} {w : World} {A : Around} {E : Value → Shared → Prop} {s : Shared} {h₀ : Heap} {L l : Addr} {news : List (Addr × Obj)} {vs : List Value} {c : Nat} {ns : List Int}
theorem len_led {Q : Value → Shared → Prop} (N : News h₀ L s.heap news) (hm : (l, listOf (List.toArray vs) c) ∈ news) (hi : IntsAre vs ns) (hz : ns.length ≤ 1000000) (h : ∀ t k, Q (.int (ns.length : Int) t) { s with toks := k }) :
    wpAny (model prog w) A (call (.builtin "len") [.ref l]) Q E s := by
  have e : (List.toArray vs).size = ns.length := by rw [List.size_toArray, hi.length]
  exact len_list ⟨_, (N _ hm).1, rfl, _, rfl⟩ (by rw [e]; omega) (by rw [e]; exact h _ _)
theorem cut_led_from {g : Heap} {r : Addr} {m : Str → Option Value} {i : Int} {ui : Tok} {value slice : PySem.Expr} {Q : Value → Shared → Prop} (hg : s.heap = g.push { cls := .type "slice", data := .fields #[.int i ui, .none, .none] }) (hr : r = g.objs.size) (hF : Fr h₀ L g m) (hN : News h₀ L g news) (hm : (l, listOf (List.toArray vs) c) ∈ news) (hi : 0 ≤ i) (hz : vs.length ≤ 1000000)
    (h : ∀ D h', Fr h₀ L h' m → News h₀ L h' ((D, listOf (List.toArray (vs.drop i.toNat)) 0) :: news) → (∀ p ∈ news, p.1 < D) → Q (.ref D) { s with heap := h' })
    (hs : subscripted slice false (.ref l) (.ref g.objs.size) = operate [.ref g.objs.size, .ref l] (getItem (.ref l) (.ref g.objs.size))) (ht : ∀ r, letTemporaryGo value (.ref l) r = pure ()) :
    wpAny (model prog w) A (subscriptTail value slice (.ref l) (.ref r)) Q E s := by
  obtain ⟨sh, s1, s2, s3, s4⟩ := s
  cases hg
  cases hr
  refine kmk_slice (s := ⟨g, s1, s2, s3, s4⟩) hF hN ⟨_, (hN _ hm).1, rfl, _, rfl⟩ (.int i ui) .none (fun D h' F' N' l1 => h D h' F' ?_ l1) hs ht (by rw [List.size_toArray, sizeLine_eq]; omega)
  have e := slicePick_from' (List.toArray vs) i.toNat
  rw [Int.toNat_of_nonneg hi] at e
  rw [e] at N'
  exact N'
theorem cut_led_to {g : Heap} {r : Addr} {m : Str → Option Value} {i : Int} {ui : Tok} {value slice : PySem.Expr} {Q : Value → Shared → Prop} (hg : s.heap = g.push { cls := .type "slice", data := .fields #[.none, .int i ui, .none] }) (hr : r = g.objs.size) (hF : Fr h₀ L g m) (hN : News h₀ L g news) (hm : (l, listOf (List.toArray vs) c) ∈ news) (hi : 0 ≤ i) (hz : vs.length ≤ 1000000)
    (h : ∀ D h', Fr h₀ L h' m → News h₀ L h' ((D, listOf (List.toArray (vs.take i.toNat)) 0) :: news) → (∀ p ∈ news, p.1 < D) → Q (.ref D) { s with heap := h' })
    (hs : subscripted slice false (.ref l) (.ref g.objs.size) = operate [.ref g.objs.size, .ref l] (getItem (.ref l) (.ref g.objs.size))) (ht : ∀ r, letTemporaryGo value (.ref l) r = pure ()) :
    wpAny (model prog w) A (subscriptTail value slice (.ref l) (.ref r)) Q E s := by
  obtain ⟨sh, s1, s2, s3, s4⟩ := s
  cases hg
  cases hr
  refine kmk_slice (s := ⟨g, s1, s2, s3, s4⟩) hF hN ⟨_, (hN _ hm).1, rfl, _, rfl⟩ .none (.int i ui) (fun D h' F' N' l1 => h D h' F' ?_ l1) hs ht (by rw [List.size_toArray, sizeLine_eq]; omega)
  have e := slicePick_upto' (List.toArray vs) i.toNat
  rw [Int.toNat_of_nonneg hi] at e
  rw [e] at N'
  exact N'
end
theorem strs_carried : ∀ {vs : List Value} {ts : List Str}, StrsAre vs ts → CarriedAll vs (ts.map PyData.str)
  | _, _, .nil => .nil
  | _, _, .cons _ t r => .cons (.str _ t) (strs_carried r)
theorem strs_canLay : ∀ ts : List Str, (∀ t ∈ ts, PyData.strOk t = true) → PyData.canLayAll0 (ts.map PyData.str) = true
  | [], _ => rfl
  | t :: r, h => by simp [PyData.canLayAll0, PyData.canLay0, h t List.mem_cons_self, strs_canLay r fun x hx => h x (List.mem_cons_of_mem _ hx)]
theorem strs_depth : ∀ ts : List Str, PyData.depthAll (ts.map PyData.str) = 0
  | [] => rfl
  | _ :: r => by simp [PyData.depthAll, PyData.depth, strs_depth r]
theorem strs_shaped (ts : List Str) (h : ∀ t ∈ ts, PyData.strOk t = true) : SeqAt.shaped (.list (ts.map PyData.str)) = true := by
  simp [SeqAt.shaped, PyData.canLay0, PyData.depth, strs_canLay ts h, strs_depth]
theorem strs_same : ∀ ts : List Str, PySem.Spec.sameAll (ts.map PyData.str) (ts.map PyData.str) = true
  | [] => by simp [PySem.Spec.sameAll]
  | _ :: r => by
    simp only [List.map_cons, PySem.Spec.sameAll, PySem.Spec.same, strs_same r]
    simp
section
variable {prog : Program} {w : World} {A : Around} {E : Value → Shared → Prop} {s : Shared} {a b : Addr} {xs ys : List Value} {ts : List Str} {Q : Value → Shared → Prop}
/-- two lists of the same texts are not unequal -/
theorem ne_texts (ha : s.heap.IsList a xs.toArray) (hb : s.heap.IsList b ys.toArray) (hi : StrsAre xs ts) (hj : StrsAre ys ts) (hok : ∀ t ∈ ts, PyData.strOk t = true) (hu : A.units + 64 < cLine) (h : Q (.bool false) s) :
    wpAny (model prog w) A (compareOp .NotEq (.ref a) (.ref b)) Q E s := by
  refine ne_dataH_same (reads_newData ha (strs_carried hi)) (reads_newData hb (strs_carried hj)) (strs_shaped _ hok) (strs_shaped _ hok) hu (SeqAt.noMix_of_shape (.list .str) rfl _ _ (list_map_has fun _ => rfl) (list_map_has fun _ => rfl)) ?_
  have e : PySem.Spec.same (.list (ts.map PyData.str)) (.list (ts.map PyData.str)) = true := by
    simp only [PySem.Spec.same]; exact strs_same ts
  rw [e]; exact h
end
/-- behind a call that changed nothing of its caller's but slots -/
theorem slots_back {h₀ h h' : Heap} {L : Addr} {m : Str → Option Value} {news : List (Addr × Obj)} {oL : Obj} (F : Fr h₀ L h m) (N : News h₀ L h news) (hL : h.get? L = some oL)
    (k : ∀ b o, b ≠ L → h.get? b = some o → h'.get? b = some o) (hs : ∃ sl, h'.get? L = some { oL with slots := sl }) : Fr h₀ L h' m ∧ News h₀ L h' news := by
  obtain ⟨sl, hs⟩ := hs
  refine ⟨⟨?_, fun b o e => k b o (fun q => ?_) (F.keep b o e), F.above⟩, fun p hp => ⟨k _ _ (N p hp).2.1 (N p hp).1, (N p hp).2⟩⟩
  · obtain ⟨o, es, ep, ho, hd, r⟩ := F.ns
    rw [hL] at ho; cases ho
    exact ⟨_, es, ep, hs, hd, r⟩
  · have := Heap.get?_none_of_le F.above
    rw [← q, e] at this; cases this
theorem listP_mem {h₀ : Heap} {L l : Addr} {R : List (Addr × Obj)} {vs : List Value} {c : Nat} (hm : (l, listOf (List.toArray vs) c) ∈ R) : ListP h₀ L R l vs := fun _ _ N => ⟨_, (N _ hm).1, rfl, _, rfl⟩

end
section
section
variable {prog : Program} {w : World} {A : Around} {R : Result → Shared → Prop} {s : Shared} {env : Env} {elt t0 i0 t1 i1 : Expr} {scope : Scope} {pos : Pos} {it acc : Value}
theorem compTurn_two0 (elt t0 i0 t1 i1 : Expr) (scope : Scope) (pos : Pos) (it acc : Value) (env : Env) :
    compTurn (.ListComp elt [⟨t0, i0, [], 0⟩, ⟨t1, i1, [], 0⟩] scope pos) 0 it acc env = (standAt i0.pos >>= fun _ => pyNext it >>= fun r => match r with
      | none => pure (.done .next)
      | some v => letOwnedTupleGo t0 it v >>= fun _ => assign t0 env v >>= fun _ =>
        eval i1 env >>= fun x => standAt i1.pos >>= fun _ => foldedSetIterable i1 env x >>= fun x => holding [x] (pyIter x) >>= fun it' => runOwn (.compStart (.ListComp elt [⟨t0, i0, [], 0⟩, ⟨t1, i1, [], 0⟩] scope pos) 1 it' acc env) env >>= fun _ =>
          again (.compLoop (.ListComp elt [⟨t0, i0, [], 0⟩, ⟨t1, i1, [], 0⟩] scope pos) 0 it acc env)) := by rfl
theorem compTurn_two1 (elt t0 i0 t1 i1 : Expr) (scope : Scope) (pos : Pos) (it acc : Value) (env : Env) :
    compTurn (.ListComp elt [⟨t0, i0, [], 0⟩, ⟨t1, i1, [], 0⟩] scope pos) 1 it acc env = (standAt i1.pos >>= fun _ => pyNext it >>= fun r => match r with
      | none => pure (.done .next)
      | some v => letOwnedTupleGo t1 it v >>= fun _ => assign t1 env v >>= fun _ =>
        (eval elt env >>= fun x => call (.builtin "list.append") [acc, x] >>= fun _ => pure ()) >>= fun _ =>
          again (.compLoop (.ListComp elt [⟨t0, i0, [], 0⟩, ⟨t1, i1, [], 0⟩] scope pos) 1 it acc env)) := by rfl
abbrev NoE : Value → Shared → Prop := fun _ _ => False
/-- the inner loop of a comp of two clauses -/
theorem compLoop_two1 (I : Nat → Shared → Prop)
    (turn : ∀ n s, I n s → wpAny (model prog w) A (pyNext it) (fun r s₁ => match r with
      | none => R (.ok .next) s₁
      | some v => wpAny (model prog w) A (assign t1 env v) (fun _ s₂ => wpAny (model prog w) A (eval elt env) (fun x s₃ =>
          wpAny (model prog w) A (call (.builtin "list.append") [acc, x]) (fun _ s₄ => ∃ m, m < n ∧ I m s₄) NoE s₃) NoE s₂) NoE s₁) NoE s)
    (n : Nat) (h : I n s) (ht : ∀ v, letOwnedTupleGo t1 it v = pure () := by intro _; rfl) :
    codeAny (model prog w) A (.compLoop (.ListComp elt [⟨t0, i0, [], 0⟩, ⟨t1, i1, [], 0⟩] scope pos) 1 it acc env) R s := by
  refine codeAny_loop rfl I (fun n s hI => ?_) n h
  show wpAny _ A ((compTurn (.ListComp elt [⟨t0, i0, [], 0⟩, ⟨t1, i1, [], 0⟩] scope pos) 1 it acc env).onRaise (fun x => do noteFrame x env; theTreesLotGoes x)) _ _ s
  refine wpAny_noted ?_
  rw [compTurn_two1]
  refine noted_false (wpAny_bind (wpAny_standAt (wpAny_bind (wpAny_mono (turn n s hI) (fun r s₁ h₁ => ?_) fun _ _ h' => h'))))
  cases r with
  | none => exact wpAny_pure h₁
  | some v =>
    refine wpAny_bind (wpAny_of_eq (ht v) ?_)
    exact wpAny_bind (wpAny_mono h₁ (fun _ s₂ h₂ => wpAny_bind (wpAny_bind (wpAny_mono h₂ (fun x s₃ h₃ => wpAny_bind (wpAny_mono h₃
      (fun _ s₄ h₄ => wpAny_pure (wpAny_pure ⟨rfl, h₄⟩)) fun _ _ h' => h')) fun _ _ h' => h'))) fun _ _ h' => h')
/-- the outer loop -/
theorem compLoop_two0 (I : Nat → Shared → Prop)
    (turn : ∀ n s, I n s → wpAny (model prog w) A (pyNext it) (fun r s₁ => match r with
      | none => R (.ok .next) s₁
      | some v => wpAny (model prog w) A (assign t0 env v) (fun _ s₂ => wpAny (model prog w) A (eval i1 env) (fun x s₃ =>
          wpAny (model prog w) A (pyIter x) (fun it' s₄ => codeAny (model prog w) A (.compStart (.ListComp elt [⟨t0, i0, [], 0⟩, ⟨t1, i1, [], 0⟩] scope pos) 1 it' acc env)
            (fun r s₅ => match r with | .ok _ => ∃ m, m < n ∧ I m s₅ | .error _ => False) s₄) NoE s₃) NoE s₂) NoE s₁) NoE s)
    (n : Nat) (h : I n s) (ht : ∀ v, letOwnedTupleGo t0 it v = pure () := by intro _; rfl) (hs : ∀ x, foldedSetIterable i1 env x = pure x := by intro _; rfl) :
    codeAny (model prog w) A (.compLoop (.ListComp elt [⟨t0, i0, [], 0⟩, ⟨t1, i1, [], 0⟩] scope pos) 0 it acc env) R s := by
  refine codeAny_loop rfl I (fun n s hI => ?_) n h
  show wpAny _ A ((compTurn (.ListComp elt [⟨t0, i0, [], 0⟩, ⟨t1, i1, [], 0⟩] scope pos) 0 it acc env).onRaise (fun x => do noteFrame x env; theTreesLotGoes x)) _ _ s
  refine wpAny_noted ?_
  rw [compTurn_two0]
  refine noted_false (wpAny_bind (wpAny_standAt (wpAny_bind (wpAny_mono (turn n s hI) (fun r s₁ h₁ => ?_) fun _ _ h' => h'))))
  cases r with
  | none => exact wpAny_pure h₁
  | some v =>
    refine wpAny_bind (wpAny_of_eq (ht v) ?_)
    refine wpAny_bind (wpAny_mono h₁ (fun _ s₂ h₂ => wpAny_bind (wpAny_mono h₂ (fun x s₃ h₃ => wpAny_bind (wpAny_standAt (wpAny_bind (wpAny_of_eq (hs x) (wpAny_bind (wpAny_holding (wpAny_mono h₃ (fun it' s₄ h₄ => ?_) fun _ _ h' => h'))))))) fun _ _ h' => h')) fun _ _ h' => h')
    refine wpAny_bind (wpAny_runOwn (codeAny_mono h₄ fun r s₅ h₅ => ?_))
    cases r with
    | ok f => exact wpAny_pure ⟨rfl, h₅⟩
    | error e => exact h₅.elim
theorem compStart_two1
    (h0 : codeAny (model prog w) A (.compLoop (.ListComp elt [⟨t0, i0, [], 0⟩, ⟨t1, i1, [], 0⟩] scope pos) 1 it acc env) R s)
    (h : wpAny (model prog w) A (pyIter it) (fun it' s' => codeAny (model prog w) A (.compLoop (.ListComp elt [⟨t0, i0, [], 0⟩, ⟨t1, i1, [], 0⟩] scope pos) 1 it' acc env) R s') NoE s) :
    codeAny (model prog w) A (.compStart (.ListComp elt [⟨t0, i0, [], 0⟩, ⟨t1, i1, [], 0⟩] scope pos) 1 it acc env) R s := by
  refine codeAny_of_tree ?_
  show wpAny _ _ ((compStart (.ListComp elt [⟨t0, i0, [], 0⟩, ⟨t1, i1, [], 0⟩] scope pos) 1 it acc env).onRaise (fun x => do noteFrame x env; standAt theWindowsPlace)) _ _ s
  refine wpAny_notedAt ?_
  unfold compStart
  show wpAny _ _ (ask >>= _) _ _ s
  refine wpAny_bind (wpAny_askSetting (wpAny_ite ?_))
  split
  · first
      | exact wpAny_bind (wpAny_pure (wpAny_pure (And.intro rfl h0)))
      | exact wpAny_pure (And.intro rfl h0)
  · refine wpAny_bind (wpAny_rule ?_)
    show wpAny _ _ (standAt i1.pos >>= _) _ _ s
    exact noted_false (wpAny_bind (wpAny_standAt (wpAny_bind (wpAny_mono h (fun it' s' h' => wpAny_pure (And.intro rfl h')) fun _ _ x => x))))
end
section
variable {prog : Program} {w : World} {A : Around} {s₁ : Shared} {env : Env} {h₀ : Heap} {L : Addr} {m : Str → Option Value} {elt iter0 iter1 : Expr} {x0 x1 y : Str} {p0 p1 py : Pos} {scope : Scope} {cl : List (Str × Addr)} {pos spos : Pos}
def Off4 (I₁ I C D : Addr) (nw : List (Addr × Obj)) : Prop := ∀ p ∈ nw, (@Ne Nat p.1 I₁) ∧ (@Ne Nat p.1 I) ∧ (@Ne Nat p.1 C) ∧ (@Ne Nat p.1 D)
def Apart4 (I₁ I C D : Addr) : Prop := (@Ne Nat I₁ I) ∧ (@Ne Nat I₁ C) ∧ (@Ne Nat I₁ D) ∧ (@Ne Nat I C) ∧ (@Ne Nat I D) ∧ (@Ne Nat C D)
inductive TwoEnd (h₀ : Heap) (L : Addr) (m : Str → Option Value) (I₁ : Addr) (oI₁ : Obj) (I : Addr) (oI : Obj) (C : Addr) (oC : Obj) (D : Addr) (ys : List Value) (J : List Value → List (Addr × Obj) → Prop) (s : Shared) (y : Value) (s' : Shared) : Prop
  | mk (h' tk' nw' : _) (h0 : s' = { s with heap := h', toks := tk' }) (h1 : Fr h₀ L h' m) (h2 : News h₀ L h' ((I₁, oI₁) :: (I, oI) :: (C, oC) :: (D, LCg.lst ys) :: nw')) (h3 : Off4 I₁ I C D nw') (h4 : J (ys ++ [y]) nw')
inductive In1 (h₀ : Heap) (L : Addr) (m : Str → Option Value) (I₁ I C D : Addr) (oI : Obj) (x0 : Str) (v0 : Value) (lo : Int) (n₁ : Nat) (Inv1 : Nat → List Value → List (Addr × Obj) → Prop) (s₁ : Shared) (j : Nat) (s' : Shared) : Prop
  | mk (h' : Heap) (tk' k : Nat) (ys : List Value) (nw : List (Addr × Obj)) (oC : Obj) (m₂ : Str → Option Value) (e : s' = { s₁ with heap := h', toks := tk' }) (hk : k ≤ n₁) (hj : j = n₁ + 1 - k) (hst : IsRangeIter h' I₁ (lo + (k : Nat) * 1) ((n₁ : Int) - (k : Nat)) 1) (F : Fr h₀ L h' m) (N : News h₀ L h' ((I, oI) :: (C, oC) :: (D, LCg.lst ys) :: nw)) (hoC : LCg.NsObj oC m₂) (hv0 : m₂ x0 = some v0) (off : Off4 I₁ I C D nw) (J : Inv1 k ys nw)
theorem two_in {R : Result → Shared → Prop} {I I₁ C D : Addr} {oI : Obj} {v0 : Value} {lo : Int} {n₁ : Nat} (hh : A.handled = none) (ap : Apart4 I₁ I C D) (hkind : scope.kind = .function) (hx1 : scope.names.lookup x1 = some .local) (hne : x0 ≠ x1)
    (hLI : L ≠ I₁) (hI₀ : h₀.get? I₁ = none) (hCL : C ≠ L) (hC₀ : h₀.get? C = none) (hDL : D ≠ L) (hD₀ : h₀.get? D = none)
    (Inv1 : Nat → List Value → List (Addr × Obj) → Prop) (len : ∀ k ys nw, Inv1 k ys nw → ys.length ≤ 1000000)
    (turn : ∀ k t₁ oI₁ oC m₂ h tk nw ys (E' : Value → Shared → Prop), k < n₁ → Inv1 k ys nw → LCg.NsObj oC m₂ → m₂ x0 = some v0 → m₂ x1 = some (.int (lo + (k : Int)) t₁) → Fr h₀ L h m → News h₀ L h ((I₁, oI₁) :: (I, oI) :: (C, oC) :: (D, LCg.lst ys) :: nw) → Off4 I₁ I C D nw →
      wpAny (model prog w) A (eval elt (compEnvC scope cl C env)) (TwoEnd h₀ L m I₁ oI₁ I oI C oC D ys (Inv1 (k + 1)) { s₁ with heap := h, toks := tk }) E' { s₁ with heap := h, toks := tk })
    (fin : ∀ h' tk' oC m₂ ys nw, Fr h₀ L h' m → News h₀ L h' ((I, oI) :: (C, oC) :: (D, LCg.lst ys) :: nw) → LCg.NsObj oC m₂ → Off4 I₁ I C D nw → Inv1 n₁ ys nw → R (.ok .next) { s₁ with heap := h', toks := tk' })
    {h : Heap} {tk : Nat} {oC : Obj} {m₂ : Str → Option Value} {ys : List Value} {nw : List (Addr × Obj)} (hst : IsRangeIter h I₁ (lo + ((0 : Nat) : Int) * 1) ((n₁ : Int) - ((0 : Nat) : Int)) 1) (F : Fr h₀ L h m) (N : News h₀ L h ((I, oI) :: (C, oC) :: (D, LCg.lst ys) :: nw)) (hoC : LCg.NsObj oC m₂) (hv0 : m₂ x0 = some v0) (off : Off4 I₁ I C D nw) (J : Inv1 0 ys nw) :
    codeAny (model prog w) A (.compLoop (.ListComp elt [⟨.Name x0 p0, iter0, [], 0⟩, ⟨.Name x1 p1, iter1, [], 0⟩] scope pos) 1 (.ref I₁) (.ref D) (compEnvC scope cl C env)) R { s₁ with heap := h, toks := tk } := by
  obtain ⟨a1, a2, a3, a4, a5, a6⟩ := ap
  have W := LCg.range_walks (prog := prog) (w := w) (I := I₁) hh lo n₁
  refine compLoop_two1 (In1 h₀ L m I₁ I C D oI x0 v0 lo n₁ Inv1 s₁) ?_ (n₁ + 1)
    ⟨h, tk, 0, ys, nw, oC, m₂, rfl, Nat.zero_le _, rfl, hst, F, N, hoC, hv0, off, J⟩
  rintro j s' ⟨h', tk', k, ys, nw, oC, m₂, rfl, hk, rfl, hst', F', N', hoC, hv0, off, J⟩
  have offN : ∀ p ∈ (I, oI) :: (C, oC) :: (D, LCg.lst ys) :: nw, p.1 ≠ I₁ := fun p hp => by
    rcases List.mem_cons.mp hp with rfl | hp
    · exact Ne.symm a1
    rcases List.mem_cons.mp hp with rfl | hp
    · exact Ne.symm a2
    rcases List.mem_cons.mp hp with rfl | hp
    · exact Ne.symm a3
    · exact (off p hp).1
  by_cases hlt : k < n₁
  · refine W.item k _ _ _ hlt hst' fun v h₂ tk₂ hPv hst₂ hk₂ => ?_
    obtain ⟨t₁, rfl⟩ := hPv
    have N₂ := LCg.news_but N' hk₂ offN
    have F₂ := LCg.fr_but F' hk₂ hLI hI₀
    have zC := N₂ (C, oC) (List.mem_cons_of_mem _ List.mem_cons_self)
    refine wpAny_assign_Name (wpAny_storeName_local (lookup_relabel_local hx1) (hoC.ns zC.1) (fun h₃ hn₃ hs₃ => ?_) (by simp [compEnvC, relabel, hkind]))
    obtain ⟨oC₃, heC, hoC₃⟩ := LCg.ns_obj hn₃
    have F₃ : Fr h₀ L h₃ m := F₂.change hs₃ hCL hC₀
    have hst₃ := W.frame _ _ _ hst₂ (fun b hb o e => hs₃.extBut b o (fun q => a2 (by rw [List.mem_singleton.mp hb] at q; exact q)) e)
    obtain ⟨oI₁, heI⟩ : ∃ o, h₃.get? I₁ = some o := ⟨_, hst₃⟩
    have N₃ : News h₀ L h₃ ((I₁, oI₁) :: (I, oI) :: (C, oC₃) :: (D, LCg.lst ys) :: nw) := fun p hp => by
      rcases List.mem_cons.mp hp with rfl | hp
      · exact ⟨heI, Ne.symm hLI, hI₀⟩
      rcases List.mem_cons.mp hp with rfl | hp
      · have z := N₂ (I, oI) List.mem_cons_self
        exact ⟨hs₃.extBut _ _ a4 z.1, z.2⟩
      rcases List.mem_cons.mp hp with rfl | hp
      · exact ⟨heC, hCL, hC₀⟩
      rcases List.mem_cons.mp hp with rfl | hp
      · have z := N₂ (D, LCg.lst ys) (List.mem_cons_of_mem _ (List.mem_cons_of_mem _ List.mem_cons_self))
        exact ⟨hs₃.extBut _ _ (Ne.symm a6) z.1, z.2⟩
      · have z := N₂ p (List.mem_cons_of_mem _ (List.mem_cons_of_mem _ (List.mem_cons_of_mem _ hp)))
        exact ⟨hs₃.extBut _ _ (off p hp).2.2.1 z.1, z.2⟩
    refine wpAny_mono (turn k t₁ oI₁ oC₃ _ h₃ _ nw ys _ hlt J hoC₃ (by rw [if_neg hne]; exact hv0) (by simp) F₃ N₃ off) (fun y s₄ h₄ => ?_) fun _ _ e => e
    obtain ⟨h₄, tk₄, nw₄, rfl, F₄, N₄, off₄, J₄⟩ := h₄
    have zI := (N₄ (I₁, oI₁) List.mem_cons_self).1
    have zD := (N₄ (D, LCg.lst ys) (List.mem_cons_of_mem _ (List.mem_cons_of_mem _ (List.mem_cons_of_mem _ List.mem_cons_self)))).1
    have hst₄ := LCg.range_st (h₀ := h₀) (L := L) _ _ _ _ [] hst₃ heI zI F₄.keep (fun _ h => nomatch h) trivial
    have hyl := len k ys nw J
    refine append_at (hsz := by show ys.toArray.size ≤ sizeLine; rw [List.size_toArray, sizeLine_eq]; omega) zD fun h₅ hs₅ hD₅ => ?_
    refine ⟨n₁ + 1 - (k + 1), by omega, h₅, tk₄, k + 1, ys ++ [y], nw₄, oC₃, _, rfl, hlt, rfl, W.frame _ _ _ hst₄ (fun b hb o e => hs₅.extBut b o (fun q => a3 (by rw [List.mem_singleton.mp hb] at q; exact q)) e), F₄.change hs₅ hDL hD₀, fun p hp => ?_, hoC₃, by rw [if_neg hne]; exact hv0, off₄, J₄⟩
    rcases List.mem_cons.mp hp with rfl | hp
    · have z := N₄ (I, oI) (List.mem_cons_of_mem _ List.mem_cons_self)
      exact ⟨hs₅.extBut _ _ a5 z.1, z.2⟩
    rcases List.mem_cons.mp hp with rfl | hp
    · have z := N₄ (C, oC₃) (List.mem_cons_of_mem _ (List.mem_cons_of_mem _ List.mem_cons_self))
      exact ⟨hs₅.extBut _ _ a6 z.1, z.2⟩
    rcases List.mem_cons.mp hp with rfl | hp
    · exact ⟨hD₅.trans (congrArg some (LCg.lst_snoc ys y)), hDL, hD₀⟩
    · have z := N₄ p (List.mem_cons_of_mem _ (List.mem_cons_of_mem _ (List.mem_cons_of_mem _ (List.mem_cons_of_mem _ hp))))
      exact ⟨hs₅.extBut _ _ (off₄ p hp).2.2.2 z.1, z.2⟩
  · obtain rfl : k = n₁ := Nat.le_antisymm hk (Nat.not_lt.mp hlt)
    refine W.done _ _ _ hst' fun h₂ tk₂ hk₂ => ?_
    exact fin h₂ tk₂ oC m₂ ys nw (LCg.fr_but F' hk₂ hLI hI₀) (LCg.news_but N' hk₂ offN) hoC off J
def Off3N (I C D : Addr) (nw : List (Addr × Obj)) : Prop := ∀ p ∈ nw, (@Ne Nat p.1 I) ∧ (@Ne Nat p.1 C) ∧ (@Ne Nat p.1 D)
inductive In0 (h₀ : Heap) (L : Addr) (m : Str → Option Value) (I C D : Addr) (a : Int) (n : Nat) (Inv : Nat → Nat → List Value → List (Addr × Obj) → Prop) (s₁ : Shared) (j : Nat) (s' : Shared) : Prop
  | mk (h' : Heap) (tk i : Nat) (ys : List Value) (nw : List (Addr × Obj)) (oC : Obj) (m₂ : Str → Option Value) (e : s' = { s₁ with heap := h', toks := tk }) (hi : i ≤ n) (hj : j = n + 1 - i) (hst : IsRangeIter h' I (a + (i : Nat) * 1) ((n : Int) - (i : Nat)) 1) (F : Fr h₀ L h' m) (N : News h₀ L h' ((C, oC) :: (D, LCg.lst ys) :: nw)) (hoC : LCg.NsObj oC m₂) (off : Off3N I C D nw) (J : Inv i 0 ys nw)
inductive TwoR (h₀ : Heap) (L : Addr) (m : Str → Option Value) (s₁ : Shared) (news : List (Addr × Obj)) (lo : Int) (cnt : Nat) (xv : Value) (s' : Shared) : Prop
  | mk (r' b' t' u' v' h' tk' : _) (h0 : xv = .ref r') (h1 : s' = { s₁ with heap := h', toks := tk' }) (h2 : Fr h₀ L h' m) (h3 : News h₀ L h' news) (h4 : IsRange h' r' lo b' 1 t' u' v') (h5 : Builtin.Range.small lo b' 1 = true) (h6 : Builtin.Range.rangeSize lo b' 1 = ((cnt : Nat) : Int))
/-- what the source of a comp of two clauses, both ranges, brings -/
inductive TwoSrc (prog : Program) (w : World) (A : Around) (h₀ : Heap) (m : Str → Option Value) (env : Env) (elt iter1 : Expr) (x0 x1 y : Str) (scope : Scope) (cl : List (Str × Addr)) (n : Nat) (lo : Nat → Int) (cnt : Nat → Nat) (Inv : Nat → Nat → List Value → List (Addr × Obj) → Prop) (Q : Flow → Shared → Prop) (xv : Value) (s₁ : Shared) : Prop
  | mk (r a b t u v news : _) (h0 : xv = .ref r) (h1 : A.handled = none) (h2 : Fr h₀ env.locals s₁.heap m) (h3 : News h₀ env.locals s₁.heap news) (h4 : IsRange s₁.heap r a b 1 t u v) (h5 : Builtin.Range.small a b 1 = true) (h6 : Builtin.Range.rangeSize a b 1 = ((n : Nat) : Int)) (h7 : Inv 0 0 [] news) (h8 : (∀ i t C oC m₂ h tk nw I oI D ys (E' : Value → Shared → Prop), i < n → Inv i 0 ys nw → LCg.NsObj oC m₂ → m₂ x0 = some (.int (a + (i : Int)) t) → Fr h₀ env.locals h m → News h₀ env.locals h ((I, oI) :: (C, oC) :: (D, LCg.lst ys) :: nw) → wpAny (model prog w) A (eval iter1 (compEnvC scope cl C env)) (TwoR h₀ env.locals m s₁ ((I, oI) :: (C, oC) :: (D, LCg.lst ys) :: nw) (lo i) (cnt i)) E' { s₁ with heap := h, toks := tk })) (h9 : (∀ i k t t₁ I₁ oI₁ I oI C oC D m₂ h tk nw ys (E' : Value → Shared → Prop), i < n → k < cnt i → Inv i k ys nw → LCg.NsObj oC m₂ → m₂ x0 = some (.int (a + (i : Int)) t) → m₂ x1 = some (.int (lo i + (k : Int)) t₁) → Fr h₀ env.locals h m → News h₀ env.locals h ((I₁, oI₁) :: (I, oI) :: (C, oC) :: (D, LCg.lst ys) :: nw) → Apart4 I₁ I C D → Off4 I₁ I C D nw → wpAny (model prog w) A (eval elt (compEnvC scope cl C env)) (TwoEnd h₀ env.locals m I₁ oI₁ I oI C oC D ys (Inv i (k + 1)) { s₁ with heap := h, toks := tk }) E' { s₁ with heap := h, toks := tk })) (h10 : (∀ i ys nw, i < n → Inv i (cnt i) ys nw → Inv (i + 1) 0 ys nw)) (h11 : (∀ i k ys nw, Inv i k ys nw → ys.length ≤ 1000000)) (h12 : (∀ ys nw D h' tk', Inv n 0 ys nw → Fr h₀ env.locals h' (fun z => if z = y then some (.ref D) else m z) → News h₀ env.locals h' ((D, LCg.lst ys) :: nw) → (∀ p ∈ nw, @Ne Nat p.1 D) → Q .next { s₁ with heap := h', toks := tk' }))
theorem Assign_ListComp_Two {s : Shared} {Q : Flow → Shared → Prop} (_F₀ : Fr h₀ env.locals s.heap m) (n : Nat) (lo : Nat → Int) (cnt : Nat → Nat) (Inv : Nat → Nat → List Value → List (Addr × Obj) → Prop)
    (hsw : swapsWith (.ListComp elt [⟨.Name x0 p0, iter0, [], 0⟩, ⟨.Name x1 p1, iter1, [], 0⟩] scope pos) (some (.Name y py)) spos.line env = pure true)
    (hclos : closureFor scope env = pure cl) (hcell : ∀ z ∈ scope.names, z.2 ≠ .cell) (hkind : scope.kind = .function)
    (hnames : ∀ z ∈ scope.names, z.2 = .local → scope.names.lookup z.1 = some .local) (hx0 : scope.names.lookup x0 = some .local) (hx1 : scope.names.lookup x1 = some .local) (hne : x0 ≠ x1)
    (hy : env.kindOf y = some .local) (hp : (env.scope.kind == .class || (env.scope.kind == .module && env.locals != env.globals)) = false)
    (h : wpAny (model prog w) A (eval iter0 env) (TwoSrc prog w A h₀ m env elt iter1 x0 x1 y scope cl n lo cnt Inv Q) (fun _ _ => False) s)
    (hs : ∀ x, foldedSetIterable iter0 env x = pure x := by intro _; rfl) (hs1 : ∀ C x, foldedSetIterable iter1 (compEnvC scope cl C env) x = pure x := by intro _ _; rfl) :
    wpAny (model prog w) A (exec (.Assign [.Name y py] (.ListComp elt [⟨.Name x0 p0, iter0, [], 0⟩, ⟨.Name x1 p1, iter1, [], 0⟩] scope pos) spos) env) Q (fun _ _ => False) s := by
  rw [exec_Assign_Name_used _ _ _ _ hsw]
  refine wpAny_bind (wpAny_standAt (wpAny_bind ?_))
  show wpAny _ A (do let _ ← comprehension (.ListComp elt [⟨.Name x0 p0, iter0, [], 0⟩, ⟨.Name x1 p1, iter1, [], 0⟩] scope pos) scope env _ (newList []) false (eval iter0 env) (some (assign (.Name y py) env))) _ _ s
  refine wpAny_bind (wpAny_mono (wpAny_comprehension_free (use := some (assign (.Name y py) env)) (Q := fun _ s' => Q .next s') rfl hs hclos hkind hnames
    (wpAny_mono h (fun xv s₁ h₁ => ?_) fun _ _ e => e)) (fun _ s' hq => wpAny_pure (wpAny_pure hq)) fun _ _ e => e)
  obtain ⟨r, a, b, t, u, v, news, rfl, hh, F, N, hr, hsm, hn, J0, src, turn, next, len, fin⟩ := h₁
  refine wpAny_pyIter_range hr hsm ?_
  have W := LCg.range_walks (prog := prog) (w := w) (I := s₁.heap.objs.size) hh a n
  have hst : IsRangeIter (s₁.heap.push { cls := .type "range_iterator", data := .fields #[rawInt a, rawInt (Builtin.Range.rangeSize a b 1), rawInt 1] }) s₁.heap.objs.size (a + ((0 : Nat) : Int) * 1) ((n : Int) - ((0 : Nat) : Int)) 1 := by
    show IsRangeIter _ _ _ _ _
    rw [hn]; simpa using Heap.get?_push_size _ rfl
  have up : ∀ q o, s₁.heap.get? q = some o → (s₁.heap.push { cls := .type "range_iterator", data := .fields #[rawInt a, rawInt (Builtin.Range.rangeSize a b 1), rawInt 1] }).get? q = some o := fun q o e => Heap.get?_push_of_some _ e
  have F1 := F.keeps up
  have N1 := N.grown up
  have hLI : env.locals ≠ s₁.heap.objs.size := Nat.ne_of_lt F.ns.lt
  have hI₀ : h₀.get? s₁.heap.objs.size = none := next_is_new F
  have offI : ∀ p ∈ news, @Ne Nat p.1 s₁.heap.objs.size := fun p hp => Nat.ne_of_lt (Heap.lt_size (N p hp).1)
  have hI2 : s₁.heap.objs.size < (s₁.heap.push { cls := .type "range_iterator", data := .fields #[rawInt a, rawInt (Builtin.Range.rangeSize a b 1), rawInt 1] }).objs.size := by rw [Heap.size_push]; exact Nat.lt_succ_self _
  generalize s₁.heap.push { cls := .type "range_iterator", data := .fields #[rawInt a, rawInt (Builtin.Range.rangeSize a b 1), rawInt 1] } = g2 at *
  generalize s₁.heap.objs.size = I at *
  refine wpAny_newObj_type (wpAny_newFunctionEnv hcell (by intro y hy; simp at hy) (fun h₁ hns₁ hsb₁ => ?_) hkind)
  dsimp only at hns₁ hsb₁ ⊢
  generalize hH2 : g2.push { cls := .type "list", dict := none, data := .seq ([] : List Value).toArray } = H2 at hns₁ hsb₁ ⊢
  have hC : H2.objs.size = g2.objs.size + 1 := by rw [← hH2, Heap.size_push]
  have below : ∀ b, b < g2.objs.size → b ≠ H2.objs.size ∧ b ≠ g2.objs.size := fun b hb => ⟨by rw [hC]; exact Nat.ne_of_lt (Nat.lt_succ_of_lt hb), Nat.ne_of_lt hb⟩
  have hDC : g2.objs.size ≠ H2.objs.size := by rw [hC]; exact Nat.ne_of_lt (Nat.lt_succ_self _)
  have old : ∀ b o, g2.get? b = some o → h₁.get? b = some o := fun b o e => hsb₁.extBut b o (below b (Heap.lt_size e)).1 (Heap.get?_push_of_some _ (hH2 ▸ Heap.get?_push_of_some _ e))
  have hacc : h₁.get? g2.objs.size = some (LCg.lst []) := hsb₁.extBut _ _ hDC (Heap.get?_push_of_some _ (hH2 ▸ Heap.get?_push_size _ rfl))
  have fresh₀ : ∀ a, g2.objs.size ≤ a → h₀.get? a = none := fun a ha => by
    cases e : h₀.get? a with
    | none => rfl
    | some o' => exact absurd (Heap.lt_size (F1.keep a o' e)) (Nat.not_lt.mpr ha)
  have hD₀ : h₀.get? g2.objs.size = none := fresh₀ _ (Nat.le_refl _)
  have hC₀ : h₀.get? H2.objs.size = none := fresh₀ _ (by rw [hC]; exact Nat.le_succ _)
  have hLlt : env.locals < g2.objs.size := F1.ns.lt
  have hDL : g2.objs.size ≠ env.locals := Ne.symm (below _ hLlt).2
  have hCL : H2.objs.size ≠ env.locals := Ne.symm (below _ hLlt).1
  have hIC : @Ne Nat I H2.objs.size := (below I hI2).1
  have hID : @Ne Nat I g2.objs.size := (below I hI2).2
  have hCD : @Ne Nat H2.objs.size g2.objs.size := Ne.symm hDC
  have off₀ : Off3N I H2.objs.size g2.objs.size news := fun p hp => ⟨offI p hp, (below _ (Heap.lt_size (N1 p hp).1)).1, (below _ (Heap.lt_size (N1 p hp).1)).2⟩
  have hst₁ := W.frame _ _ _ hst fun b _ o e => old b o e
  have F2 := F1.keeps old
  have N2 : News h₀ env.locals h₁ ((g2.objs.size, LCg.lst []) :: news) := fun p hp => by
    rcases List.mem_cons.mp hp with rfl | hp
    · exact ⟨hacc, hDL, hD₀⟩
    · exact ⟨old _ _ (N1 p hp).1, (N1 p hp).2⟩
  obtain ⟨oC, heC, hoC⟩ := LCg.ns_obj hns₁
  have N3 : News h₀ env.locals h₁ ((H2.objs.size, oC) :: (g2.objs.size, LCg.lst []) :: news) := fun p hp => by
    rcases List.mem_cons.mp hp with rfl | hp
    · exact ⟨heC, hCL, hC₀⟩
    · exact N2 p hp
  clear hns₁ hsb₁ hH2 hC below hacc old fresh₀ hLlt N1 F1 N F up hst hI2 heC N2 offI
  generalize H2.objs.size = C at *
  generalize g2.objs.size = D at *
  have loop : ∀ s₃ : Shared, (∃ tk, s₃ = { s₁ with heap := h₁, toks := tk }) →
      codeAny (model prog w) A (.compLoop (.ListComp elt [⟨.Name x0 p0, iter0, [], 0⟩, ⟨.Name x1 p1, iter1, [], 0⟩] scope pos) 0 (.ref I) (.ref D) (compEnvC scope cl C env))
        (compPost (model prog w) A NoE (some (assign (.Name y py) env)) (fun _ s' => Q .next s') (.ref D) C) s₃ := by
    rintro s₃ ⟨tk₀, rfl⟩
    refine compLoop_two0 (In0 h₀ env.locals m I C D a n Inv s₁) ?_ (n + 1)
      ⟨h₁, tk₀, 0, [], news, oC, _, rfl, Nat.zero_le _, rfl, hst₁, F2, N3, hoC, off₀, J0⟩ (by intro _; rfl) (hs1 C)
    rintro j s' ⟨h', tk, i, ys, nw, oC, m₂, rfl, hi, rfl, hst', F', N', hoC, off, J⟩
    have offN : ∀ p ∈ (C, oC) :: (D, LCg.lst ys) :: nw, p.1 ≠ I := fun p hp => by
      rcases List.mem_cons.mp hp with rfl | hp
      · exact Ne.symm hIC
      rcases List.mem_cons.mp hp with rfl | hp
      · exact Ne.symm hID
      · exact (off p hp).1
    by_cases hlt : i < n
    · refine W.item i _ _ _ hlt hst' fun v h₂ tk₂ hPv hst₂ hk₂ => ?_
      obtain ⟨tv, rfl⟩ := hPv
      have N₂ := LCg.news_but N' hk₂ offN
      have F₂ := LCg.fr_but F' hk₂ hLI hI₀
      have zC := N₂ (C, oC) List.mem_cons_self
      refine wpAny_assign_Name (wpAny_storeName_local (lookup_relabel_local hx0) (hoC.ns zC.1) (fun h₃ hn₃ hs₃ => ?_) (by simp [compEnvC, relabel, hkind]))
      obtain ⟨oC₃, heC, hoC₃⟩ := LCg.ns_obj hn₃
      have F₃ : Fr h₀ env.locals h₃ m := F₂.change hs₃ hCL hC₀
      have hst₃ := W.frame _ _ _ hst₂ (fun b hb o e => hs₃.extBut b o (fun q => hIC (by rw [List.mem_singleton.mp hb] at q; exact q)) e)
      obtain ⟨oI, heI⟩ : ∃ o, h₃.get? I = some o := ⟨_, hst₃⟩
      have N₃ : News h₀ env.locals h₃ ((I, oI) :: (C, oC₃) :: (D, LCg.lst ys) :: nw) := fun p hp => by
        rcases List.mem_cons.mp hp with rfl | hp
        · exact ⟨heI, Ne.symm hLI, hI₀⟩
        rcases List.mem_cons.mp hp with rfl | hp
        · exact ⟨heC, hCL, hC₀⟩
        rcases List.mem_cons.mp hp with rfl | hp
        · have z := N₂ (D, LCg.lst ys) (List.mem_cons_of_mem _ List.mem_cons_self)
          exact ⟨hs₃.extBut _ _ (Ne.symm hCD) z.1, z.2⟩
        · have z := N₂ p (List.mem_cons_of_mem _ (List.mem_cons_of_mem _ hp))
          exact ⟨hs₃.extBut _ _ (off p hp).2.1 z.1, z.2⟩
      refine wpAny_mono (src i tv C oC₃ _ h₃ _ nw I oI D ys _ hlt J hoC₃ (by simp) F₃ N₃) (fun xv s₄ h₄ => ?_) fun _ _ e => e
      obtain ⟨r', b', t', u', v', h₄, tk₄, rfl, rfl, F₄, N₄, hr', hsm', hn'⟩ := h₄
      refine wpAny_pyIter_range hr' hsm' ?_
      have up : ∀ b o, h₄.get? b = some o → (h₄.push { cls := .type "range_iterator", data := .fields #[rawInt (lo i), rawInt (Builtin.Range.rangeSize (lo i) b' 1), rawInt 1] }).get? b = some o := fun b o e => Heap.get?_push_of_some _ e
      have hstI : IsRangeIter (h₄.push { cls := .type "range_iterator", data := .fields #[rawInt (lo i), rawInt (Builtin.Range.rangeSize (lo i) b' 1), rawInt 1] }) h₄.objs.size (lo i + ((0 : Nat) : Int) * 1) ((cnt i : Int) - ((0 : Nat) : Int)) 1 := by
        show IsRangeIter _ _ _ _ _
        rw [hn']; simpa using Heap.get?_push_size _ rfl
      have offS : ∀ p ∈ (I, oI) :: (C, oC₃) :: (D, LCg.lst ys) :: nw, @Ne Nat p.1 h₄.objs.size := fun p hp => Nat.ne_of_lt (Heap.lt_size (N₄ p hp).1)
      have hLI₁ : env.locals ≠ h₄.objs.size := Nat.ne_of_lt F₄.ns.lt
      have hI₁₀ : h₀.get? h₄.objs.size = none := next_is_new F₄
      have W₁ := LCg.range_walks (prog := prog) (w := w) (I := h₄.objs.size) hh (lo i) (cnt i)
      have F₅ := F₄.keeps up
      have N₅ := N₄.grown up
      have zI := (N₅ (I, oI) List.mem_cons_self).1
      have hst₅ := LCg.range_st (h₀ := h₀) (L := env.locals) _ _ _ _ [] hst₃ heI zI F₅.keep (fun _ h => nomatch h) trivial
      have ap : Apart4 h₄.objs.size I C D := ⟨Ne.symm (offS _ List.mem_cons_self), Ne.symm (offS _ (List.mem_cons_of_mem _ List.mem_cons_self)), Ne.symm (offS _ (List.mem_cons_of_mem _ (List.mem_cons_of_mem _ List.mem_cons_self))), hIC, hID, hCD⟩
      generalize h₄.push { cls := .type "range_iterator", data := .fields #[rawInt (lo i), rawInt (Builtin.Range.rangeSize (lo i) b' 1), rawInt 1] } = h₅ at *
      have inner : codeAny (model prog w) A (.compLoop (.ListComp elt [⟨.Name x0 p0, iter0, [], 0⟩, ⟨.Name x1 p1, iter1, [], 0⟩] scope pos) 1 (.ref h₄.objs.size) (.ref D) (compEnvC scope cl C env))
          (fun r s₅ => match r with | .ok _ => ∃ m', m' < n + 1 - i ∧ In0 h₀ env.locals m I C D a n Inv s₁ m' s₅ | .error _ => False) { s₁ with heap := h₅, toks := tk₄ } := by
        refine two_in (v0 := .int (a + (i : Int)) tv) (n₁ := cnt i) (lo := lo i) hh ap hkind hx1 hne hLI₁ hI₁₀ hCL hC₀ hDL hD₀ (Inv i) (fun k ys nw J => len i k ys nw J)
          (fun k t₁ oI₁ oC m₂ h tk nw ys E' hk J hoC e0 e1 F N off => turn i k tv t₁ _ oI₁ I oI C oC D m₂ h tk nw ys E' hlt hk J hoC e0 e1 F N ap off)
          (fun h' tk' oC m₂ ys nw F N hoC off J => ?_) hstI F₅ N₅ hoC₃ (by simp) (fun p hp => ?_) J
        · have zI' := (N (I, oI) List.mem_cons_self).1
          refine ⟨n + 1 - (i + 1), by omega, h', tk', i + 1, ys, nw, oC, m₂, rfl, hlt, rfl, LCg.range_st (h₀ := h₀) (L := env.locals) _ _ _ _ [] hst₅ zI zI' F.keep (fun _ h => nomatch h) trivial, F, fun p hp => N p (List.mem_cons_of_mem _ hp), hoC, fun p hp => (off p hp).2, next i ys nw hlt J⟩
        · exact ⟨offS p (List.mem_cons_of_mem _ (List.mem_cons_of_mem _ (List.mem_cons_of_mem _ hp))), off p hp⟩
      exact compStart_two1 inner (W₁.self 0 _ _ _ hstI inner)
    · obtain rfl : i = n := Nat.le_antisymm hi (Nat.not_lt.mp hlt)
      refine W.done _ _ _ hst' fun h₂ tk₂ hk₂ => ?_
      have N₂ := LCg.news_but N' hk₂ offN
      have F₂ := LCg.fr_but F' hk₂ hLI hI₀
      have zC := N₂ (C, oC) List.mem_cons_self
      show wpAny _ A (assign (.Name y py) env (.ref D)) _ _ _
      refine wpAny_assign_Name (wpAny_storeName_local hy F₂.ns (fun h₃ hn₃ hs₃ => ?_) hp)
      have hL₀ : h₀.get? env.locals = none := Heap.get?_none_of_le F₂.above
      have F₃ : Fr h₀ env.locals h₃ (fun z => if z = y then some (.ref D) else m z) := ⟨hn₃, fun b o e => hs₃.extBut b o (fun q => by rw [q, hL₀] at e; cases e) (F₂.keep b o e), F₂.above⟩
      refine ⟨m₂, (hoC.ns zC.1).sameBut hs₃ hCL, fun h'' hs'' => fin ys nw D h'' _ J (F₃.change hs'' hCL hC₀) (fun p hp => ?_) (fun p hp => (off p hp).2.2)⟩
      have z : h₃.get? p.1 = some p.2 := hs₃.extBut _ _ (N₂ p (List.mem_cons_of_mem _ hp)).2.1 (N₂ p (List.mem_cons_of_mem _ hp)).1
      refine ⟨hs''.extBut _ _ ?_ z, (N₂ p (List.mem_cons_of_mem _ hp)).2⟩
      rcases List.mem_cons.mp hp with rfl | hp
      · exact Ne.symm hCD
      · exact (off p hp).2.1
  exact codeAny_compStart_list (loop _ ⟨_, rfl⟩) (W.self 0 _ _ _ hst₁ (loop _ ⟨_, rfl⟩))
end
section
variable {prog : Program} {w : World} {A : Around} {E : Value → Shared → Prop} {s : Shared} {h₀ : Heap} {L l : Addr} {m : Str → Option Value} {n c : Nat} {f : Nat → Nat → Int} {k : Int} {u : Tok} {value slice : PySem.Expr} {ops : List Value} {Q : Value → Shared → Prop} {R news : List (Addr × Obj)} {vs : List Value}
theorem ints_take : ∀ {vs : List Value} {ns : List Int} (i : Nat), IntsAre vs ns → IntsAre (vs.take i) (ns.take i)
  | _, _, 0, _ => by simp only [List.take_zero]; exact .nil
  | _, _, _ + 1, .nil => .nil
  | _, _, i + 1, .cons _ _ r => .cons _ _ (ints_take i r)
/-- the two ends of a tie: the first two of its three numbers -/
theorem cut_tie {g : Heap} {r : Addr} {ui : Tok} {x y z : Int} (hg : s.heap = g.push { cls := .type "slice", data := .fields #[.none, .int 2 ui, .none] }) (hr : r = g.objs.size) (hF : Fr h₀ L g m) (hN : News h₀ L g news) (hl : ListP h₀ L R l vs) (hsub : ∀ p ∈ R, p ∈ news) (hi : IntsAre vs [x, y, z])
    (h : ∀ D ws h', Fr h₀ L h' m → News h₀ L h' ((D, listOf (List.toArray ws) 0) :: news) → IntsAre ws [x, y] → Q (.ref D) { s with heap := h' })
    (hs : subscripted slice false (.ref l) (.ref g.objs.size) = operate [.ref g.objs.size, .ref l] (getItem (.ref l) (.ref g.objs.size))) (ht : ∀ r, letTemporaryGo value (.ref l) r = pure ()) :
    wpAny (model prog w) A (subscriptTail value slice (.ref l) (.ref r)) Q E s :=
  pcut_to hg hr hF hN hl hsub (by decide) (by rw [hi.length]; exact Nat.le_of_ble_eq_true rfl) (fun D h' F' N' _ => h D _ h' F' N' (ints_take 2 hi)) hs ht
end

end
section
section
variable {w : World} {mean : ExcName → Option Value} {mg mb : Str → Option Value} {A : Around} {s : Shared} {Q E : Value → Shared → Prop}
theorem c_varint_end (h₀ base : Heap) (outer : List Env) (it l : Addr) (io : Obj) (items : Array Value) (i : Nat) (X : Amb w mean mg mb h₀) (kc : h₀.StaysIn s.heap) (hi0 : h₀.get? it = none) (hio : s.heap.get? it = some io) (hit : ListIt io l i) (hl : s.heap.IsList l items) (hx : items[i]? = none) (hdep : A.depth < recursionLimit) (hh : A.handled = none)
    (hA : A.frames = some outer) (hbi : base.get? it = none) (hB : base.StaysIn s.heap) (hF : s.heap.FunFrames base outer)
    (exc : ∀ e h' tk' a0, Heap.FlyingW base outer e (.type "StopIteration") a0 h' →
      (∀ b o, b ≠ it → s.heap.get? b = some o → (∀ vs, o.data ≠ .fields vs) → ∃ sl, h'.get? b = some { o with slots := sl }) → E (.ref e) { s with heap := h', toks := tk' }) :
    wpAny (model pw w) A (call (.ref 29) [.ref it]) Q E s := by
  walk_at "FILL"
  have KX := X.kx
  have T := X.top
  have hne : l ≠ it := fun q => by
    obtain ⟨o, ho, hc, _⟩ := hl
    rw [q, hio] at ho; cases ho
    rw [hit.1] at hc; simp at hc
  refine' enterH (it := it) [(Str.ofString "iterator", .ref it)] KX T kc hi0 hio hdep ?ho ?hcd ?hb ?hl ?c1 ?c2 ?c3 ?c4 (fun g h₁ kg kg2 F N => ?_)
  walk_at "ENTER"
  have KX := KX.keeps kg
  have T := T.keeps kg
  have hl1 : g.IsList l items := by
    obtain ⟨o, ho, r⟩ := hl
    exact ⟨o, kg2 _ _ hne ho, r⟩
  walk_at "SHOW"
  k_fold
  walk_at "STEPS"
  refine next_end hh F N List.mem_cons_self hit hl1 hx (fun h' e hs hen hex => ?_)
  obtain ⟨ob, vs, he, hcls, hdv, h1, a0, h0⟩ := hex
  have keepAll : ∀ b o, b ≠ it → s.heap.get? b = some o → h'.get? b = some o := fun b o hb e => hs b o hb (F.keep b o (kg2 b o hb e))
  have hben : base.get? e = none := by
    cases hq : base.get? e with
    | none => rfl
    | some o' =>
      have hb : e ≠ it := fun q => by rw [q, hbi] at hq; cases hq
      have := F.keep e o' (kg2 e o' hb (hB e o' hq))
      rw [hen] at this; cases this
  have hfield : ∀ b o, s.heap.get? b = some o → (∀ vs, o.data ≠ .fields vs) → b ≠ it := fun b o e hnf q => by
    rw [q, hio] at e; cases e
    exact hnf _ hit.2
  refine wpAny_leaving_firstW (base := base) (outer := outer) (a0 := a0) (Around.frames_deeper hA) ?_ rfl he ?_ hben hdv h1 h0 (fun h'' hL => ?_)
  · refine Heap.FunFrames.cons (fun q => nomatch q) rfl (F.ns.at' fun o e => hs _ o (N _ List.mem_cons_self).2.1.symm e) ?_ (hF.of_keeps fun b o e hnf => ⟨o, keepAll b o (hfield b o e hnf) e, rfl⟩)
    cases hq : base.get? s.heap.objs.size with
    | none => rfl
    | some o' => exact absurd (Heap.lt_size (hB _ _ hq)) (Nat.lt_irrefl _)
  · exact fun b o e => keepAll b o (fun q => by rw [q, hbi] at e; cases e) (hB b o e)
  · obtain ⟨k1, ⟨_, _, k2⟩, k3, k4⟩ := hL
    exact exc e h'' _ a0 ⟨k1, hben, k2, hcls ▸ k3⟩ (fun b o hb e' hnf => k4 b o (keepAll b o hb e') hnf)
theorem isExc_stop : isSubtype (.type "StopIteration") (.type "BaseException") = pure true := by rw [isSubtype_type]; kernel_rfl
theorem notTuple_stop : isSubtype (.type ((Manifest.find? "StopIteration").elim "type" fun y => y.metatype)) (.type "tuple") = pure false := by rw [isSubtype_type]; kernel_rfl
theorem isSub_stop : isSubtype (.type "StopIteration") (.type "StopIteration") = pure true := by rw [isSubtype_type]; kernel_rfl
/-- «except StopIteration» in the frame's own try; what the frame has made stands, but for slots -/
theorem caught_stop {s' : Shared} {base h : Heap} {outer : List Env} {L a e : Addr} {a0 : Value} {m : Str → Option Value} {name : Str} {scope : Scope} {cd : Value} {b₀ : Stmt} {suite : List Stmt} {pos np : Pos} {rest : List ExceptHandler} {Q : Flow → Shared → Prop}
    (hst : A.frames = some outer) (F : Fr base L h m) (hsm : h.UpToSlots s'.heap) (hfl : Heap.FlyingW base (envOf name scope L a cd :: outer) e (.type "StopIteration") a0 s'.heap) (T : TopM mean mg mb base)
    (k : ∀ h', Fr base L h' m → h.UpToSlots h' → wpAny (model pw w) ((A.deeper (envOf name scope L a cd)).mark (some (.ref e))) (execs (b₀ :: suite) (envOf name scope L a cd)) Q (fun _ _ => False) { s' with heap := h' })
    (hk : scope.kind = .function := by rfl) (hx : (envOf name scope L a cd).kindOf (Str.ofString "StopIteration") = some .globalImplicit := by rfl) :
    wpAny (model pw w) (A.deeper (envOf name scope L a cd)) (noteFrame (.ref e) (envOf name scope L a cd))
      (fun _ s₂ => wpAny (model pw w) (A.deeper (envOf name scope L a cd)) (setFlight (.ref e) none) (fun _ s₃ =>
        wpAny (model pw w) (A.deeper (envOf name scope L a cd)) (handleBy (.ref e) (envOf name scope L a cd) (.ExceptHandler (some (.Name (Str.ofString "StopIteration") np)) none (b₀ :: suite) pos :: rest)) Q (fun _ _ => False) s₃) (fun _ _ => False) s₂) (fun _ _ => False) s' := by
  refine wpAny_looks_onW (Around.frames_deeper hst) rfl hfl fun h₄ hheld₄ hsm₄ => ?_
  refine wpAny_landsW hheld₄ fun h₅ hheld hsm₅' => ?_
  have hsm₅ := hsm₄.trans hsm₅'
  have F₅ := F.of_stays hheld.1 (hsm.trans hsm₅)
  obtain ⟨ob, hob, hobc⟩ := hheld.there
  refine wpAny_handleBy_builtin (X := "StopIteration") (T := "StopIteration") (b := true) isExc_stop notTuple_stop isSub_stop (ld_builtin_at F₅ T.g (T.free _ (by decide +kernel) (by decide +kernel) (by decide +kernel) (by decide +kernel) (by decide +kernel)) T.b ((T.builtins _ (by decide +kernel)).trans PyProof.Rows.Boot.«StopIteration») ⟨rfl, ⟨ob, hob, hobc⟩, ?_⟩ hk hx)
  refine lands_againW hheld fun h₆ hfl₆ hsm₆ => ?_
  exact wpAny_passesOwnAt PassesOwnAt.never (k h₆ (F.of_stays hfl₆.1 ((hsm.trans hsm₅).trans hsm₆)) ((hsm.trans hsm₅).trans hsm₆))
end

end
section
section
variable {prog : Program} {w : World} {A : Around} {E : Value → Shared → Prop} {s : Shared} {h₀ : Heap} {m : Str → Option Value} {env : Env}
inductive DkSrc (prog : Program) (w : World) (A : Around) (h₀ : Heap) (m : Str → Option Value) (env : Env) (kx : Expr) (x y : Str) (scope : Scope) (cl : List (Str × Addr)) (kf : Str → Int) (Q : Flow → Shared → Prop) (xv : Value) (s₁ : Shared) : Prop
  | mk (d kvs news : _) (h0 : xv = .ref d) (h1 : A.handled = none) (h2 : (d == sysModules) = false) (h3 : Fr h₀ env.locals s₁.heap m) (h4 : News h₀ env.locals s₁.heap news) (h5 : h₀.DictOf (strKind prog w) d kvs) (h6 : kvs.length ≤ sizeLine) (h7 : (∀ C k t s₃ m₃ (E' : Value → Shared → Prop) (i : Nat) v₀, kvs[i]? = some (k, v₀) → s₃.heap.Ns C m₃ → m₃ x = some (.str k t) → s₁.heap.StaysIn s₃.heap → wpAny (model prog w) A (eval kx (compEnvC scope cl C env)) (fun key s₄ => (∃ t, key = .int (kf k) t) ∧ Keeps s₃ s₄) E' s₃)) (h8 : (∀ D h' tk oD kvs' (vs : List Value), Fr h₀ env.locals h' (fun z => if z = y then some (.ref D) else m z) → News h₀ env.locals h' ((D, oD) :: news) → (∀ p ∈ news, @Ne Nat D p.1) → oD.IsDictOf (intKind prog w) kvs' → vs.length = kvs.length → (∀ (j : Nat) v, vs[j]? = some v → ∃ k v₀ t, kvs[j]? = some (k, v₀) ∧ v = Value.str k t) → StoredAll (fun v n => ∃ k t, v = Value.str k t ∧ n = kf k) (fun v y => y = v) vs kvs' → Q .next { s₁ with heap := h', toks := tk }))
theorem Assign_DictComp_keys {kx iter : Expr} {x y : Str} {px py pv : Pos} {scope : Scope} {cl : List (Str × Addr)} {pos spos : Pos} {Q : Flow → Shared → Prop} (kf : Str → Int) (_F₀ : Fr h₀ env.locals s.heap m)
    (hsw : swapsWith (.DictComp kx (.Name x pv) [⟨.Name x px, iter, [], 0⟩] scope pos) (some (.Name y py)) spos.line env = pure true)
    (hclos : closureFor scope env = pure cl) (hcell : ∀ z ∈ scope.names, z.2 ≠ .cell) (hkind : scope.kind = .function)
    (hnames : ∀ z ∈ scope.names, z.2 = .local → scope.names.lookup z.1 = some .local) (hx : scope.names.lookup x = some .local) (hdb : (x == ("__debug__" : Str)) = false)
    (hy : env.kindOf y = some .local) (hp : (env.scope.kind == .class || (env.scope.kind == .module && env.locals != env.globals)) = false)
    (h : wpAny (model prog w) A (eval iter env) (DkSrc prog w A h₀ m env kx x y scope cl kf Q) E s)
    (hs : ∀ x, foldedSetIterable iter env x = pure x := by intro _; rfl) :
    wpAny (model prog w) A (exec (.Assign [.Name y py] (.DictComp kx (.Name x pv) [⟨.Name x px, iter, [], 0⟩] scope pos) spos) env) Q E s := by
  rw [exec_Assign_Name_used _ _ _ _ hsw]
  refine wpAny_bind (wpAny_standAt (wpAny_bind ?_))
  show wpAny _ A (do let _ ← comprehension (.DictComp kx (.Name x pv) [⟨.Name x px, iter, [], 0⟩] scope pos) scope env _ newDict false (eval iter env) (some (assign (.Name y py) env))) _ _ s
  refine wpAny_bind (wpAny_mono (wpAny_comprehension_free (use := some (assign (.Name y py) env)) (Q := fun _ s' => Q .next s') rfl hs hclos hkind hnames
    (wpAny_mono h (fun xv s₁ h₁ => ?_) fun _ _ e => e)) (fun _ s' hq => wpAny_pure (wpAny_pure hq)) fun _ _ e => e)
  obtain ⟨d, kvs, news, rfl, hh, hsys, F, N, hd₀, hlen, hkey, fin⟩ := h₁
  obtain ⟨od, es, ep, hod, hcd, hdd, hks, hps, hnd⟩ := id hd₀
  have hlt : d < s₁.heap.objs.size := Heap.lt_size (F.keep _ _ hod)
  have hat : s₁.heap.DictAt (strKind prog w) d kvs ep := ⟨od, es, F.keep _ _ hod, hcd, hdd, hks, hps, hnd⟩
  have up : ∀ (s₃ : Shared), (∀ b o, b ∉ [s₁.heap.objs.size] → (s₁.heap.push { cls := .type "dict_keyiterator", data := .fields #[.ref d, .int 0 0, .int kvs.length 0, .int ep 0] }).get? b = some o → s₃.heap.get? b = some o) → ∀ b o, s₁.heap.get? b = some o → s₃.heap.get? b = some o :=
    fun s₃ hk b o e => hk b o (fun hm => by rcases List.mem_cons.mp hm with rfl | hm; exact Nat.lt_irrefl _ (Heap.lt_size e); cases hm) (Heap.get?_push_of_some _ e)
  refine wpAny_pyIter_dict hsys hat ?_
  refine comp_block_walkCD (knd := intKind prog w) (RR := fun acc C => compPost (model prog w) A E (some (assign (.Name y py) env)) (fun _ s' => Q .next s') acc C) (Walks.dictKeys (knd := strKind prog w) hh _ d (Nat.ne_of_lt hlt) kvs ep) hlen (fun _ => true)
    (fun v n => ∃ k t, v = Value.str k t ∧ n = kf k) (fun v y => y = v) hcell hkind hx ⟨⟨_, Heap.get?_push_size _ rfl, rfl, rfl⟩, hat.at' fun o e => Heap.get?_push_of_some _ e⟩ ?_ ⟨?_, ?_, ?_⟩ ?_
  · intro b hb
    show b < (s₁.heap.push _).objs.size
    rw [Heap.size_push]
    rcases List.mem_cons.mp hb with rfl | hb
    · exact Nat.lt_succ_self _
    · rw [List.mem_singleton.mp hb]; exact Nat.lt_succ_of_lt hlt
  · intro C i v s₃ m₃ E' hP hn hm hk
    exact wpAny_tests_nil ⟨rfl, _, _, rfl, fun _ _ e => e⟩
  · rintro C i v s₃ m₃ E' ⟨k, v₀, hkv, hP⟩ hp' hn hm hk
    obtain ⟨t, rfl⟩ := PySem.Value.isStrOf_shape hP
    refine wpAny_mono (hkey C k t s₃ m₃ E' i v₀ hkv hn hm (up s₃ hk)) (fun key s₄ h₄ => ⟨?_, h₄.2⟩) fun _ _ e => e
    obtain ⟨u, rfl⟩ := h₄.1
    exact ⟨kf k, intKind_is _ _ _ _, k, t, rfl, rfl⟩
  · intro C i v s₃ m₃ E' hP hp' hn hm hk
    exact wpAny_Name (wpAny_loadName_local (by simp [compEnvC, relabel, hkind]) (lookup_relabel_local hx) hn hm ⟨rfl, _, _, rfl, fun _ _ e => e⟩) hdb
  · intro D C h' tk m' kvs' vs' hD hC hDC hnC hlD hlenv hP hF hk
    have hn : (s₁.heap.push { cls := .type "dict_keyiterator", data := .fields #[.ref d, .int 0 0, .int kvs.length 0, .int ep 0] }).Ns env.locals m := F.ns.push _
    have hLf : env.locals ∉ [s₁.heap.objs.size] := fun hm => by
      rcases List.mem_cons.mp hm with e | hm
      · exact Nat.lt_irrefl _ (e ▸ F.ns.lt)
      · cases hm
    have hLC : env.locals ≠ C := by rintro rfl; obtain ⟨o, _, _, ho, _⟩ := hn; rw [hC] at ho; cases ho
    have hLD : env.locals ≠ D := by rintro rfl; obtain ⟨o, _, _, ho, _⟩ := hn; rw [hD] at ho; cases ho
    show wpAny _ A (assign (.Name y py) env (.ref D)) _ _ _
    refine wpAny_assign_Name (wpAny_storeName_local hy (hn.at' fun o e => hk _ o hLf e) (fun h₂ hn₂ hs₂ => ?_) hp)
    refine ⟨m', hnC.sameBut hs₂ (Ne.symm hLC), fun h₃ hs₃ => ?_⟩
    have keep : ∀ b o, b ≠ env.locals → s₁.heap.get? b = some o → h₃.get? b = some o := fun b o hb e =>
      hs₃.extBut b o (by rintro rfl; rw [Heap.get?_push_of_some _ e] at hC; cases hC) (hs₂.extBut b o hb (up { s₁ with heap := h' } hk b o e))
    obtain ⟨oD, hoD, hdD⟩ := Heap.dictOf_iff.mp ((hlD.extBut hs₂.extBut (Ne.symm hLD)).extBut hs₃.extBut hDC)
    refine fin D h₃ _ oD kvs' vs' ⟨hn₂.sameBut hs₃ hLC, fun b o e => keep b o (Nat.ne_of_lt (Nat.lt_of_lt_of_le (Heap.lt_size e) F.above)) (F.keep b o e), F.above⟩ (fun p hp => ?_) (fun p hp q => ?_) hdD hlenv (fun j v hv => ?_) ((List.filter_eq_self.mpr fun _ _ => rfl : vs'.filter (fun _ => true) = vs') ▸ hF)
    · rcases List.mem_cons.mp hp with rfl | hp
      · refine ⟨hoD, Ne.symm hLD, ?_⟩
        cases e : h₀.get? D with
        | none => rfl
        | some o' => rw [Heap.get?_push_of_some _ (F.keep _ _ e)] at hD; cases hD
      · exact ⟨keep _ _ (N p hp).2.1 (N p hp).1, (N p hp).2⟩
    · have q' : D = p.1 := q
      rw [q', Heap.get?_push_of_some _ (N p hp).1] at hD; cases hD
    · obtain ⟨k, v₀, hkv, hi⟩ := hP j v hv
      obtain ⟨t, rfl⟩ := PySem.Value.isStrOf_shape hi
      exact ⟨k, v₀, t, hkv, rfl⟩
end

end
section
/-- the table of the signs, as it stands in the text -/
noncomputable def tokL : List (Str × Int) := [(Str.ofString "!", 54), (Str.ofString "!=", 28), (Str.ofString "%", 24), (Str.ofString "%=", 40), (Str.ofString "&", 19), (Str.ofString "&=", 41), (Str.ofString "(", 7), (Str.ofString ")", 8), (Str.ofString "*", 16), (Str.ofString "**", 35), (Str.ofString "**=", 46), (Str.ofString "*=", 38), (Str.ofString "+", 14), (Str.ofString "+=", 36), (Str.ofString ",", 12), (Str.ofString "-", 15), (Str.ofString "-=", 37), (Str.ofString "->", 51), (Str.ofString ".", 23), (Str.ofString "...", 52), (Str.ofString "/", 17), (Str.ofString "//", 47), (Str.ofString "//=", 48), (Str.ofString "/=", 39), (Str.ofString ":", 11), (Str.ofString ":=", 53), (Str.ofString ";", 13), (Str.ofString "<", 20), (Str.ofString "<<", 33), (Str.ofString "<<=", 44), (Str.ofString "<=", 29), (Str.ofString "=", 22), (Str.ofString "==", 27), (Str.ofString ">", 21), (Str.ofString ">=", 30), (Str.ofString ">>", 34), (Str.ofString ">>=", 45), (Str.ofString "@", 49), (Str.ofString "@=", 50), (Str.ofString "[", 9), (Str.ofString "]", 10), (Str.ofString "^", 32), (Str.ofString "^=", 43), (Str.ofString "{", 25), (Str.ofString "|", 18), (Str.ofString "|=", 42), (Str.ofString "}", 26), (Str.ofString "~", 31)]
theorem tok_tab {w : World} {h : Heap} (X : (heap39 w.params).In h) : StrTab pw w h 86 (kdpD tokL) :=
  kt_tab_in pw w (D := tokL.map fun p => (p.1, PyData.int p.2)) X (by kernel_rfl) (by decide +kernel) (by kernel_rfl)

end
section
theorem valueAt_stored {K : Type} [DecidableEq K] (kvs : List (K × Value)) (k k' : K) (v : Value) : valueAt (stored kvs k v) k' = if k = k' then some v else valueAt kvs k' := by
  unfold stored
  split
  · rename_i h
    have key : ∀ l : List (K × Value), valueAt (l.map fun kv => if kv.1 = k then (kv.1, v) else kv) k' = if k = k' ∧ (l.any fun kv => kv.1 = k) = true then some v else valueAt l k' := by
      intro l
      induction l with
      | nil => simp [valueAt]
      | cons p l ih =>
        unfold valueAt at ih ⊢
        rw [List.map_cons, List.find?_cons, List.find?_cons]
        by_cases hp : p.1 = k
        · rw [if_pos hp]
          by_cases hk : k = k'
          · subst hk; simp [hp]
          · have h1 : ¬ p.1 = k' := fun q => hk (hp.symm.trans q)
            simp [h1, hk] at ih ⊢
            exact ih
        · rw [if_neg hp]
          by_cases hpk : p.1 = k'
          · have : ¬ k = k' := fun q => hp (hpk.trans q.symm)
            simp [hpk, this]
          · simp only [hpk, decide_false, List.any_cons, hp, Bool.false_or]
            exact ih
    rw [key]
    by_cases hk : k = k'
    · rw [if_pos ⟨hk, by simpa using h⟩, if_pos hk]
    · rw [if_neg (fun q => hk q.1), if_neg hk]
  · rename_i h
    unfold valueAt
    rw [List.find?_append]
    by_cases hk : k = k'
    · subst hk
      rw [if_pos rfl]
      have : (kvs.find? fun kv => kv.1 = k) = none := by
        rw [List.find?_eq_none]
        intro p hp hq
        exact h (List.any_eq_true.mpr ⟨p, hp, hq⟩)
      rw [this]; simp
    · rw [if_neg hk]
      simp [hk]
theorem stored_all {K : Type} [DecidableEq K] {FK : Value → K → Prop} {FV : Value → Value → Prop} {l : List Value} {kvs : List (K × Value)} (S : StoredAll FK FV l kvs) :
    (∀ n y, valueAt kvs n = some y → ∃ v ∈ l, FK v n ∧ FV v y) ∧ (∀ v ∈ l, ∃ n, FK v n ∧ (valueAt kvs n).isSome = true) := by
  induction S with
  | nil => exact ⟨fun n y h => by simp [valueAt] at h, fun _ h => nomatch h⟩
  | @snoc l kvs v k y S hk hy ih =>
    refine ⟨fun n z h => ?_, fun v' hv' => ?_⟩
    · rw [valueAt_stored] at h
      split at h
      · rename_i e
        cases h; subst e
        exact ⟨v, List.mem_append_right _ (.head _), hk, hy⟩
      · obtain ⟨v', h1, h2⟩ := ih.1 n z h
        exact ⟨v', List.mem_append_left _ h1, h2⟩
    · rcases List.mem_append.mp hv' with hv' | hv'
      · obtain ⟨n, h1, h2⟩ := ih.2 v' hv'
        refine ⟨n, h1, ?_⟩
        rw [valueAt_stored]
        split
        · rfl
        · exact h2
      · obtain rfl := List.mem_singleton.mp hv'
        exact ⟨k, hk, by rw [valueAt_stored, if_pos rfl]; rfl⟩
theorem flat_keys {enc : Str → PyData} {kvs : List (Str × Value)} {D : List (PyData × PyData)} (p : PyProof.V.FlatPairs enc kvs D) : kvs.map (fun q => enc q.1) = D.map (·.1) := by
  induction p with
  | nil => rfl
  | cons _ _ ih => simp [ih]
theorem tok_keys {kvs : List (Str × Value)} (p : PyProof.V.FlatPairs PyData.str kvs (kdpD tokL)) : kvs.map (·.1) = tokL.map (·.1) := by
  have h := flat_keys p
  unfold kdpD at h
  rw [List.map_map] at h
  have key : ∀ (a : List (Str × Value)) (b : List (Str × Int)), a.map (fun q => PyData.str q.1) = b.map (fun q => PyData.str q.1) → a.map (·.1) = b.map (·.1) := by
    intro a
    induction a with
    | nil => intro b h; cases b with | nil => rfl | cons => simp at h
    | cons x a ih =>
      intro b h
      cases b with
      | nil => simp at h
      | cons y b =>
        simp only [List.map_cons, List.cons.injEq, PyData.str.injEq] at h ⊢
        exact ⟨h.1, ih b h.2⟩
  exact key _ _ h
theorem tok_all : ∀ p ∈ tokL, kdpHas tokL p.1 = true ∧ kdpLook tokL p.1 0 = p.2 ∧ p.1 = tx (sg p.2) := by decide +kernel
theorem tok_num : ∀ n : Nat, n < 48 → (tx (sg (7 + (n : Int))), 7 + (n : Int)) ∈ tokL := by decide +kernel
theorem tokens_at {kvs : List (Str × Value)} {vs : List Value} {kvs' : List (Int × Value)} (hp : PyProof.V.FlatPairs PyData.str kvs (kdpD tokL)) (hlen : vs.length = kvs.length)
    (hv : ∀ (j : Nat) v, vs[j]? = some v → ∃ k v₀ t, kvs[j]? = some (k, v₀) ∧ v = Value.str k t) (S : StoredAll (fun v n => ∃ k t, v = Value.str k t ∧ n = kdpLook tokL k 0) (fun v y => y = v) vs kvs') {n : Int} (h1 : 7 ≤ n) (h2 : n ≤ 54) :
    ∃ t, valueAt kvs' n = some (.str (tx (sg n)) t) := by
  have hks := tok_keys hp
  have hmem : ∀ k v₀ (j : Nat), kvs[j]? = some (k, v₀) → ∃ z, (k, z) ∈ tokL := fun k v₀ j h => by
    have : k ∈ kvs.map (·.1) := List.mem_map.mpr ⟨(k, v₀), List.mem_of_getElem? h, rfl⟩
    rw [hks] at this
    obtain ⟨p, hp, rfl⟩ := List.mem_map.mp this
    exact ⟨p.2, hp⟩
  obtain ⟨s1, s2⟩ := stored_all S
  have hin := tok_num (n - 7).toNat (by omega)
  rw [show 7 + (((n - 7).toNat : Nat) : Int) = n by omega] at hin
  have hk : tx (sg n) ∈ kvs.map (·.1) := by rw [hks]; exact List.mem_map.mpr ⟨_, hin, rfl⟩
  obtain ⟨⟨k0, v0⟩, hkm, hke⟩ := List.mem_map.mp hk
  obtain ⟨j, hj⟩ := List.getElem?_of_mem hkm
  have hjl : j < vs.length := by
    rw [hlen]
    rcases Nat.lt_or_ge j kvs.length with h | h
    · exact h
    · rw [List.getElem?_eq_none h] at hj; cases hj
  have hvj : vs[j]? = some vs[j] := List.getElem?_eq_getElem hjl
  obtain ⟨n', ⟨k1, t1, e1, e2⟩, hs⟩ := s2 vs[j] (List.getElem_mem hjl)
  obtain ⟨k2, v2, t2, h3, h4⟩ := hv j _ hvj
  rw [hj] at h3
  cases h3
  rw [h4] at e1
  cases e1
  have hke' : k0 = tx (sg n) := hke
  have e3 : n' = n := by
    rw [e2, hke']
    exact (tok_all _ hin).2.1
  rw [e3] at hs
  obtain ⟨y, hy⟩ := Option.isSome_iff_exists.mp hs
  obtain ⟨v', hv', ⟨k', t', rfl, hn⟩, rfl⟩ := s1 n y hy
  obtain ⟨j', hj'⟩ := List.getElem?_of_mem hv'
  obtain ⟨k3, v3, t3, h5, h6⟩ := hv j' _ hj'
  cases h6
  obtain ⟨z, hz⟩ := hmem _ _ _ h5
  have q := tok_all _ hz
  refine ⟨t', ?_⟩
  rw [hy]
  have : k' = tx (sg n) := by
    rw [hn, q.2.1]; exact q.2.2
  rw [this]

end
section
noncomputable def octI (n : Int) : List Int := if n < 64 then [n] else [68, n - 256]
noncomputable def rdStep (p : List (List Nat) × List Nat) (n : Int) : List (List Nat) × List Nat := if n = 0 then (p.1 ++ [p.2], []) else (p.1, p.2 ++ sg n)
/-- what is read of the first k numbers: the texts that ended, and the text under way -/
noncomputable def rdTo (nums : List Int) (k : Nat) : List (List Nat) × List Nat := (nums.take k).foldl rdStep ([], [])
noncomputable def posTo' (nums : List Int) (k : Nat) : Nat := ((nums.take k).map octI).flatten.length
theorem take_nextI {nums : List Int} {k : Nat} (hk : k < nums.length) : nums.take (k + 1) = nums.take k ++ [nums[k]] := by
  rw [List.take_add_one, List.getElem?_eq_getElem hk]; rfl
theorem rdTo_next {nums : List Int} {k : Nat} (hk : k < nums.length) : rdTo nums (k + 1) = rdStep (rdTo nums k) nums[k] := by
  unfold rdTo
  rw [take_nextI hk, List.foldl_append]; rfl
theorem posTo_next {nums : List Int} {k : Nat} (hk : k < nums.length) : posTo' nums (k + 1) = posTo' nums k + (octI nums[k]).length := by
  unfold posTo'
  rw [take_nextI hk, List.map_append, List.flatten_append, List.length_append]; simp
theorem oct_at {nums : List Int} {k : Nat} (hk : k < nums.length) {j : Nat} (hj : j < (octI nums[k]).length) : posTo' nums k + j < (nums.map octI).flatten.length ∧ ((nums.map octI).flatten).getD (posTo' nums k + j) 0 = (octI nums[k]).getD j 0 := by
  have e : nums = nums.take k ++ (nums[k] :: nums.drop (k + 1)) := by
    rw [← List.drop_eq_getElem_cons hk, List.take_append_drop]
  have e2 : (nums.map octI).flatten = ((nums.take k).map octI).flatten ++ (octI nums[k] ++ ((nums.drop (k + 1)).map octI).flatten) := by
    conv => lhs; rw [e]
    rw [List.map_append, List.flatten_append, List.map_cons, List.flatten_cons]
  unfold posTo'
  rw [e2]
  refine ⟨by simp only [List.length_append]; omega, ?_⟩
  rw [List.getD_eq_getElem?_getD, List.getElem?_append_right (by omega), List.getD_eq_getElem?_getD]
  rw [show ((nums.take k).map octI).flatten.length + j - ((nums.take k).map octI).flatten.length = j by omega]
  rw [List.getElem?_append_left hj]
theorem oct_facts {vs : List Value} {nums : List Int} (hi : IntsAre vs (nums.map octI).flatten) {k : Nat} (hk : k < nums.length) (hn : IsSym nums[k] ∨ nums[k] = 0) :
    ∃ (m : Nat) (dg : Nat → Nat), (1 ≤ m ∧ m ≤ 31) ∧ (∀ j, j < m → dg j < 64) ∧ (∀ j, j < m → ∃ t, vs.toArray[posTo' nums k + j]? = some (.int (if j + 1 < m then ((64 + dg j : Nat) : Int) else ((dg j : Nat) : Int)) t)) ∧ ((horD dg m : Nat) : Int) = nums[k] ∧ posTo' nums (k + 1) = posTo' nums k + m := by
  have get : ∀ j, j < (octI nums[k]).length → ∃ t, vs.toArray[posTo' nums k + j]? = some (.int ((octI nums[k]).getD j 0) t) := fun j hj => by
    obtain ⟨h1, h2⟩ := oct_at hk hj
    obtain ⟨t, ht⟩ := ints_getD hi h1
    exact ⟨t, by rw [List.getElem?_toArray, ht, h2]⟩
  have hnext := posTo_next hk
  by_cases h64 : nums[k] < 64
  · have e : octI nums[k] = [nums[k]] := if_pos h64
    rw [e] at get hnext
    refine ⟨1, fun _ => nums[k].toNat, by decide, fun j _ => ?_, fun j hj => ?_, ?_, hnext⟩
    · show nums[k].toNat < 64
      rcases hn with (h | h) | h <;> omega
    · obtain rfl : j = 0 := by omega
      obtain ⟨t, ht⟩ := get 0 (by simp)
      refine ⟨t, ht.trans ?_⟩
      rw [if_neg (by decide)]
      have : ((nums[k].toNat : Nat) : Int) = nums[k] := by rcases hn with (h | h) | h <;> omega
      rw [this]; rfl
    · show ((0 * 64 + nums[k].toNat : Nat) : Int) = _
      rcases hn with (h | h) | h <;> omega
  · have e : octI nums[k] = [68, nums[k] - 256] := if_neg h64
    have hr : 256 ≤ nums[k] ∧ nums[k] ≤ 259 := by rcases hn with (h | h) | h <;> omega
    rw [e] at get hnext
    refine ⟨2, fun j => if j = 0 then 4 else (nums[k] - 256).toNat, by decide, fun j hj => ?_, fun j hj => ?_, ?_, hnext⟩
    · dsimp only; split <;> omega
    · have hj2 : j = 0 ∨ j = 1 := by omega
      obtain ⟨t, ht⟩ := get j (by rcases hj2 with rfl | rfl <;> simp)
      refine ⟨t, ht.trans ?_⟩
      rcases hj2 with rfl | rfl
      · rfl
      · have : (((nums[k] - 256).toNat : Nat) : Int) = nums[k] - 256 := by omega
        show some (Value.int (nums[k] - 256) t) = some (Value.int (((nums[k] - 256).toNat : Nat) : Int) t)
        rw [this]
    · show (((0 * 64 + 4) * 64 + (nums[k] - 256).toNat : Nat) : Int) = _
      omega
theorem rd_len (nums : List Int) : ∀ k, k ≤ nums.length → (∀ n ∈ nums, IsSym n ∨ n = 0) → (rdTo nums k).1.length ≤ k ∧ (rdTo nums k).2.length ≤ 3 * k
  | 0, _, _ => ⟨Nat.le_refl _, Nat.le_refl _⟩
  | k + 1, h, hn => by
    have ih := rd_len nums k (by omega) hn
    have hk : k < nums.length := by omega
    rw [rdTo_next hk]
    unfold rdStep
    have hs := hn _ (List.getElem_mem hk)
    split
    · simp only [List.length_append, List.length_singleton, List.length_nil]; omega
    · rename_i h0
      rcases hs with hs | hs
      · have := (sg_facts hs).1
        simp only [List.length_append]; omega
      · exact absurd hs h0
theorem tx_join (a b : List Nat) : tx a ++ tx b = tx (a ++ b) := by
  show (⟨a.toArray ++ b.toArray⟩ : Str) = ⟨(a ++ b).toArray⟩
  simp
theorem txt_room {a b : List Nat} {k : Nat} (h : a.length ≤ 3 * k) (hk : k ≤ 100) (hb : b.length ≤ 3) : (tx a).length + (tx b).length ≤ sizeLine := by
  rw [tx_len, tx_len, sizeLine_eq]; omega
theorem tx_nil : Str.ofString "" = tx [] := by decide +kernel

end
section
inductive TxI (s : Shared) (g : Heap) (l : Addr) (nums : List Int) (S : Addr) (oS : Obj) (LL : Addr) (oLL : Obj) (n : Nat) (s₁ : Shared) : Prop
  | mk (h tk k Tl I io ys ep t m : _) (h0 : s₁ = { s with heap := h, toks := tk }) (h1 : k + n = nums.length) (h2 : ListIt io l (posTo' nums k)) (h3 : Fr g s.heap.objs.size h m) (h4 : News g s.heap.objs.size h [(Tl, listOf (List.toArray ys) ep), (I, io), (S, oS), (LL, oLL)]) (h5 : (@Ne Nat Tl I)) (h6 : (@Ne Nat Tl S)) (h7 : (@Ne Nat Tl LL)) (h8 : (@Ne Nat I S)) (h9 : (@Ne Nat I LL)) (h10 : (@Ne Nat S LL)) (h11 : StrsAre ys ((rdTo nums k).1.map tx)) (h12 : m (Str.ofString "signs") = some (.ref S)) (h13 : m (Str.ofString "source") = some (.ref I)) (h14 : m (Str.ofString "texts") = some (.ref Tl)) (h15 : m (Str.ofString "text") = some (.str (tx (rdTo nums k).2) t))
section
variable {w : World} {mean : ExcName → Option Value} {mg mb : Str → Option Value} {A : Around} {s : Shared} {Q E : Value → Shared → Prop}
local macro_rules | `(tactic| walk_at "call builtin:iter") => `(tactic| (k_here; (with_reducible show wpAny _ _ (call (Value.builtin "iter") [Value.ref _]) _ _ _); k_dflt (refine' iter_mk (by k_asm) (by k_asm) (by exact Heap.IsList.at (by assumption) (fun o e => Fr.keep (by assumption) _ o e)) ?_); intro I' h' o' F' N' l1 hi'))
local macro_rules | `(tactic| walk_at "call ref") => `(tactic| (k_here; k_dflt (first
  | (refine' c_iseof _ _ (by walk_at "AMB") (by walk_at "DEP") ?_)
  | (refine' c_isterminal _ _ (by walk_at "AMB") (by walk_at "DEP") ?_)
  | (refine' c_isnonterminal _ _ (by walk_at "AMB") (by walk_at "DEP") ?_)); intro h' tk' hk'; walk_at "BACK"))
local macro_rules | `(tactic| walk_at "subscriptTail Name Name ref int") => `(tactic| (k_here; walk_at "ITEM?"; k_dflt (refine' kda_item (knd := PySem.intKind _ _) ?N ?mm ?hd (intKind_is _ _ _ _) ?hl ?_ ?hs ?hg; (case N => k_asm); (case mm => k_mem); (case hd => assumption); (case hl => assumption); (case hs => with_unfolding_all rfl); (case hg => intro _; with_unfolding_all rfl))))
theorem c_texts (h₀ : Heap) (LL : Addr) (oLL : Obj) (envL : Env) (l : Addr) (vs : List Value) (nums : List Int) (X : Amb w mean mg mb h₀) (kc : h₀.StaysIn s.heap) (hi0 : h₀.get? LL = none) (hoL : s.heap.get? LL = some oLL) (hLd : ∀ vs, oLL.data ≠ .fields vs) (hA : A.frames = some [envL]) (hfr : envL.frame = some LL) (hkd : envL.scope.kind = .function)
    (hl : s.heap.IsList l vs.toArray) (hlL : l ≠ LL) (hi : IntsAre vs (nums.map octI).flatten) (hn : ∀ n ∈ nums, IsSym n ∨ n = 0) (hlen : nums.length ≤ 16) (hdep : A.depth + 1 < recursionLimit) (hh : A.handled = none)
    (ret : ∀ T h' tk' ts, (∀ b o, b ≠ LL → s.heap.get? b = some o → h'.get? b = some o) → (∃ sl, h'.get? LL = some { oLL with slots := sl }) → h'.IsList T (List.toArray ts) → StrsAre ts ((nums.foldl rdStep ([], [])).1.map tx) → Q (.ref T) { s with heap := h', toks := tk' }) :
    wpAny (model pw w) A (call (.ref 147) [.ref l]) Q E s := by
  walk_at "FILL"
  have KX := X.kx
  have T := X.top
  refine' enterH (it := LL) [(Str.ofString "octets", .ref l)] KX T kc hi0 hoL (by omega) ?ho ?hcd ?hb ?hl ?c1 ?c2 ?c3 ?c4 (fun g h₁ kg kg2 F N => ?_)
  walk_at "ENTER"
  have KX := KX.keeps kg
  have T := T.keeps kg
  have hlg : g.IsList l vs.toArray := by
    obtain ⟨o, ho, r⟩ := hl
    exact ⟨o, kg2 _ _ hlL ho, r⟩
  walk_at "SHOW"
  k_fold
  walk_at "STEPS"
  obtain ⟨hsys, kvs, hdo, hfp⟩ := tok_tab KX
  have hkl : kvs.length = 48 := by rw [← hfp.length]; rfl
  k_dflt (refine Assign_DictComp_keys (fun k => kdpLook tokL k 0) (by k_asm) (by with_unfolding_all rfl) (by with_unfolding_all rfl) (by decide) (by rfl) (by decide) (by rfl) (by decide) (by rfl) (by rfl) ?_)
  walk_at "STEPS"
  refine ⟨86, kvs, [(LL, oLL)], rfl, hh, hsys, F, N, hdo, by rw [hkl, sizeLine_eq]; decide, ?_, ?_⟩
  · intro C k t s₃ m₃ E' i v₀ hkv hns hm hst
    have kk : ∀ b o, g.get? b = some o → s₃.heap.get? b = some o := fun b o e => hst b o (F.keep b o e)
    have T86 := tok_tab (KX.keeps kk)
    have hmem : kdpHas tokL k = true := by
      have h1 : k ∈ kvs.map (·.1) := List.mem_map.mpr ⟨_, List.mem_of_getElem? hkv, rfl⟩
      rw [tok_keys hfp] at h1
      obtain ⟨p, hp, rfl⟩ := List.mem_map.mp h1
      exact (tok_all p hp).1
    refine wpAny_Subscript_Name (T := "dict") slot_dict_getitem.lookup ?_
    refine Name_function_global rfl rfl (loadGlobal_global (T.g.keeps kk) (v := .ref 86) (mg_of KX T.g (by kernel_rfl)) ?_)
    refine wpAny_Name (wpAny_loadName_local rfl rfl hns hm ⟨?_, kdp_getItem T86 hmem fun t' => ⟨⟨t', rfl⟩, _, _, rfl, fun _ _ e => e⟩⟩) (by decide)
    obtain ⟨_, kv2, hd2, _⟩ := T86
    exact hd2.typeIs
  · intro S h' tk oD kvs' vs' F N offS hdS hvl hvs hst
    walk_at "STEPS"
    rename (News _ _ _ _) => NN
    rename (ListIt _ _ _) => hli
    rename (_ < _ ∧ _) => hlt
    rename (∀ p ∈ _, _ < _) => hlt1
    have hSL : @Ne Nat S LL := offS _ List.mem_cons_self
    have hIS := hlt1 _ List.mem_cons_self
    have hIL := hlt1 _ (List.mem_cons_of_mem _ List.mem_cons_self)
    refine noted_false (whileI (TxI s g l nums S oD LL oLL) (fun k₀ s₁ hs => ?_) nums.length ⟨_, _, 0, _, _, _, [], _, _, _, rfl, Nat.zero_add _, hli, by assumption, NN, (Nat.ne_of_gt hlt.1), (Nat.ne_of_gt hlt.2.1), (Nat.ne_of_gt hlt.2.2), (Nat.ne_of_gt hIS), (Nat.ne_of_gt hIL), hSL, .nil, rfl, rfl, rfl, rfl⟩)
    obtain ⟨h, tk, k, Tl, I, io, ys, ep, t, m, rfl, hkn, hio, F, N, n1, n2, n3, n4, n5, n6, hys, e1, e2, e3, e4⟩ := hs
    have F := fr4 F e1 e2 e3 e4
    walk_at "SHOW"
    k_fold
    walk_at "STEPS"
    have NI := N (I, io) (List.mem_cons_of_mem _ List.mem_cons_self)
    by_cases hk : k < nums.length
    ·
      obtain ⟨mm, dg, g1, g2, g3, g4, g5⟩ := oct_facts hi hk (hn _ (List.getElem_mem hk))
      refine c_varint g I l io vs.toArray (posTo' nums k) mm dg ⟨KX, T⟩ F.keep NI.2.2 NI.1 hio (hlg.at fun o e => F.keep _ _ e) (by walk_at "DEP") hh g1 g2 g3 (fun t' h' tk' io' kk hio1 hio2 => ?_)
      rw [g4]
      rw [← g5] at hio2
      have F' := LCg.fr_but F (fun b o hb e => kk b o (by simpa using hb) e) (Ne.symm NI.2.1) NI.2.2
      have N' : News g s.heap.objs.size h' [(Tl, listOf (List.toArray ys) ep), (I, io'), (S, oD), (LL, oLL)] := fun p hp => by
        simp only [List.mem_cons, List.not_mem_nil, or_false] at hp
        rcases hp with rfl | rfl | rfl | rfl
        · exact ⟨kk _ _ n1 (N (Tl, _) List.mem_cons_self).1, (N (Tl, _) List.mem_cons_self).2⟩
        · exact ⟨hio1, NI.2⟩
        · have z := N (S, oD) (List.mem_cons_of_mem _ (List.mem_cons_of_mem _ List.mem_cons_self))
          exact ⟨kk _ _ (Ne.symm n4) z.1, z.2⟩
        · have z := N (LL, oLL) (List.mem_cons_of_mem _ (List.mem_cons_of_mem _ (List.mem_cons_of_mem _ List.mem_cons_self)))
          exact ⟨kk _ _ (Ne.symm n5) z.1, z.2⟩
      have hnk := hn _ (List.getElem_mem hk)
      have hrd := rdTo_next hk
      have hkl2 := rd_len nums k (by omega) hn
      clear N F kk hio hio1 NI
      generalize nums[k] = n at *
      have AG : Amb w mean mg mb g := ⟨KX, T⟩
      clear hlt hlt1 hli hSL hIS hIL hi
      rcases hnk with (hs | hs) | hs
      · obtain ⟨ts, hts⟩ := tokens_at hfp hvl hvs hst hs.1 hs.2
        clear hfp hvl hvs hst hdo
        walk_at "STEPS"
        · exfalso
          omega
        · refine PyProof.Rows.add_str (fun t' tk' => ?_) (txt_room hkl2.2 (by omega) (sg_facts (.inl hs)).1)
          walk_at "STEPS"
          have e : tx (rdTo nums k).2 ++ tx (sg n) = tx (rdTo nums (k + 1)).2 := by
            rw [hrd]; unfold rdStep; rw [if_neg (by omega), tx_join]
          refine ⟨k₀ - 1, by omega, _, _, k + 1, Tl, I, io', ys, ep, _, _, rfl, by omega, hio2, by assumption, by assumption, n1, n2, n3, n4, n5, n6, ?_, rfl, rfl, rfl, congrArg (fun z => some (Value.str z _)) e⟩
          rw [hrd]; unfold rdStep; rw [if_neg (by omega)]; exact hys
      · clear hfp hvl hvs hst hdo
        walk_at "STEPS"
        · exfalso
          omega
        · rw [letter_of hs]
          refine PyProof.Rows.add_str (fun t' tk' => ?_) (txt_room hkl2.2 (by omega) (sg_facts (.inr hs)).1)
          walk_at "STEPS"
          have e : tx (rdTo nums k).2 ++ tx (sg n) = tx (rdTo nums (k + 1)).2 := by
            rw [hrd]; unfold rdStep; rw [if_neg (by omega), tx_join]
          refine ⟨k₀ - 1, by omega, _, _, k + 1, Tl, I, io', ys, ep, _, _, rfl, by omega, hio2, by assumption, by assumption, n1, n2, n3, n4, n5, n6, ?_, rfl, rfl, rfl, congrArg (fun z => some (Value.str z _)) e⟩
          rw [hrd]; unfold rdStep; rw [if_neg (by omega)]; exact hys
      · clear hfp hvl hvs hst hdo
        walk_at "STEPS"
        · rename (News _ _ _ _) => NN
          rw [show ys.toArray.push (Value.str (tx (rdTo nums k).2) t) = List.toArray (ys ++ [Value.str (tx (rdTo nums k).2) t]) by simp] at NN
          have e1 : (rdTo nums (k + 1)).1 = (rdTo nums k).1 ++ [(rdTo nums k).2] := by
            rw [hrd]; unfold rdStep; rw [if_pos hs]
          have e2 : Str.ofString "" = tx (rdTo nums (k + 1)).2 := by
            rw [hrd]; unfold rdStep; rw [if_pos hs]; exact tx_nil
          refine ⟨k₀ - 1, by omega, _, _, k + 1, Tl, I, io', ys ++ [Value.str (tx (rdTo nums k).2) t], ep + 1, _, _, rfl, by omega, hio2, by assumption, NN, n1, n2, n3, n4, n5, n6, ?_, rfl, rfl, rfl, congrArg (fun z => some (Value.str z _)) e2⟩
          rw [e1, List.map_append]
          exact strs_app hys (.cons _ _ .nil)
        · exfalso
          omega
    · have hkn' : k = nums.length := by omega
      have NL := N (LL, oLL) (List.mem_cons_of_mem _ (List.mem_cons_of_mem _ (List.mem_cons_of_mem _ List.mem_cons_self)))
      have NT := N (Tl, _) List.mem_cons_self
      have hpos : vs.toArray[posTo' nums k]? = none := by
        refine Array.getElem?_eq_none ?_
        rw [List.size_toArray, hi.length, hkn']
        unfold posTo'
        rw [List.take_length]
        exact Nat.le_refl _
      refine c_varint_end g g _ I l io vs.toArray (posTo' nums k) ⟨KX, T⟩ F.keep NI.2.2 NI.1 hio (hlg.at fun o e => F.keep _ _ e) hpos (by walk_at "DEP") hh (Around.frames_deeper hA) NI.2.2 F.keep (Heap.FunFrames.cons (fun q => nomatch q) rfl F.ns (Heap.get?_none_of_le F.above) ⟨by rw [hkd]; exact (fun q => nomatch q), ⟨LL, oLL, hfr, NL.2.2, NL.1, hLd⟩, trivial⟩) (fun e h' tk' a0 hfl hus => ?_)
      have hup : h.UpToSlots h' := fun b o e hn => hus b o (fun q => by rw [q, NI.1] at e; cases e; exact hn _ hio.2) e hn
      refine caught_stop hA F hup hfl T (fun h'' F2 hup2 => ?_)
      clear hfp hvl hvs hst hdo
      walk_at "SHOW"
      k_fold
      walk_at "STEPS"
      refine ret Tl h'' _ ys (fun b o hb e => F2.keep b o (kg2 b o hb e)) (hup2 _ _ NL.1 hLd) ?_ ?_
      · obtain ⟨sl, hsl⟩ := hup2 _ _ NT.1 (fun vs q => by cases q)
        exact ⟨_, hsl, rfl, _, rfl⟩
      · rw [hkn'] at hys
        unfold rdTo at hys
        rw [List.take_length] at hys
        exact hys
end

end
section
section
variable {w : World} {mean : ExcName → Option Value} {mg mb : Str → Option Value} {A : Around} {s : Shared} {Q E : Value → Shared → Prop}
/-- the symbols of a statement -/
noncomputable def stm (n : Int) : List Int := [256 + n.fmod 4, 7 + (n.fdiv 4).fmod 48] ++ if (n.fdiv 192).fmod 5 < 4 then [256 + (n.fdiv 192).fmod 5] else []
theorem k_statement (n : Int) (t : Tok) (X : Amb w mean mg mb s.heap) (hdep : A.depth < recursionLimit)
    (ret : ∀ l vs h' tk', s.heap.StaysIn h' → MadeList s.heap h' l vs → IntsAre vs (stm n) → Q (.ref l) { s with heap := h', toks := tk' }) :
    wpAny (model pw w) A (call (.ref 130) [.int n t]) Q E s := by
  walk_at "FILL"
  obtain ⟨KX, T⟩ := X
  refine' enterP [(Str.ofString "number", .int n t)] KX T hdep ?ho ?hcd ?hb ?hl ?c1 ?c2 ?c3 ?c4 (fun h₁ F N => ?_)
  walk_at "ENTER"
  (try dsimp only)
  k_fold
  k_steps
  all_goals (try k_unfold)
  all_goals (try dsimp only)
  · refine ret _ _ _ _ (Fr.keep (by assumption)) (made_of (by assumption) (by k_mem)) ?_
    unfold stm; rw [if_pos (by assumption)]
    exact .cons _ _ (.cons _ _ (.cons _ _ .nil))
  · refine ret _ _ _ _ (Fr.keep (by assumption)) (made_of (by assumption) (by k_mem)) ?_
    unfold stm; rw [if_neg (by assumption)]
    exact .cons _ _ (.cons _ _ .nil)

theorem k_octets1 (n : Int) (t : Tok) (hn : 0 ≤ n ∧ n < 64) (X : Amb w mean mg mb s.heap) (hdep : A.depth < recursionLimit) (hh : A.handled = none)
    (ret : ∀ l vs h' tk', s.heap.StaysIn h' → MadeList s.heap h' l vs → IntsAre vs [n] → Q (.ref l) { s with heap := h', toks := tk' }) :
    wpAny (model pw w) A (call (.ref 142) [.int n t]) Q E s := by
  walk_at "FILL"
  obtain ⟨KX, T⟩ := X
  have hd : n.fdiv 64 = 0 := by rw [Int.fdiv_eq_ediv_of_nonneg _ (by omega)]; omega
  have hm : n.fmod 64 = n := by rw [Int.fmod_eq_emod_of_nonneg _ (by omega)]; omega
  refine' enterP [(Str.ofString "number", .int n t)] KX T hdep ?ho ?hcd ?hb ?hl ?c1 ?c2 ?c3 ?c4 (fun h₁ F N => ?_)
  walk_at "ENTER"
  walk_at "SHOW"
  k_fold
  walk_at "STEPS"
  refine whileI (fun _ s₁ => s₁ = _) (fun k s₁ hs => ?_) 0 rfl
  subst hs
  walk_at "STEPS"
  exact ret _ _ _ _ (Fr.keep (by assumption)) (made_of (by assumption) (by k_mem)) (by rw [hm]; exact .cons _ _ .nil)
theorem k_octets2 (n : Int) (t : Tok) (hn : 256 ≤ n ∧ n < 260) (X : Amb w mean mg mb s.heap) (hdep : A.depth < recursionLimit) (hh : A.handled = none)
    (ret : ∀ l vs h' tk', s.heap.StaysIn h' → MadeList s.heap h' l vs → IntsAre vs [68, n - 256] → Q (.ref l) { s with heap := h', toks := tk' }) :
    wpAny (model pw w) A (call (.ref 142) [.int n t]) Q E s := by
  walk_at "FILL"
  obtain ⟨KX, T⟩ := X
  have hd : n.fdiv 64 = 4 := by rw [Int.fdiv_eq_ediv_of_nonneg _ (by omega)]; omega
  have hm : n.fmod 64 = n - 256 := by rw [Int.fmod_eq_emod_of_nonneg _ (by omega)]; omega
  refine' enterP [(Str.ofString "number", .int n t)] KX T hdep ?ho ?hcd ?hb ?hl ?c1 ?c2 ?c3 ?c4 (fun h₁ F N => ?_)
  walk_at "ENTER"
  walk_at "SHOW"
  k_fold
  walk_at "STEPS"
  refine whileI (OctI s n) (fun k s₁ hs => ?_) 1 ⟨_, _, _, _, _, _, _, _, rfl, by assumption, by assumption, rfl, rfl, .inl ⟨rfl, hd, by rw [hm]; exact .cons _ _ .nil⟩⟩
  obtain ⟨h, tk, l, m, ep, vs, x, t, rfl, F, N, h1, h2, hk⟩ := hs
  have F := fr2 F h1 h2
  rcases hk with ⟨rfl, rfl, hi⟩ | ⟨rfl, rfl, hi⟩
  · walk_at "SHOW"
    k_fold
    walk_at "STEPS"
    rename (IntsAre _ (_ ++ _)) => hw
    exact ⟨0, by omega, _, _, _, _, _, _, _, _, rfl, by assumption, cb_drop (by assumption) (by kcf_all), rfl, rfl, .inr ⟨rfl, by decide, hw⟩⟩
  · walk_at "SHOW"
    k_fold
    walk_at "STEPS"
    exact ret _ _ _ _ (Fr.keep (by assumption)) (made_of (by assumption) (by k_mem)) hi
end

end
section
theorem fmod_lt (a : Int) {b : Int} (h : 0 < b) : 0 ≤ a.fmod b ∧ a.fmod b < b := by
  rw [Int.fmod_eq_emod_of_nonneg _ (by omega)]
  exact ⟨Int.emod_nonneg _ (by omega), Int.emod_lt_of_pos _ h⟩
theorem stm_cases (n : Int) : ∃ a b, (256 ≤ a ∧ a ≤ 259) ∧ (7 ≤ b ∧ b ≤ 54) ∧ (stm n = [a, b] ∨ ∃ c, (256 ≤ c ∧ c ≤ 259) ∧ stm n = [a, b, c]) := by
  have h1 := fmod_lt n (show (0 : Int) < 4 by decide)
  have h2 := fmod_lt (n.fdiv 4) (show (0 : Int) < 48 by decide)
  have h3 := fmod_lt (n.fdiv 192) (show (0 : Int) < 5 by decide)
  refine ⟨256 + n.fmod 4, 7 + (n.fdiv 4).fmod 48, by omega, by omega, ?_⟩
  unfold stm
  split
  · exact .inr ⟨256 + (n.fdiv 192).fmod 5, by omega, rfl⟩
  · exact .inl rfl
theorem stm_sym (n : Int) : ∀ x ∈ stm n, IsSym x := by
  obtain ⟨a, b, ha, hb, h | ⟨c, hc, h⟩⟩ := stm_cases n <;> rw [h] <;> intro x hx <;> simp only [List.mem_cons, List.not_mem_nil, or_false] at hx
  · rcases hx with rfl | rfl
    · exact .inr ha
    · exact .inl hb
  · rcases hx with rfl | rfl | rfl
    · exact .inr ha
    · exact .inl hb
    · exact .inr hc
theorem stm_len (n : Int) : (stm n).length ≤ 3 := by
  obtain ⟨a, b, _, _, h | ⟨c, _, h⟩⟩ := stm_cases n <;> rw [h] <;> simp
theorem spell_stm (n : Int) : (spell (stm n)).length ≤ 5 ∧ ∀ c ∈ spell (stm n), c ∈ alpha := by
  obtain ⟨a, b, ha, hb, h⟩ := stm_cases n
  have fa := sg_facts (.inr ha)
  have fb := sg_facts (.inl hb)
  have na := sg_name ha
  rcases h with h | ⟨c, hc, h⟩
  · rw [h]
    simp only [spell, List.map_cons, List.map_nil, List.flatten_cons, List.flatten_nil, List.append_nil, List.length_append]
    refine ⟨by omega, fun c hc => ?_⟩
    rcases List.mem_append.mp hc with hc | hc
    · exact fa.2.2 c hc
    · exact fb.2.2 c hc
  · have fc := sg_facts (.inr hc)
    have nc := sg_name hc
    rw [h]
    simp only [spell, List.map_cons, List.map_nil, List.flatten_cons, List.flatten_nil, List.append_nil, List.length_append]
    refine ⟨by omega, fun c hc => ?_⟩
    rcases List.mem_append.mp hc with hc | hc
    · exact fa.2.2 c hc
    · rcases List.mem_append.mp hc with hc | hc
      · exact fb.2.2 c hc
      · exact fc.2.2 c hc
/-- the numbers that the octets tell, after i statements -/
noncomputable def numsTo (ns : List Int) (i : Nat) : List Int := ((ns.take i).map (fun n => stm n ++ [0])).flatten
noncomputable def spellTo (ns : List Int) (i : Nat) : List (List Nat) := (ns.take i).map (fun n => spell (stm n))
theorem numsTo_next {ns : List Int} {i : Nat} (h : i < ns.length) : numsTo ns (i + 1) = numsTo ns i ++ (stm (ns.getD i 0) ++ [0]) := by
  unfold numsTo
  rw [take_nextI h, List.map_append, List.flatten_append, List.getD_eq_getElem?_getD, List.getElem?_eq_getElem h]
  simp
theorem spellTo_next {ns : List Int} {i : Nat} (h : i < ns.length) : spellTo ns (i + 1) = spellTo ns i ++ [spell (stm (ns.getD i 0))] := by
  unfold spellTo
  rw [take_nextI h, List.map_append, List.getD_eq_getElem?_getD, List.getElem?_eq_getElem h]
  simp
theorem numsTo_sym (ns : List Int) (i : Nat) : ∀ x ∈ numsTo ns i, IsSym x ∨ x = 0 := by
  intro x hx
  obtain ⟨q, hq, hx⟩ := List.mem_flatten.mp hx
  obtain ⟨n, _, rfl⟩ := List.mem_map.mp hq
  rcases List.mem_append.mp hx with hx | hx
  · exact .inl (stm_sym n x hx)
  · exact .inr (List.mem_singleton.mp hx)
theorem numsTo_len (ns : List Int) : ∀ i, (numsTo ns i).length ≤ 4 * i
  | 0 => by simp [numsTo]
  | i + 1 => by
    have ih := numsTo_len ns i
    rcases Nat.lt_or_ge i ns.length with h | h
    · rw [numsTo_next h, List.length_append, List.length_append]
      have := stm_len (ns.getD i 0)
      simp only [List.length_singleton]
      omega
    · have e : numsTo ns (i + 1) = numsTo ns i := by
        unfold numsTo
        rw [List.take_of_length_le h, List.take_of_length_le (by omega)]
      rw [e]; omega
theorem spellTo_len {ns : List Int} {i : Nat} (h : i ≤ ns.length) : (spellTo ns i).length = i := by
  unfold spellTo
  rw [List.length_map, List.length_take]; omega
theorem rd_syms (acc : List (List Nat)) : ∀ (q : List Int) (t : List Nat), (∀ x ∈ q, x ≠ 0) → q.foldl rdStep (acc, t) = (acc, t ++ spell q)
  | [], t, _ => by simp [spell]
  | x :: q, t, h => by
    rw [List.foldl_cons]
    have hx := h x List.mem_cons_self
    have e : rdStep (acc, t) x = (acc, t ++ sg x) := if_neg hx
    rw [e, rd_syms acc q (t ++ sg x) fun y hy => h y (List.mem_cons_of_mem _ hy)]
    simp [spell]
theorem rd_rows : ∀ (qs : List (List Int)) (acc : List (List Nat)), (∀ q ∈ qs, ∀ x ∈ q, x ≠ 0) → ((qs.map (fun q => q ++ [0])).flatten).foldl rdStep (acc, []) = (acc ++ qs.map spell, [])
  | [], acc, _ => by simp
  | q :: qs, acc, h => by
    rw [List.map_cons, List.flatten_cons, List.foldl_append, List.foldl_append, rd_syms acc q [] (h q List.mem_cons_self)]
    have e : [0].foldl rdStep (acc, [] ++ spell q) = (acc ++ [spell q], []) := rfl
    rw [e, rd_rows qs _ fun q' hq' => h q' (List.mem_cons_of_mem _ hq')]
    simp
/-- the statements are as they were -/
theorem rd_nums (ns : List Int) (i : Nat) : ((numsTo ns i).foldl rdStep ([], [])).1 = spellTo ns i := by
  have e : numsTo ns i = (((ns.take i).map stm).map (fun q => q ++ [0])).flatten := by
    unfold numsTo; rw [List.map_map]; rfl
  rw [e, rd_rows _ [] fun q hq x hx => ?_]
  · unfold spellTo
    rw [List.nil_append, List.map_map]; rfl
  · obtain ⟨n, _, rfl⟩ := List.mem_map.mp hq
    rcases stm_sym n x hx with h | h <;> omega
theorem spellTo_facts (ns : List Int) (i j : Nat) : ((spellTo ns i).getD j []).length ≤ 5 ∧ ∀ c ∈ (spellTo ns i).getD j [], c ∈ alpha := by
  rw [List.getD_eq_getElem?_getD]
  cases e : (spellTo ns i)[j]? with
  | none => exact ⟨by simp, fun c hc => by simp at hc⟩
  | some q =>
    have hm := List.mem_of_getElem? e
    obtain ⟨n, _, rfl⟩ := List.mem_map.mp hm
    exact spell_stm n
theorem octs_next {pre q : List Int} {k : Nat} (h : k < q.length) : ((pre ++ q.take (k + 1)).map octI).flatten = ((pre ++ q.take k).map octI).flatten ++ octI (q.getD k 0) := by
  rw [take_nextI h, ← List.append_assoc, List.map_append, List.flatten_append, List.getD_eq_getElem?_getD, List.getElem?_eq_getElem h]
  simp
theorem stm0_sym {n y : Int} {k : Nat} (h : k < (stm n ++ [0]).length) (e : (stm n ++ [0]).getD k 0 = y) : (0 ≤ y ∧ y < 64) ∨ (256 ≤ y ∧ y < 260) := by
  have hm : y ∈ stm n ++ [0] := by
    rw [← e, List.getD_eq_getElem?_getD, List.getElem?_eq_getElem h]
    exact List.getElem_mem h
  rcases List.mem_append.mp hm with hm | hm
  · rcases stm_sym n y hm with h | h <;> omega
  · rw [List.mem_singleton.mp hm]; omega
theorem alpha_ok : ∀ c ∈ alpha, c < 0x110000 := by decide
theorem tx_ok {l : List Nat} (h : ∀ c ∈ l, c ∈ alpha) : PyData.strOk (tx l) = true := by
  unfold PyData.strOk tx
  rw [Array.all_eq_true_iff_forall_mem]
  intro c hc
  have hc' : c ∈ l := by simpa using hc
  exact decide_eq_true (alpha_ok c (h c hc'))
theorem spellTo_ok (ns : List Int) (i : Nat) : ∀ t ∈ (spellTo ns i).map tx, PyData.strOk t = true := by
  intro t ht
  obtain ⟨q, hq, rfl⟩ := List.mem_map.mp ht
  obtain ⟨n, _, rfl⟩ := List.mem_map.mp hq
  exact tx_ok (spell_stm n).2

end
section
/-- the weights of the texts ts; the distances of their ties -/
noncomputable def wt (ts : List (List Nat)) (i j : Nat) : Int := 64 ^ ed (ts.getD i []) (ts.getD j [])
noncomputable def dst (ts : List (List Nat)) (k : Nat) : Nat := ed (ts.getD (endA k) []) (ts.getD (endB k) [])
theorem wt_symm (ts : List (List Nat)) (i j : Nat) : wt ts i j = wt ts j i := by
  unfold wt; rw [ed_symm]
theorem ed_ten {a b : List Nat} (ha : a.length ≤ 5) (hb : b.length ≤ 5) : ed a b ≤ 10 := by
  have := ed_le a b
  omega
theorem wt_bound {ts : List (List Nat)} (h : ∀ i, (ts.getD i []).length ≤ 5) (i j : Nat) : 0 ≤ wt ts i j ∧ wt ts i j ≤ 2 ^ 60 := by
  have h10 := ed_ten (h i) (h j)
  unfold wt
  generalize ed (ts.getD i []) (ts.getD j []) = e at *
  have key : ∀ e, e ≤ 10 → (0 : Int) ≤ 64 ^ e ∧ (64 : Int) ^ e ≤ 2 ^ 60 := by decide +kernel
  exact key e h10
theorem dst_ten {ts : List (List Nat)} (h : ∀ i, (ts.getD i []).length ≤ 5) (k : Nat) : dst ts k ≤ 10 := ed_ten (h _) (h _)
theorem wt_dst (ts : List (List Nat)) (k : Nat) : wt ts (endA k) (endB k) = 64 ^ dst ts k := rfl
theorem cellTo_bound {f : Nat → Nat → Int} (h : ∀ i j, 0 ≤ f i j ∧ f i j ≤ 2 ^ 60) (a : Nat) : ∀ k : Nat, 0 ≤ cellTo f a k ∧ cellTo f a k ≤ (k : Int) * 2 ^ 60
  | 0 => by simp [cellTo]
  | k + 1 => by
    have ih := cellTo_bound h a k
    have hk := h a k
    unfold cellTo
    split <;> omega
theorem cof_bound {f : Nat → Nat → Int} (h : ∀ i j, 0 ≤ f i j ∧ f i j ≤ 2 ^ 60) (nr nc : List Int) (i j : Nat) : (cof f nr nc i j).natAbs < 2 ^ 63 := by
  unfold cof cellAt
  split
  · have := cellTo_bound h ((leftTo nr 4).getD i 0) 4
    omega
  · have := h ((leftTo nr 4).getD i 0) ((leftTo nc 4).getD j 0)
    omega
theorem left_one : ∀ r : Nat, r < 4 → (leftTo [(r : Int)] 4).length = 3 := by decide
theorem left_two : ∀ k : Nat, k < 6 → (leftTo [((endA k : Nat) : Int), ((endB k : Nat) : Int)] 4).length = 2 := by decide
theorem ends_lt : ∀ k : Nat, k < 6 → endA k < 4 ∧ endB k < 4 := by decide
theorem trees_are {ts : List (List Nat)} (h : ∀ i, (ts.getD i []).length ≤ 5) {r c : Nat} (hr : r < 4) (hc : c < 4) :
    (if (r + c) % 2 = 1 then -(det 3 (cof (wt ts) [(r : Int)] [(c : Int)])) else det 3 (cof (wt ts) [(r : Int)] [(c : Int)])) = ((numOf (dst ts) 6 : Nat) : Int) := by
  rw [kirchhoff (wt ts) (wt_symm ts) r c hr hc, numOf_six (dst ts) fun k _ => dst_ten h k]
  rfl
theorem held_is {ts : List (List Nat)} (h : ∀ i, (ts.getD i []).length ≤ 5) {k : Nat} (hk : k < 6) :
    wt ts (endA k) (endB k) * det 2 (cof (wt ts) [((endA k : Nat) : Int), ((endB k : Nat) : Int)] [((endA k : Nat) : Int), ((endB k : Nat) : Int)]) = ((numOf (dst ts) k : Nat) : Int) := by
  rw [numOf_tie (dst ts) (fun k _ => dst_ten h k) k]
  exact held (wt ts) (wt_symm ts) (dst ts) (fun k _ => wt_dst ts k) k hk
theorem dig_num (d : Nat → Nat) (k t : Nat) (ht : t < 31) : dig (numOf d k) t = (tots d k).count t := by
  rw [← numOf_dig d k t ht]
  rfl
theorem flags_some {d : Nat → Nat} (hd : ∀ k, k < 6 → d k ≤ 10) : flagsTo (numOf d 6) 31 ≠ 0 := by
  obtain ⟨t, ht, hc⟩ := six_some d hd
  exact flagsTo_zero _ ht (by rw [dig_num d 6 t ht]; exact hc)
theorem words_same (d : Nat → Nat) : ((List.range 31).filter fun k => decide (dig (numOf d 6) k ≠ 0)) = posTo ((List.range 31).map fun t => ((tots d 6).count t : Int)) 31 := by
  unfold posTo
  refine List.filter_congr fun k hk => ?_
  have hk' := List.mem_range.mp hk
  rw [dig_num d 6 k hk', rowInts_getD (fun t => ((tots d 6).count t : Int)) hk']
  simp only [decide_eq_decide]
  omega

end
section
theorem tie_row (d : Nat → Nat) (j : Nat) : (List.range 3).map (tieOf d j) = [((endA j : Nat) : Int), ((endB j : Nat) : Int), ((d j : Nat) : Int)] := rfl
section
variable {prog : Program} {w : World} {A : Around} {E : Value → Shared → Prop} {s : Shared} {h₀ : Heap} {L l : Addr} {m : Str → Option Value} {n c : Nat} {f : Nat → Nat → Int} {k : Int} {j : Nat} {u : Tok} {value slice : PySem.Expr} {ops : List Value} {Q : Value → Shared → Prop} {R news : List (Addr × Obj)} {vs : List Value}
theorem item_rowP (F : Fr h₀ L s.heap m) (N : News h₀ L s.heap news) (G : GridP h₀ L R l n c f) (hs : ∀ p ∈ R, p ∈ news) (h0 : 0 ≤ k) (hj : k.toNat = j) (h1 : j < n) (h2 : k < 2 ^ 63)
    (h : ∀ r vs, ListP h₀ L R r vs → IntsAre vs ((List.range c).map (f j)) → Q (.ref r) s)
    (he : subscripted slice false (.ref l) (.int k u) = operate ops (getItem (.ref l) (.int k u))) : wpAny (model prog w) A (subscriptTail value slice (.ref l) (.int k u)) Q E s := by
  subst hj
  exact item_gridP F N G hs h0 (by omega) h2 (fun r vs a b _ => h r vs a b) he
theorem item_tieP {d : Nat → Nat} (F : Fr h₀ L s.heap m) (N : News h₀ L s.heap news) (G : GridP h₀ L R l 6 3 (tieOf d)) (hs : ∀ p ∈ R, p ∈ news) (h0 : 0 ≤ k) (hj : k.toNat = j) (h1 : j < 6) (h2 : k < 2 ^ 63)
    (h : ∀ r vs, ListP h₀ L R r vs → IntsAre vs [((endA j : Nat) : Int), ((endB j : Nat) : Int), ((d j : Nat) : Int)] → Q (.ref r) s)
    (he : subscripted slice false (.ref l) (.int k u) = operate ops (getItem (.ref l) (.int k u))) : wpAny (model prog w) A (subscriptTail value slice (.ref l) (.int k u)) Q E s :=
  item_rowP F N G hs h0 hj h1 h2 (fun r vs a b => h r vs a (tie_row d j ▸ b)) he
theorem item_cellP {g : Nat → Int} (F : Fr h₀ L s.heap m) (N : News h₀ L s.heap news) (G : ListP h₀ L R l vs) (hs : ∀ p ∈ R, p ∈ news) (hi : IntsAre vs ((List.range c).map g)) (h0 : 0 ≤ k) (hj : k.toNat = j) (h1 : j < c) (h2 : k < 2 ^ 63)
    (h : ∀ t, Q (.int (g j) t) s)
    (he : subscripted slice false (.ref l) (.int k u) = operate ops (getItem (.ref l) (.int k u))) : wpAny (model prog w) A (subscriptTail value slice (.ref l) (.int k u)) Q E s := by
  subst hj
  refine item_listP F N G hs hi h0 (by rw [rowInts_len]; omega) h2 (fun t => ?_) he
  rw [rowInts_getD g h1]
  exact h t
theorem item_two0 {x y : Int} {e : Nat} (N : News h₀ L s.heap news) (hm : (l, listOf (List.toArray vs) e) ∈ news) (hi : IntsAre vs [x, y])
    (h : ∀ t, Q (.int x t) s)
    (he : subscripted slice false (.ref l) (.int 0 u) = operate ops (getItem (.ref l) (.int 0 u))) : wpAny (model prog w) A (subscriptTail value slice (.ref l) (.int 0 u)) Q E s := by
  have hls : s.heap.IsList l (List.toArray vs) := ⟨_, (N _ hm).1, rfl, _, rfl⟩
  obtain ⟨t, ht⟩ := ints_getD hi (i := 0) (Nat.succ_pos _)
  exact tail_any hls.typeIs slot_list_getitem.lookup (wpAny_getItem_list hls (by decide) (by decide) (by rw [List.getElem?_toArray]; exact ht) (h t)) he
theorem item_two1 {x y : Int} {e : Nat} (N : News h₀ L s.heap news) (hm : (l, listOf (List.toArray vs) e) ∈ news) (hi : IntsAre vs [x, y])
    (h : ∀ t, Q (.int y t) s)
    (he : subscripted slice false (.ref l) (.int 1 u) = operate ops (getItem (.ref l) (.int 1 u))) : wpAny (model prog w) A (subscriptTail value slice (.ref l) (.int 1 u)) Q E s := by
  have hls : s.heap.IsList l (List.toArray vs) := ⟨_, (N _ hm).1, rfl, _, rfl⟩
  obtain ⟨t, ht⟩ := ints_getD hi (i := 1) (Nat.le_refl _)
  exact tail_any hls.typeIs slot_list_getitem.lookup (wpAny_getItem_list hls (by decide) (by decide) (by rw [List.getElem?_toArray]; exact ht) (h t)) he
end

end
section
inductive Phase : Nat → Prop
  | mk (n : Nat) : Phase n
inductive LwO (ns : List Int) (c n O S : Addr) (oc : Obj) (N₀ : List (Addr × Obj)) (i : Nat) (m : Str → Option Value) (news : List (Addr × Obj)) : Prop
  | mk (os sps eo es : _) (h0 : news = (O, listOf (List.toArray os) eo) :: (S, listOf (List.toArray sps) es) :: (c, oc) :: N₀) (h1 : IntsAre os ((numsTo ns i).map octI).flatten) (h2 : StrsAre sps ((spellTo ns i).map tx)) (h3 : sps.length = i) (h4 : os.length ≤ 8 * i) (h5 : m (Str.ofString "numbers") = some (.ref n)) (h6 : m (Str.ofString "octets") = some (.ref O))
inductive LwI (pre q : List Int) (n O : Addr) (N₁ : List (Addr × Obj)) (b : Nat) (k : Nat) (m : Str → Option Value) (news : List (Addr × Obj)) : Prop
  | mk (os eo : _) (h0 : news = (O, listOf (List.toArray os) eo) :: N₁) (h1 : IntsAre os ((pre ++ q.take k).map octI).flatten) (h2 : os.length ≤ b + 2 * k) (h3 : m (Str.ofString "numbers") = some (.ref n)) (h4 : m (Str.ofString "octets") = some (.ref O))
inductive NmI (ns : List Int) (N₀ : List (Addr × Obj)) (i : Nat) (ys : List Value) (nw : List (Addr × Obj)) : Prop
  | mk (h0 : nw = N₀) (h1 : IntsAre ys ((ns.take i).map (fun x => x.fmod 1000000)))
/-- behind the loop that makes octets and spelled texts -/
inductive LawB (s : Shared) (f : Flow) (s₁ : Shared) : Prop
  | mk (h0 : f = .next) (h tk m n O S oc vn ns os sps eo es : _) (h1 : s₁ = { s with heap := h, toks := tk }) (h2 : Fr s.heap s.heap.objs.size h m) (h3 : News s.heap s.heap.objs.size h [(O, listOf (List.toArray os) eo), (S, listOf (List.toArray sps) es), (s.heap.objs.size + 1, oc), (n, listOf (List.toArray vn) 0)]) (h4 : oc.data = .cell (some (.ref S))) (h5 : IntsAre vn ns) (h6 : ns.length = 5) (h7 : (∀ x ∈ ns, 0 ≤ x ∧ x < 1000000)) (h8 : IntsAre os ((numsTo ns 4).map octI).flatten) (h9 : StrsAre sps ((spellTo ns 4).map tx)) (h10 : m (Str.ofString "numbers") = some (.ref n)) (h11 : m (Str.ofString "octets") = some (.ref O))
noncomputable def offs (i : Nat) : Nat := [0, 3, 5, 6, 6].getD i 0
inductive TieI (ts : List (List Nat)) (c : Addr) (oc : Obj) (R : List (Addr × Obj)) (i k : Nat) (ys : List Value) (nw : List (Addr × Obj)) : Prop
  | mk (as : List Addr) (rest : List (Addr × Obj)) (h0 : ys = as.map Value.ref) (h1 : nw = (c, oc) :: rest) (h2 : (∀ p ∈ R, p ∈ rest)) (h3 : as.length = offs i + k) (h4 : i ≤ 4) (h5 : k ≤ 3) (h6 : ∀ j, j < offs i + k → ∃ vs e, (as.getD j 0, listOf (List.toArray vs) e) ∈ rest ∧ IntsAre vs ((List.range 3).map (tieOf (fun k => ed (ts.getD (endA k) []) (ts.getD (endB k) [])) j)))
theorem len40 {l i k n : Nat} (h : l ≤ 8 * i + 2 * k) (hi : i < 4) (hk : k < n) (hn : n ≤ 4) : l ≤ 40 := by omega
theorem len_one {l b k : Nat} (h : l ≤ b + 2 * k) : l + (0 + 1) ≤ b + 2 * (k + 1) := by omega
theorem len_two {l b k : Nat} (h : l ≤ b + 2 * k) : l + (0 + 1 + 1) ≤ b + 2 * (k + 1) := by omega
theorem len_end {l i n : Nat} (h : l ≤ 8 * i + 2 * n) (hn : n ≤ 4) : l ≤ 8 * (i + 1) := by omega
theorem tie_k {i k : Nat} (h : k < 3 - i) : k < 3 ∧ k + 1 ≤ 3 ∧ i + 1 + k < 4 ∧ 0 ≤ (i : Int) + 1 + (k : Int) ∧ (i : Int) + 1 + (k : Int) < ((4 : Nat) : Int) ∧ (i : Int) + 1 + (k : Int) < 2 ^ 63 ∧ ((i : Int) + 1 + (k : Int)).toNat = i + 1 + k := by omega
theorem offs_next : ∀ i, i < 4 → offs i + (3 - i) = offs (i + 1) := by decide
theorem offs_le : ∀ i, i < 5 → offs i ≤ 6 := by decide
theorem fm4 {x : Int} (h : 0 ≤ x ∧ x < 4) : ∃ r : Nat, r < 4 ∧ x = (r : Int) := ⟨x.toNat, by omega, by omega⟩
theorem odd_rc {r c : Nat} (h : ((r : Int) + (c : Int)).fmod 2 = 1) : (r + c) % 2 = 1 := by
  rw [Int.fmod_eq_emod_of_nonneg _ (by decide)] at h; omega
theorem even_rc {r c : Nat} (h : ((r : Int) + (c : Int)).fmod 2 ≠ 1) : ¬ (r + c) % 2 = 1 := by
  rw [Int.fmod_eq_emod_of_nonneg _ (by decide)] at h; omega
theorem tie_at : ∀ i < 4, ∀ k < 3, k < 3 - i → endA (offs i + k) = i ∧ endB (offs i + k) = i + 1 + k := by decide
inductive JoinP (s : Shared) (DD CC WW : Addr) (RF : List (Addr × Obj)) (V : Int) (f : Flow) (s₁ : Shared) : Prop
  | mk (h0 : f = .next) (h tk m t : _) (h1 : s₁ = { s with heap := h, toks := tk }) (h2 : Fr s.heap s.heap.objs.size h m) (h3 : News s.heap s.heap.objs.size h RF) (h4 : m (Str.ofString "ties") = some (.ref DD)) (h5 : m (Str.ofString "counts") = some (.ref CC)) (h6 : m (Str.ofString "weights") = some (.ref WW)) (h7 : m (Str.ofString "trees") = some (.int V t))
inductive LkJ (DD CC WW : Addr) (R : List (Addr × Obj)) (V : Int) (_ : Nat) (m : Str → Option Value) (news : List (Addr × Obj)) : Prop
  | mk (h0 : news = R) (t : _) (h1 : m (Str.ofString "ties") = some (.ref DD)) (h2 : m (Str.ofString "counts") = some (.ref CC)) (h3 : m (Str.ofString "weights") = some (.ref WW)) (h4 : m (Str.ofString "trees") = some (.int V t))
local macro_rules | `(tactic| walk_at "PH1") => `(tactic| (fail_if_success (fail_if_success (with_reducible (have hph : Phase 1 := (by assumption))))))
local macro_rules | `(tactic| walk_at "PH2") => `(tactic| (fail_if_success (fail_if_success (with_reducible (have hph : Phase 2 := (by assumption))))))
local macro_rules | `(tactic| walk_at "PH3") => `(tactic| (fail_if_success (fail_if_success (with_reducible (have hph : Phase 3 := (by assumption))))))
local macro_rules | `(tactic| walk_at "call builtin:len") => `(tactic| (k_here; walk_at "PH1"; (with_reducible show wpAny _ _ (call (Value.builtin "len") [Value.ref _]) _ _ _); k_dflt (refine' len_led (by k_asm) (by exact List.mem_cons_of_mem _ List.mem_cons_self) (by assumption) (by omega) ?_); intro t' k'))
local macro_rules | `(tactic| walk_at "subscriptTail Name Slice ref ref") => `(tactic| (k_here; walk_at "PH1"; walk_at "CUT?"; k_dflt (first
  | (refine' cut_led_from (by exact rfl) (by exact rfl) (by k_asm) (by k_asm) (by k_mem) (by omega) (by first | omega | exact Nat.le_of_ble_eq_true rfl) ?_ (by with_unfolding_all rfl) (by intro _; with_unfolding_all rfl))
  | (refine' cut_led_to (by exact rfl) (by exact rfl) (by k_asm) (by k_asm) (by k_mem) (by omega) (by first | omega | exact Nat.le_of_ble_eq_true rfl) ?_ (by with_unfolding_all rfl) (by intro _; with_unfolding_all rfl))); intro D' h' F' N' l1; (try k_lt l1); (try k_sweep)))
local macro_rules | `(tactic| walk_at "binaryOp Add ref ref") => `(tactic| (k_here; walk_at "PH1"; (with_reducible show wpAny _ _ (binaryOp _ (Value.ref _) (Value.ref _)) _ _ _); k_dflt (refine' kmk_add_ints (by k_asm) (by k_asm) (by exact News.isList (by k_asm) (by k_mem)) (by exact News.isList (by k_asm) (by k_mem)) (by assumption) (by first | assumption | exact IntsAre.drop (.cons _ _ (.cons _ _ (.cons _ _ (.cons _ _ (.cons _ _ .nil))))) _ | exact .cons _ _ .nil) ?_ (by simp only [List.length_drop, List.length_cons, List.length_nil, sizeLine_eq]; omega)); intro D' ws' h' F' N' l1 hI'; (try k_lt l1); (try k_sweep)))
local macro_rules | `(tactic| walk_at "STEPST") => `(tactic| repeat' ((fail_if_success (with_reducible show wpAny _ _ (call (Value.ref 147) _) _ _ _)); walk_at "STEP1"))
local macro_rules | `(tactic| walk_at "SPL") => `(tactic| (rename_i hlast; obtain ⟨h1, h2⟩ := hlast; try walk_at "SPL"))
local macro_rules | `(tactic| walk_at "BACKM") => `(tactic| ((rename (MadeList _ _ _ _) => hM'); (rename (Heap.StaysIn _ _) => hk'); (have F' := Fr.keeps (by assumption) hk'); (obtain ⟨c', N', ne'⟩ := MadeList.row hM' (by assumption) (by assumption) hk'); (clear hM' hk'); (simp only [List.forall_mem_cons, List.not_mem_nil, false_implies, implies_true, and_true] at ne'); (try walk_at "SPL"); (try k_sweep); (try dsimp only)))
local macro_rules | `(tactic| k_all) => `(tactic| (walk_at "PH1"; assumption))
local macro_rules | `(tactic| walk_at "call builtin:list.extend") => `(tactic| (k_here; walk_at "PH1"; (with_reducible show wpAny _ _ (call (Value.builtin _) [Value.ref _, Value.ref _]) _ _ _); k_dflt (refine' ext_list (by k_asm) (by k_asm) (by exact List.mem_cons_self) (by assumption) (by exact Nat.succ_ne_zero _) (by k_upd) (by ((try simp only [List.length_cons, List.length_nil]); omega)) ?_); intro h' F' N'; (try dsimp only at N'); (try k_sweep)))
local macro_rules | `(tactic| walk_at "call ref") => `(tactic| (k_here; walk_at "PH1"; k_dflt (first
  | (refine' k_statement _ _ (by walk_at "AMB") (by walk_at "DEP") ?_; intro l' vs' h' tk' hk' hM' hI'; walk_at "BACKM")
  | (refine' k_octets1 _ _ (by assumption) (by walk_at "AMB") (by walk_at "DEP") (by with_unfolding_all assumption) ?_; intro l' vs' h' tk' hk' hM' hI'; walk_at "BACKM")
  | (refine' k_octets2 _ _ (by assumption) (by walk_at "AMB") (by walk_at "DEP") (by with_unfolding_all assumption) ?_; intro l' vs' h' tk' hk' hM' hI'; walk_at "BACKM")
  | (refine' c_spelled _ _ _ (by exact News.isList (by k_asm) (by k_mem)) (by assumption) (by walk_at "AMB") (by walk_at "DEP") (by with_unfolding_all assumption) (by assumption) (by assumption) ?_; intro t' h' tk' hk'; walk_at "BACK"))))
local macro_rules | `(tactic| walk_at "SUB") => `(tactic| first | exact fun _ h => h | assumption | (intro p hp; refine List.mem_cons_of_mem _ ?_; revert hp; revert p; walk_at "SUB"))
local macro_rules | `(tactic| walk_at "IT2") => `(tactic| (k_here; walk_at "PH2"; walk_at "ITEM?"; k_dflt (first
  | (refine' item_textP (by k_asm) (by k_asm) (by assumption) (by walk_at "SUB") (by assumption) (by omega) (by (rw [spellTo_len (by omega)]; omega)) (by omega) ?_ (by with_unfolding_all rfl); intro t'))))
local macro_rules | `(tactic| walk_at "subscriptTail") => `(tactic| walk_at "IT2")
local macro_rules | `(tactic| walk_at "subscriptTail Name Name ref int") => `(tactic| walk_at "IT2")
local macro_rules | `(tactic| walk_at "call ref") => `(tactic| (k_here; walk_at "PH2"; k_dflt (first
  | (refine' c_distance _ _ _ _ (by exact (spellTo_facts _ _ _).2) (by exact (spellTo_facts _ _ _).2) (by exact (spellTo_facts _ _ _).1) (by exact (spellTo_facts _ _ _).1) (by walk_at "AMB") (by walk_at "DEP") (by with_unfolding_all assumption) ?_; intro t' h' tk' hk'; walk_at "BACK"))))
local macro_rules | `(tactic| walk_at "compareOp NotEq ref ref") => `(tactic| (k_here; walk_at "PH2"; (with_reducible show wpAny _ _ (compareOp CmpOp.NotEq (Value.ref _) (Value.ref _)) _ _ _); k_dflt (refine' ne_texts (by exact ListP.now (by assumption) (by k_asm) (by k_asm) (by walk_at "SUB")) (by exact ListP.now (by assumption) (by k_asm) (by k_asm) (by walk_at "SUB")) (by assumption) (by assumption) (by exact spellTo_ok _ _) (by (simp only [units_deeper]; omega)) ?_)))
local macro_rules | `(tactic| walk_at "STEPSI") => `(tactic| repeat' ((fail_if_success (with_reducible show wpAny _ _ (exec (Stmt.If (Expr.Compare (Expr.BinOp _ _ _ _) _ _ _) _ _ _) _) _ _ _)); walk_at "STEP1"))
local macro_rules | `(tactic| walk_at "STEPSC") => `(tactic| repeat' ((fail_if_success (with_reducible show wpAny _ _ (call (Value.ref _) _) _ _ _)); walk_at "STEP1"))
local macro_rules | `(tactic| walk_at "IT3") => `(tactic| (k_here; walk_at "PH3"; walk_at "ITEM?"; k_dflt (first
  | (refine' item_gridP (by k_asm) (by k_asm) (by assumption) (by walk_at "SUB") (by omega) (by omega) (by omega) ?_ (by with_unfolding_all rfl); intro r' vs' hr' hi' hl')
  | (refine' item_listP (by k_asm) (by k_asm) (by assumption) (by walk_at "SUB") (by assumption) (by omega) (by omega) (by omega) ?_ (by with_unfolding_all rfl); intro t'))))
local macro_rules | `(tactic| walk_at "subscriptTail") => `(tactic| walk_at "IT3")
local macro_rules | `(tactic| walk_at "subscriptTail Name Name ref int") => `(tactic| walk_at "IT3")
local macro_rules | `(tactic| walk_at "subscriptTail ref int") => `(tactic| walk_at "IT3")
local macro_rules | `(tactic| walk_at "STEPSS") => `(tactic| repeat' ((fail_if_success (with_reducible show wpAny _ _ (call (Value.ref _) _) _ _ _)); (fail_if_success (with_reducible show wpAny _ _ (subscriptTail _ _ _ _) _ _ _)); walk_at "STEP1"))
section
variable {w : World} {mean : ExcName → Option Value} {mg mb : Str → Option Value} {A : Around} {s : Shared} {Q E : Value → Shared → Prop}
theorem c_law (l : Addr) (vs : List Value) (xs : List Int) (hl : s.heap.IsList l vs.toArray) (hi : IntsAre vs xs) (hlen : xs.length ≤ 63) (X : Amb w mean mg mb s.heap) (hA : A.frames = some []) (hdep : A.depth + 8 < recursionLimit) (hh : A.handled = none) (hu : A.units + 200 < cLine)
    (ret : ∀ h' tk', s.heap.StaysIn h' → Q (.bool true) { s with heap := h', toks := tk' }) :
    wpAny (model pw w) A (call (.ref 203) [.ref l]) Q E s := by
  walk_at "FILL"
  have ph1 : Phase 1 := Phase.mk 1
  have KX := X.kx
  have T := X.top
  refine' enterC [(Str.ofString "script", .ref l)] KX T (by omega) ?ho ?hcd ?hb ?hkd ?hnd ?c1 ?c2 ?c3 (fun h₁ tk cells F N Y => ?_)
  walk_at "ENTERC"
  k_cells Y
  walk_at "SHOW"
  k_fold
  walk_at "STEPS"
  walk_at "ACOMP"
  walk_at "STEPS"
  rename (News _ _ _ _) => NN
  rename (IntsAre _ (List.take _ _)) => hI5
  rename List Value => ws
  rename Addr => D1
  rename Obj => oc
  have hwl := hI5.length
  have hw5 : (List.take 5 xs).length ≤ 5 := by rw [List.length_take]; omega
  refine LCg.CompSrc.ledger hh (by k_asm) (by k_asm) (by k_mem) (by rw [List.size_toArray, sizeLine_eq]; omega) ?_
  intro g'
  refine compI (NmI (List.take 5 xs) [(D1, listOf (List.toArray ws) 0), (s.heap.objs.size + 1, oc)]) ?t ⟨rfl, .nil⟩ ?f
  case t =>
    rintro i v I oI C oC D m₂ ys nw h tk E' hi' hv ⟨rfl, hys⟩ hC hx F N off ne
    simp only [LCg.Off3] at off
    rw [List.size_toArray, hwl] at hi'
    obtain ⟨tv, ht⟩ := ints_getD hI5 hi'
    rw [List.getElem?_toArray, ht] at hv
    cases hv
    walk_at "SHOW"
    k_fold
    walk_at "STEPS"
    refine ⟨rfl, ?_⟩
    generalize List.take 5 xs = x5 at *
    rw [List.take_add_one, List.map_append]
    refine hys.append ?_
    rw [List.getElem?_eq_getElem hi', List.getD_eq_getElem?_getD, List.getElem?_eq_getElem hi']
    exact .cons _ _ .nil
  case f =>
    rintro ys nw ⟨rfl, hys⟩
    obtain ⟨ms, hms, hml, hmb⟩ : ∃ ms, IntsAre ys ms ∧ ms.length ≤ 5 ∧ ∀ n ∈ ms, 0 ≤ n ∧ n < 1000000 := by
      refine ⟨_, hys, by rw [List.length_map, List.length_take]; omega, fun n hn => ?_⟩
      obtain ⟨x, _, rfl⟩ := List.mem_map.mp hn
      have h1 := Int.fmod_eq_emod_of_nonneg x (show (0 : Int) ≤ 1000000 by decide)
      omega
    clear hys
    have hyl := hms.length
    walk_at "STEPS"
    obtain ⟨ns, hns⟩ : ∃ ns, ns = ms ++ List.drop (ms.length : Int).toNat [916, 857, 106, 636, 9] := ⟨_, rfl⟩
    have hnl : ns.length = 5 := by rw [hns, List.length_append, List.length_drop, Int.toNat_natCast]; simp; omega
    have hnb : ∀ n ∈ ns, 0 ≤ n ∧ n < 1000000 := fun n hn => by
      rw [hns] at hn
      rcases List.mem_append.mp hn with hn | hn
      · exact hmb n hn
      · have h5 : n ∈ [(916 : Int), 857, 106, 636, 9] := List.mem_of_mem_drop hn
        simp at h5
        omega
    rename (IntsAre _ (ms ++ _)) => hnv
    rw [← hns] at hnv
    rename List Value => vn
    have hvl := hnv.length
    rename Obj => oc
    rename (Obj.data oc = _) => hdc
    rename (News _ _ _ _) => NN
    rename_i n9 _ l9 _ _ O9 _ l8 _ _ S9 _ l7 _ _
    refine wpAny_mono (Q := LawB s) (forJ s.heap (by rfl) (by rfl) ?_) (fun f s₁ hf => ?_) (fun _ _ x => x)
    ·
      walk_at "STEPS"
      rename (_ < _ ∧ _ < _ ∧ _ < _ ∧ _) => hlt4
      rename Addr => R9
      have hI4 : IntsAre (vn.take (Int.toNat 4)) (List.take 4 ns) := hnv.take 4
      generalize vn.take (Int.toNat 4) = ws4 at *
      have hl4 : (List.take 4 ns).length = 4 := by rw [List.length_take, hnl]; rfl
      have hwl4 := hI4.length
      rename (News _ _ _ _) => N4
      rename (Fr _ _ _ _) => F4
      refine iter_led hh (l := R9) (items := List.toArray ws4) (ep := 0) (hl := ?hm) F4 N4 (fun it h' hit F N hoff => ?_)
      case hm => exact List.mem_cons_self
      refine ⟨LwO ns (s.heap.objs.size + 1) n9 O9 S9 oc [(R9, listOf (List.toArray ws4) 0), (n9, listOf (List.toArray vn) 0)], _, _, _, _, [(O9, listOf #[] 0), (S9, listOf #[] 0), (s.heap.objs.size + 1, oc), (R9, listOf (List.toArray ws4) 0), (n9, listOf (List.toArray vn) 0)], hit, F, cb_drop N (by kcf_all), ?_, ?_, ⟨[], [], _, _, rfl, .nil, .nil, rfl, by simp, rfl, rfl⟩, ?_, ?_⟩
      · exact fun I e p hp => hoff I e p (by first | (revert hp; revert p; kcf_all) | (simp only [List.mem_cons] at hp ⊢; grind))
      · first | kcf_all | exact fun p hp => by simp only [List.mem_cons] at hp ⊢; grind
      · rintro i v m₁ news₁ h₁ tk I oI hi' hP ⟨os, sps, eo, es, rfl, hos, hsp, hsl, hol, e1, e2⟩ F N off fx
        have F := fs2 F e1 e2
        simp only [List.forall_mem_cons, List.not_mem_nil, false_implies, implies_true, and_true] at off
        have off : (@Ne Nat O9 I) ∧ (@Ne Nat S9 I) ∧ (@Ne Nat (s.heap.objs.size + 1) I) ∧ (@Ne Nat R9 I) ∧ (@Ne Nat n9 I) := off
        rw [List.size_toArray, hwl4, hl4] at hi'
        obtain ⟨tv, ht⟩ := ints_getD hI4 (i := i) (by rw [hl4]; exact hi')
        rw [List.getElem?_toArray, ht] at hP
        cases hP
        dsimp only
        have e0 : (List.take 4 ns).getD i 0 = ns.getD i 0 := by rw [List.getD_eq_getElem?_getD, List.getElem?_take_of_lt hi', ← List.getD_eq_getElem?_getD]
        rw [e0] at F
        have hnx := numsTo_next (ns := ns) (i := i) (by omega)
        have hsx := spellTo_next (ns := ns) (i := i) (by omega)
        have hsy := stm_sym (ns.getD i 0)
        have hsl3 := stm_len (ns.getD i 0)
        generalize ns.getD i 0 = x at *
        walk_at "SHOW"
        k_fold
        walk_at "STEPS"
        rename (IntsAre _ (stm x)) => hst
        rename List Value => vst
        rename (News _ _ _ _) => N5
        rename (Fr _ _ _ _) => F5
        rename_i st9 _ _ _ ne5 _ _ t5 _ _ _
        rw [show sps.toArray.push (Value.str (tx (spell (stm x))) t5) = List.toArray (sps ++ [Value.str (tx (spell (stm x))) t5]) by simp] at N5
        have hsp5 : StrsAre (sps ++ [Value.str (tx (spell (stm x))) t5]) ((spellTo ns (i + 1)).map tx) := by
          rw [hsx, List.map_append]
          exact strs_app hsp (.cons _ _ .nil)
        have hsl5 : (sps ++ [Value.str (tx (spell (stm x))) t5]).length = i + 1 := by rw [List.length_append, hsl]; rfl
        generalize sps ++ [Value.str (tx (spell (stm x))) t5] = sps5 at *
        refine forJ s.heap (by rfl) (by rfl) ?_
        walk_at "STEPS"
        rename (IntsAre _ (stm x ++ [0])) => hq
        rename List Value => us
        rename Addr => D9
        rename (_ < D9 ∧ _ < _ ∧ _) => lt9
        rename (News _ _ _ _) => N6
        rename (Fr _ _ _ _) => F6
        have hql : (stm x ++ [0]).length ≤ 4 := by rw [List.length_append, List.length_singleton]; omega
        have hul := hq.length
        have hcy := @stm0_sym x
        generalize stm x ++ [0] = q at *
        refine iter_led hh (l := D9) (items := List.toArray us) (ep := 0) (hl := ?hm) F6 N6 (fun it h' hit F N hoff => ?_)
        case hm => exact List.mem_cons_self
        refine ⟨LwI (numsTo ns i) q n9 O9 [(D9, listOf (List.toArray us) 0), (I, oI), (S9, listOf (List.toArray sps5) (es + 1)), (s.heap.objs.size + 1, oc), (R9, listOf (List.toArray ws4) 0), (n9, listOf (List.toArray vn) 0)] (8 * i), _, _, _, _, [(O9, listOf (List.toArray os) eo), (D9, listOf (List.toArray us) 0), (I, oI), (S9, listOf (List.toArray sps5) (es + 1)), (s.heap.objs.size + 1, oc), (R9, listOf (List.toArray ws4) 0), (n9, listOf (List.toArray vn) 0)], hit, F, cb_drop N (by kcf_all), ?_, ?_, ⟨os, eo, rfl, by simpa using hos, by omega, rfl, rfl⟩, ?_, ?_⟩
        · exact fun I e p hp => hoff I e p (by simp only [List.mem_cons] at hp ⊢; grind)
        · first | kcf_all | exact fun p hp => by simp only [List.mem_cons] at hp ⊢; grind
        · rintro k v m₂ news₂ h₂ tk₂ I₂ oI₂ hk hP ⟨os', eo', rfl, hos', hol', g1, g2⟩ F N off₂ fx₂
          have F := fs2 F g1 g2
          simp only [List.forall_mem_cons, List.not_mem_nil, false_implies, implies_true, and_true] at off₂
          have off₂ : (@Ne Nat O9 I₂) ∧ (@Ne Nat D9 I₂) ∧ (@Ne Nat I I₂) ∧ (@Ne Nat S9 I₂) ∧ (@Ne Nat (s.heap.objs.size + 1) I₂) ∧ (@Ne Nat R9 I₂) ∧ (@Ne Nat n9 I₂) := off₂
          rw [List.size_toArray, hul] at hk
          obtain ⟨tv₂, ht₂⟩ := ints_getD hq (i := k) hk
          rw [List.getElem?_toArray, ht₂] at hP
          cases hP
          have hon := octs_next (pre := numsTo ns i) hk
          have hy := hcy hk rfl
          generalize q.getD k 0 = y at *
          have hol8 : os'.length ≤ 40 := by first | exact len40 hol' hi' hk hql | omega
          dsimp only
          rcases hy with hy | hy
          · have ho : octI y = [y] := if_pos (by omega)
            walk_at "SHOW"
            k_fold
            walk_at "STEPS"
            rename (IntsAre _ [y]) => hiy
            rename (News _ _ _ _) => N7
            refine ⟨_, _, _, _, rfl, by assumption, cb_drop N7 (by kcf_all), ?_, ?_, ⟨_, _, rfl, ?_, ?_, rfl, rfl⟩⟩
            · simp only [List.forall_mem_cons, List.not_mem_nil, false_implies, implies_true, and_true]; exact off₂
            · exact fun p hp => by rw [List.mem_singleton.mp hp]; exact List.mem_cons_of_mem _ List.mem_cons_self
            · rw [hon, ho]; exact hos'.append hiy
            · rw [List.length_append, hiy.length]; simp only [List.length_cons, List.length_nil]; exact len_one hol'
          · have ho : octI y = [68, y - 256] := if_neg (by omega)
            walk_at "SHOW"
            k_fold
            walk_at "STEPS"
            rename (IntsAre _ [68, y - 256]) => hiy
            rename (News _ _ _ _) => N7
            refine ⟨_, _, _, _, rfl, by assumption, cb_drop N7 (by kcf_all), ?_, ?_, ⟨_, _, rfl, ?_, ?_, rfl, rfl⟩⟩
            · simp only [List.forall_mem_cons, List.not_mem_nil, false_implies, implies_true, and_true]; exact off₂
            · exact fun p hp => by rw [List.mem_singleton.mp hp]; exact List.mem_cons_of_mem _ List.mem_cons_self
            · rw [hon, ho]; exact hos'.append hiy
            · rw [List.length_append, hiy.length]; simp only [List.length_cons, List.length_nil]; exact len_two hol'
        · rintro m₃ news₃ h₃ tk₃ ⟨os', eo', rfl, hos', hol', g1, g2⟩ F N fx₃
          have F := fr2 F g1 g2
          rw [List.size_toArray, hul] at hos' hol'
          rw [List.take_length, ← hnx] at hos'
          walk_at "SHOW"
          k_fold
          walk_at "STEPS"
          rename (News _ _ _ _) => N7
          refine ⟨_, _, _, _, rfl, by assumption, cb_drop N7 (by kcf_all), ?_, ?_, ⟨os', sps5, _, _, rfl, hos', hsp5, hsl5, (by first | exact len_end hol' hql | omega), rfl, rfl⟩⟩
          · simp only [List.forall_mem_cons, List.not_mem_nil, false_implies, implies_true, and_true]; exact off
          · exact fun p hp => by rw [List.mem_singleton.mp hp]; exact List.mem_cons_of_mem _ (List.mem_cons_of_mem _ (List.mem_cons_of_mem _ List.mem_cons_self))
      · rintro m₁ news₁ h₁ tk₁ ⟨os, sps, eo, es, rfl, hos, hsp, hsl, hol, e1, e2⟩ F N fx
        have F := fr2 F e1 e2
        rw [List.size_toArray, hwl4, hl4] at hos hsp
        walk_at "SHOW"
        k_fold
        walk_at "STEPS"
        rename (News _ _ _ _) => N7
        exact ⟨rfl, _, _, _, n9, O9, S9, oc, vn, ns, os, sps, _, _, rfl, by assumption, cb_drop N7 (by kcf_all), hdc, hnv, hnl, hnb, hos, hsp, rfl, rfl⟩
    · clear NN hns hnv hvl hnl hnb
      rename (Fr _ _ _ _) => F3
      clear F3
      obtain ⟨rfl, hB, tkB, mB, nB, OB, SB, ocB, vnB, nsB, osB, spB, eoB, esB, rfl, F, N, hdcB, hnvB, hnlB, hnbB, hosB, hspB, e1, e2⟩ := hf
      have F := fr2 F e1 e2
      walk_at "SHOW"
      walk_at "STEPST"
      rename (Fr _ _ _ _) => F3
      rename (News _ _ _ _) => N3
      obtain ⟨oL, hoL, hLd⟩ : ∃ oL, hB.get? s.heap.objs.size = some oL ∧ ∀ vs, oL.data ≠ .fields vs := by
        obtain ⟨o, es, ep, ho, hd, _⟩ := F3.ns
        exact ⟨o, ho, fun vs q => by rw [hd] at q; cases q⟩
      refine c_texts s.heap s.heap.objs.size oL _ OB osB (numsTo nsB 4) X F3.keep (Heap.get?_none_of_le (Nat.le_refl _)) hoL hLd (Around.frames_deeper hA) rfl rfl (News.isList N3 (by k_mem)) (N3 _ List.mem_cons_self).2.1 hosB (numsTo_sym nsB 4) (numsTo_len nsB 4) (by walk_at "DEP") hh (fun TB hC tkC tsB k hs hT htsB => ?_)
      obtain ⟨F4, N4⟩ := slots_back F3 N3 hoL k hs
      obtain ⟨RB, NR, hsub, hTP⟩ := listP_in F4 N4 hT
      rw [rd_nums] at htsB
      have hSP : ListP s.heap s.heap.objs.size RB SB spB := listP_mem (hsub _ (List.mem_cons_of_mem _ List.mem_cons_self))
      have hnP : ListP s.heap s.heap.objs.size RB nB vnB := listP_mem (hsub _ (List.mem_cons_of_mem _ (List.mem_cons_of_mem _ (List.mem_cons_of_mem _ List.mem_cons_self))))
      have NC : News s.heap s.heap.objs.size hC ((s.heap.objs.size + 1, ocB) :: RB) := fun p hp => by
        rcases List.mem_cons.mp hp with rfl | hp
        · exact NR _ (hsub _ (List.mem_cons_of_mem _ (List.mem_cons_of_mem _ List.mem_cons_self)))
        · exact NR p hp
      clear N3 N4 NR hsub hT hs k hoL hLd F3 F hosB e1 e2
      clear ph1
      have ph2 : Phase 2 := Phase.mk 2
      walk_at "SHOW"
      walk_at "STEPS"
      refine Assign_ListComp_Two (by k_asm) 4 (fun i => (i : Int) + 1) (fun i => 3 - i) (TieI (spellTo nsB 4) (s.heap.objs.size + 1) ocB RB) (by with_unfolding_all rfl) (by with_unfolding_all rfl) (by decide) (by rfl) (by decide) (by rfl) (by rfl) (by decide) (by rfl) (by rfl) ?_
      walk_at "STEPS"
      refine ⟨_, _, _, _, _, _, _, rfl, hh, by assumption, by assumption, by assumption, small_one (by omega) (by omega) (by omega) (by omega), by rw [rangeSize_one]; rfl, ⟨[], RB, rfl, rfl, fun _ h => h, rfl, by omega, by omega, fun j h => absurd h (Nat.not_lt_zero _)⟩, ?_, ?_, ?_, ?_, ?_⟩
      · rintro i t C oC m₂ h tk nw I oI D ys E' hi' ⟨as, rest, rfl, rfl, hRr, hal, hi4, hk3, hrows⟩ hC hx F N
        dsimp only
        walk_at "SHOW"
        k_fold
        walk_at "STEPS"
        exact ⟨_, _, _, _, _, _, _, rfl, rfl, by assumption, by assumption, (by rw [← show (0 : Int) + (i : Int) + 1 = (i : Int) + 1 by omega]; assumption), small_one (by omega) (by omega) (by omega) (by omega), by rw [rangeSize_one]; omega⟩
      · rintro i k t t₁ I₁ oI₁ I oI C oC D m₂ h tk nw ys E' hi' hk' ⟨as, rest, rfl, rfl, hRr, hal, hi4, hk3, hrows⟩ hC hx hx1 F N ap off
        dsimp only at hx1 hk' ⊢
        obtain ⟨hk3', hk1', hik, z0, z4, z63, e2⟩ := tie_k hk'
        obtain ⟨ea, eb⟩ := tie_at i hi' k hk3' hk'
        clear hk'
        walk_at "SHOW"
        k_fold
        walk_at "STEPS"
        rename (News _ _ _ _) => NN
        rename (_ < _ ∧ _ < _ ∧ _) => hlt
        rename_i td _ _ la _ _
        rw [nat1 i, e2] at NN
        refine ⟨_, _, (s.heap.objs.size + 1, ocB) :: (la, listOf #[Value.int (0 + (i : Int)) t, Value.int ((i : Int) + 1 + (k : Int)) t₁, Value.int ((ed ((spellTo nsB 4).getD i []) ((spellTo nsB 4).getD (i + 1 + k) []) : Nat) : Int) td] 0) :: rest, rfl, by assumption, fun p hp => NN p ?_, ?_, ⟨as ++ [la], (la, listOf #[Value.int (0 + (i : Int)) t, Value.int ((i : Int) + 1 + (k : Int)) t₁, Value.int ((ed ((spellTo nsB 4).getD i []) ((spellTo nsB 4).getD (i + 1 + k) []) : Nat) : Int) td] 0) :: rest, by rw [List.map_append]; rfl, rfl, fun p hp => List.mem_cons_of_mem _ (hRr p hp), by rw [List.length_append, hal]; rfl, hi4, by omega, ?_⟩⟩
        · simp only [List.mem_cons] at hp ⊢
          rcases hp with hp | hp | hp | hp | hp | hp | hp
          · exact .inr (.inl hp)
          · exact .inr (.inr (.inl hp))
          · exact .inr (.inr (.inr (.inl hp)))
          · exact .inr (.inr (.inr (.inr (.inl hp))))
          · exact .inr (.inr (.inr (.inr (.inr (.inl hp)))))
          · exact .inl hp
          · exact .inr (.inr (.inr (.inr (.inr (.inr hp)))))
        · intro p hp
          rcases List.mem_cons.mp hp with rfl | hp
          · exact off _ List.mem_cons_self
          rcases List.mem_cons.mp hp with rfl | hp
          · exact ⟨Nat.ne_of_gt hlt.1, Nat.ne_of_gt hlt.2.1, Nat.ne_of_gt hlt.2.2.1, Nat.ne_of_gt hlt.2.2.2.1⟩
          · exact off p (List.mem_cons_of_mem _ hp)
        · intro j hj
          rcases Nat.lt_or_ge j (offs i + k) with hjl | hjg
          · obtain ⟨vs, e, h1, h2⟩ := hrows j hjl
            exact ⟨vs, e, by rw [getD_app _ _ _ (by rw [hal]; exact hjl)]; exact List.mem_cons_of_mem _ h1, h2⟩
          · obtain rfl : j = offs i + k := Nat.le_antisymm (Nat.le_of_lt_succ hj) hjg
            refine ⟨_, 0, by rw [getD_end _ _ _ hal.symm]; exact List.mem_cons_self, ?_⟩
            rw [tie_row, ea, eb]
            exact Eq.mp (congrArg (IntsAre _) (by simp)) (IntsAre.cons _ _ (.cons _ _ (.cons _ _ .nil)))
      · rintro i ys nw hi' ⟨as, rest, rfl, rfl, hRr, hal, hi4, hk3, hrows⟩
        have e := offs_next i hi'
        try dsimp only at hal hrows
        rw [e] at hal hrows
        exact ⟨as, rest, rfl, rfl, hRr, hal, by omega, by omega, hrows⟩
      · rintro i k ys nw ⟨as, rest, rfl, rfl, hRr, hal, hi4, hk3, hrows⟩
        have := offs_le i (Nat.lt_succ_of_le hi4)
        rw [List.length_map, hal]
        exact Nat.le_trans (Nat.add_le_add this hk3) (by decide)
      · rintro ys nw DD hD tkD ⟨as, rest, rfl, rfl, hRr, hal, _, _, hrows⟩ FD N off
        have hGD : GridP s.heap s.heap.objs.size ((DD, LCg.lst (as.map Value.ref)) :: rest) DD 6 3 (tieOf (fun k => ed ((spellTo nsB 4).getD (endA k) []) ((spellTo nsB 4).getD (endB k) []))) :=
          ⟨as, hal, listP_mem List.mem_cons_self, fun i hi' => let ⟨vs, e, h1, h2⟩ := hrows i hi'; ⟨vs, listP_mem (List.mem_cons_of_mem _ h1), h2⟩⟩
        have hTD := hTP.up (fun p hp => List.mem_cons_of_mem (DD, LCg.lst (as.map Value.ref)) (hRr p hp))
        have hnD := hnP.up (fun p hp => List.mem_cons_of_mem (DD, LCg.lst (as.map Value.ref)) (hRr p hp))
        have ND : News s.heap s.heap.objs.size hD ((DD, LCg.lst (as.map Value.ref)) :: rest) := fun p hp => N p (by simp only [List.mem_cons] at hp ⊢; grind)
        have FD : Fr s.heap s.heap.objs.size hD _ := FD
        clear hrows off hRr hal hSP hTP hnP N
        generalize (DD, LCg.lst (as.map Value.ref)) :: rest = RD at *
        clear ph2
        have ph3 : Phase 3 := Phase.mk 3
        have hlen4 : (spellTo nsB 4).length = 4 := spellTo_len (by omega)
        have hts5 : ∀ i, ((spellTo nsB 4).getD i []).length ≤ 5 := fun i => (spellTo_facts _ _ _).1
        have htsa : ∀ i, ∀ c ∈ (spellTo nsB 4).getD i [], c ∈ alpha := fun i => (spellTo_facts _ _ _).2
        have hGD : GridP s.heap s.heap.objs.size RD DD 6 3 (tieOf (dst (spellTo nsB 4))) := hGD
        generalize spellTo nsB 4 = ts at *
        walk_at "SHOW"
        walk_at "STEPSC"
        refine c_trees DD (dst ts) (hGD.now FD ND (fun _ h => h)) (fun k _ => dst_ten hts5 k) (X.keeps FD.keep) (by walk_at "DEP") hh (by simp only [units_deeper]; omega) (fun CC hE tkE kE hGc => ?_)
        have FE := FD.keeps kE
        have N0 := ND.grown kE
        obtain ⟨RE, NE, sE, hCE⟩ := gridP_in FE N0 hGc
        have hTE := hTD.up sE
        have hnE := hnD.up sE
        have hGE := hGD.up sE
        clear hGc sE ND FD hTD hnD hGD kE N0
        walk_at "STEPSC"
        rename (Fr _ _ _ _) => F0
        rename (News _ _ _ _) => N0
        refine c_weights TB tsB ts (hTE.now F0 N0 (fun _ h => h)) htsB hlen4 htsa hts5 (X.keeps F0.keep) (by walk_at "DEP") hh (fun WW hF tkF kF hGw => ?_)
        have FF := F0.keeps kF
        have N1 := N0.grown kF
        obtain ⟨RF, NF, sF, hW0⟩ := gridP_in FF N1 hGw
        have hWF : GridP s.heap s.heap.objs.size RF WW 4 4 (wt ts) := hW0
        clear hW0
        have hCF := hCE.up sF
        have hnF := hnE.up sF
        have hGF := hGE.up sF
        clear hGw sF F0 N0 N1 hTE hnE hGE hCE kF
        walk_at "STEPSC"
        rename (Fr _ _ _ _) => F0
        rename (News _ _ _ _) => N0
        obtain ⟨r, hr4, er⟩ : ∃ r : Nat, r < 4 ∧ (nsB.getD (Int.toNat 4) 0).fmod 4 = (r : Int) := by
          exact fm4 (fmod_lt (nsB.getD (Int.toNat 4) 0) (show (0 : Int) < 4 by decide))
        obtain ⟨c, hc4, ec⟩ : ∃ c : Nat, c < 4 ∧ ((nsB.getD (Int.toNat 4) 0).fdiv 4).fmod 4 = (c : Int) := by
          exact fm4 (fmod_lt ((nsB.getD (Int.toNat 4) 0).fdiv 4) (show (0 : Int) < 4 by decide))
        simp only [er, ec] at F0 N0
        refine c_struck (wt ts) WW _ _ [_] [_] [(r : Int)] [(c : Int)] (hWF.now F0 N0 (by walk_at "SUB")) (News.isList N0 (by k_mem)) (.cons _ _ .nil) (News.isList N0 (by k_mem)) (.cons _ _ .nil) (Nat.le_of_ble_eq_true rfl) (Nat.le_of_ble_eq_true rfl) (X.keeps F0.keep) (by walk_at "DEP") hh (fun SS hH tkH kH hGs => ?_)
        rw [left_one r hr4, left_one c hc4] at hGs
        have FH := F0.keeps kH
        have NH : News s.heap s.heap.objs.size hH RF := fun p hp => N0.grown kH p (by simp only [List.mem_cons]; exact .inr (.inr hp))
        clear F0 N0 kH
        walk_at "STEPSC"
        rename (Fr _ _ _ _) => F0
        rename (News _ _ _ _) => N0
        refine c_detThree (cof (wt ts) [(r : Int)] [(c : Int)]) SS _ _ _ _ (cof_bound (wt_bound hts5) _ _) hGs (X.keeps F0.keep) (by walk_at "DEP") hh (fun tD hI tkI kI => ?_)
        have FI := F0.keeps kI
        have NI := N0.grown kI
        clear F0 N0 kI hGs
        walk_at "STEPSI"
        have htr := trees_are hts5 hr4 hc4
        refine wpAny_mono (Q := JoinP s DD CC WW RF ((numOf (dst ts) 6 : Nat) : Int)) ?_ (fun f s₁ hf => ?_) (fun _ _ x => x)
        · walk_at "STEPSC"
          · rename (Int.fmod _ _ = 1) => hodd
            have hm := odd_rc hodd
            rw [if_pos hm] at htr
            rename (Fr _ _ _ _) => F0
            rename (News _ _ _ _) => N0
            refine c_neg _ _ (X.keeps F0.keep) (by walk_at "DEP") (fun tN hN tkN kN => ?_)
            have F1 := F0.keeps kN
            have N1 := N0.grown kN
            clear F0 N0
            walk_at "STEPSC"
            exact ⟨rfl, _, _, _, _, rfl, by assumption, by assumption, rfl, rfl, rfl, congrArg (fun z => some (Value.int z _)) htr⟩
          · rename (Int.fmod _ _ ≠ 1) => hev
            have hm := even_rc hev
            rw [if_neg hm] at htr
            exact ⟨rfl, _, _, _, _, rfl, by assumption, by assumption, rfl, rfl, rfl, congrArg (fun z => some (Value.int z _)) htr⟩
        obtain ⟨rfl, hJ, tkJ, mJ, tJ, rfl, FJ, NJ, e1, e2, e3, e4⟩ := hf
        have FJ := fr4 FJ e1 e2 e3 e4
        clear htr
        walk_at "SHOW"
        walk_at "STEPSC"
        rename (ListP _ _ _ _ _) => hr6
        rename (IntsAre _ _) => hi6
        rename (List.length _ = 31) => hl6
        refine c_number _ _ (fun t => (tots (dst ts) 6).count t) (hr6.now FJ NJ (fun _ h => h)) hi6 (fun t _ => count_small _ _ _) (X.keeps FJ.keep) (by walk_at "DEP") hh (fun tV hK tkK kK => ?_)
        rw [show numTo (fun t => (tots (dst ts) 6).count t) 31 = numOf (dst ts) 6 from rfl]
        have FK := FJ.keeps kK
        have NK := NJ.grown kK
        clear FJ NJ kK hr6 hi6 hl6
        walk_at "STEPSC"
        · rename (_ ≠ _) => hq
          exact absurd rfl hq
        clear ph3
        refine forJ s.heap (by rfl) (by rfl) ?_
        walk_at "STEPS"
        refine iter_range (n := 6) hh (by assumption) (small_one (by omega) (by omega) (by omega) (by omega)) (by rw [rangeSize_one]; rfl) (by assumption) (by assumption) (fun it hL hit FL NL hoff => ?_)
        refine ⟨LkJ DD CC WW RF ((numOf (dst ts) 6 : Nat) : Int), _, _, _, _, _, hit, FL, NL, hoff, (fun _ h => nomatch h), ⟨rfl, _, rfl, rfl, rfl, rfl⟩, ?_, ?_⟩
        · rintro k v m₁ news₁ hM tkM IK oIK hk ⟨tv, rfl⟩ ⟨rfl, tT, e1, e2, e3, e4⟩ FM NM off fx
          have FM := fs4 FM e1 e2 e3 e4
          have jK := nat1 k
          have jA : (((endA k : Nat) : Int)).toNat = endA k := Int.toNat_natCast _
          have jB : (((endB k : Nat) : Int)).toNat = endB k := Int.toNat_natCast _
          have hlt := ends_lt k hk
          walk_at "SHOW"
          walk_at "STEPSS"
          refine item_tieP FM NM hGF (fun p hp => List.mem_cons_of_mem _ hp) (by omega) jK hk (by omega) (fun rT vT hrT hiT => ?_) (by with_unfolding_all rfl)
          walk_at "STEPSS"
          refine kba_turn (value' := PySem.Expr.Name (PySem.Str.ofString "_") ⟨0, 0, 0, 0⟩) (fun _ => rfl) ?_
          refine cut_tie (g := hM) rfl rfl FM NM hrT (fun p hp => List.mem_cons_of_mem _ hp) hiT (fun EE wE hM2 FM2 NM2 hiE => ?_) (by with_unfolding_all rfl) (by intro _; with_unfolding_all rfl)
          clear FM NM
          walk_at "STEPSS"
          rename (Fr _ _ _ _) => F5
          rename (News _ _ _ _) => N5
          refine item_two0 N5 List.mem_cons_self hiE (fun tA => ?_) (by with_unfolding_all rfl)
          refine item_rowP F5 N5 hWF (fun p hp => List.mem_cons_of_mem _ (List.mem_cons_of_mem _ hp)) (by omega) jA hlt.1 (by omega) (fun rA vA hrA hiA => ?_) (by with_unfolding_all rfl)
          walk_at "STEPSS"
          refine item_two1 N5 List.mem_cons_self hiE (fun tB => ?_) (by with_unfolding_all rfl)
          refine item_cellP F5 N5 hrA (fun p hp => List.mem_cons_of_mem _ (List.mem_cons_of_mem _ hp)) hiA (by omega) jB hlt.2 (by omega) (fun tC => ?_) (by with_unfolding_all rfl)
          walk_at "STEPSS"
          refine c_struck (wt ts) WW EE EE wE wE [((endA k : Nat) : Int), ((endB k : Nat) : Int)] [((endA k : Nat) : Int), ((endB k : Nat) : Int)] (hWF.now F5 N5 (fun p hp => List.mem_cons_of_mem _ (List.mem_cons_of_mem _ hp))) (News.isList N5 List.mem_cons_self) hiE (News.isList N5 List.mem_cons_self) hiE (Nat.le_of_ble_eq_true rfl) (Nat.le_of_ble_eq_true rfl) (X.keeps F5.keep) (by walk_at "DEP") hh (fun SK hN tkN kN hGs => ?_)
          rw [left_two k hk] at hGs
          have F6 := F5.keeps kN
          have N6 : News s.heap s.heap.objs.size hN ((IK, oIK) :: news₁) := fun p hp => N5.grown kN p (List.mem_cons_of_mem _ hp)
          clear F5 N5 FM2 NM2 kN
          walk_at "STEPSS"
          rename (Fr _ _ _ _) => F5
          rename (News _ _ _ _) => N5
          refine c_detTwo (cof (wt ts) [((endA k : Nat) : Int), ((endB k : Nat) : Int)] [((endA k : Nat) : Int), ((endB k : Nat) : Int)]) SK _ _ _ _ (cof_bound (wt_bound hts5) _ _) hGs (X.keeps F5.keep) (by walk_at "DEP") hh (fun tE hO tkO kO => ?_)
          have F7 := F5.keeps kO
          have N7 := N5.grown kO
          clear F5 N5 kO hGs
          walk_at "STEPSS"
          rename (Fr _ _ _ _) => F5
          rename (News _ _ _ _) => N5
          refine c_mul _ _ _ _ (IntMulOk.of_left (intBits_le_iff.mpr (by have := wt_bound hts5 (endA k) (endB k); omega))) (X.keeps F5.keep) (by walk_at "DEP") (fun tH hQ tkQ kQ => ?_)
          rw [held_is hts5 hk]
          have F8 := F5.keeps kQ
          have N8 := N5.grown kQ
          clear F5 N5 kQ
          walk_at "STEPSS"
          rename (Fr _ _ _ _) => F5
          rename (News _ _ _ _) => N5
          refine item_rowP F5 N5 hCF (fun p hp => List.mem_cons_of_mem _ hp) (by omega) jK (by omega) (by omega) (fun rC vC hrC hiC => ?_) (by with_unfolding_all rfl)
          walk_at "STEPSS"
          rename (Fr _ _ _ _) => F5
          rename (News _ _ _ _) => N5
          refine c_number rC vC (fun t => (tots (dst ts) k).count t) (hrC.now F5 N5 (fun p hp => List.mem_cons_of_mem _ hp)) hiC (fun t _ => count_small _ _ _) (X.keeps F5.keep) (by walk_at "DEP") hh (fun tR hR tkR kR => ?_)
          rw [show numTo (fun t => (tots (dst ts) k).count t) 31 = numOf (dst ts) k from rfl]
          have F9 := F5.keeps kR
          have N9 := N5.grown kR
          clear F5 N5 kR
          walk_at "STEPSS"
          · rename (_ ≠ _) => hq
            exact absurd rfl hq
          · exact ⟨_, _, _, _, rfl, by assumption, by assumption, off, (fun _ h => nomatch h), ⟨rfl, _, rfl, rfl, rfl, rfl⟩⟩
        · rintro m₃ news₃ h₃ tk₃ ⟨rfl, tT, e1, e2, e3, e4⟩ FM NM fx
          have FM := fr4 FM e1 e2 e3 e4
          walk_at "SHOW"
          walk_at "STEPSS"
          refine c_totals (numOf (dst ts) 6) tT (flags_some (fun k _ => dst_ten hts5 k)) (X.keeps FM.keep) (by walk_at "DEP") hh (fun tS hS tkS kS => ?_)
          rw [words_same]
          have F5 := FM.keeps kS
          have N5 := NM.grown kS
          clear FM NM kS
          walk_at "STEPSS"
          rename (Fr _ _ _ _) => F6
          rename (News _ _ _ _) => N6
          refine item_rowP F6 N6 hCF (fun _ h => h) (by omega) (show Int.toNat 6 = 6 from rfl) (by omega) (by omega) (fun rC vC hrC hiC => ?_) (by with_unfolding_all rfl)
          walk_at "STEPSS"
          rename (Fr _ _ _ _) => F5
          rename (News _ _ _ _) => N5
          refine c_words rC vC _ (hrC.now F5 N5 (fun _ h => h)) hiC (rowInts_len _ _) (X.keeps F5.keep) (by walk_at "DEP") hh (fun tU hU tkU kU => ?_)
          have F7 := F5.keeps kU
          have N7 := N5.grown kU
          clear F5 N5 kU
          walk_at "STEPSS"
          rw [beq_self_eq_true]
          exact ret _ _ F7.keep
end

end
end
section
theorem go.tw11017915275324742753 : True := trivial
theorem go.tw10209213820224822433 : True := trivial
theorem go.tw1617966631527844065 : True := trivial
theorem go.tw15657477165280572705 : True := trivial
theorem go.tw6128261125556168065 : True := trivial
theorem go.tw15973795711563652481 : True := trivial
theorem go.tw16984756067346102785 : True := trivial
theorem go.tw16651740252536449761 : True := trivial
theorem go.tw15044495724516194049 : True := trivial
theorem go.tw16569703061755497538 : True := trivial
theorem go.tw7020150417786384514 : True := trivial
theorem go.tw4254923169180631234 : True := trivial
theorem go.tw9247950045898918338 : True := trivial
theorem go.tw6851456539560303362 : True := trivial
theorem go.tw1159480253435912002 : True := trivial
theorem go.tw12047166493661642947 : True := trivial
theorem go.tw18099282376624618755 : True := trivial
theorem go.tw18376466027625043235 : True := trivial
theorem go.tw13621058165246911907 : True := trivial
theorem go.tw1410089564722728387 : True := trivial
theorem go.tw3306590187757971107 : True := trivial
theorem go.tw4793817790412734147 : True := trivial
theorem go.tw6891588309187149603 : True := trivial
theorem go.tw17625589323191495619 : True := trivial
theorem go.tw5716807986109319684 : True := trivial
theorem go.tw6113638392918833732 : True := trivial
theorem go.tw2674624629608824676 : True := trivial
theorem go.tw12287620284195628932 : True := trivial
theorem go.tw11570796475036077061 : True := trivial
theorem go.tw9868857178645760389 : True := trivial
theorem go.tw15881785829279372805 : True := trivial
theorem go.tw15288310289017009797 : True := trivial
theorem go.tw6568231065850667749 : True := trivial
theorem go.tw7326107280627532517 : True := trivial
theorem go.tw13846827057094481733 : True := trivial
theorem go.tw11062646898967359301 : True := trivial
theorem go.tw11039315608779421605 : True := trivial
theorem go.tw12968216985309708197 : True := trivial
theorem go.tw5883252576637561829 : True := trivial
theorem go.tw198953160016362630 : True := trivial
theorem go.tw10450390705859241510 : True := trivial
theorem go.tw1687165154197092038 : True := trivial
theorem go.tw5026100245474550566 : True := trivial
theorem go.tw11860311468703693670 : True := trivial
theorem go.tw5163241310692852646 : True := trivial
theorem go.tw7512968548493968326 : True := trivial
theorem go.tw8117436020026566598 : True := trivial
theorem go.tw2318405031202532839 : True := trivial
theorem go.tw15336461733892503271 : True := trivial
theorem go.tw8843154659608940295 : True := trivial
theorem go.tw11118938859718820679 : True := trivial
theorem go.tw5754561495750798247 : True := trivial
theorem go.tw6658576366019259335 : True := trivial
theorem go.tw10977448669636701384 : True := trivial
theorem go.tw14095527418617213384 : True := trivial
theorem go.tw14530939029531264936 : True := trivial
theorem go.tw13015593750660303848 : True := trivial
theorem go.tw10584294725982564617 : True := trivial
theorem go.tw11070897214279100713 : True := trivial
theorem go.tw11207181897152444969 : True := trivial
theorem go.tw18018740623648974409 : True := trivial
theorem go.tw5720694811904572105 : True := trivial
theorem go.tw12528215140573568937 : True := trivial
theorem go.tw6913136086317331562 : True := trivial
theorem go.tw10150587088903491882 : True := trivial
theorem go.tw4276871490739304906 : True := trivial
theorem go.tw7742113552118018826 : True := trivial
theorem go.tw3845076819085193066 : True := trivial
theorem go.tw11666941160635057034 : True := trivial
theorem go.tw14610867083194633259 : True := trivial
theorem go.tw16638524382843052331 : True := trivial
theorem go.tw11887239301765898603 : True := trivial
theorem go.tw6704199973965328779 : True := trivial
theorem go.tw9152174855455288971 : True := trivial
theorem go.tw14588642168579220171 : True := trivial
theorem go.tw1899694054800106219 : True := trivial
theorem go.tw13131407112785927979 : True := trivial
theorem go.tw323417449798562731 : True := trivial
theorem go.tw2801876578361619532 : True := trivial
theorem go.tw1660524433713880172 : True := trivial
theorem go.tw17814205985162091692 : True := trivial
theorem go.tw11223066610325710060 : True := trivial
theorem go.tw3404243425764770092 : True := trivial
theorem go.tw1026647196757137804 : True := trivial
theorem go.tw14864502500686147276 : True := trivial
theorem go.tw498376840923386572 : True := trivial
theorem go.tw2012919540843472109 : True := trivial
theorem go.tw5655820146703920429 : True := trivial
theorem go.tw16966379780589304141 : True := trivial
theorem go.tw10745360467900644685 : True := trivial
theorem go.tw14271084327219118541 : True := trivial
theorem go.tw498461301070325325 : True := trivial
theorem go.tw4563606333067802189 : True := trivial
theorem go.tw3501916529792883405 : True := trivial
theorem go.tw7777673502039530221 : True := trivial
theorem go.tw5757692340160500525 : True := trivial
theorem go.tw6134290801355342733 : True := trivial
theorem go.tw15065298461513194574 : True := trivial
theorem go.tw11391891393161257070 : True := trivial
theorem go.tw2459120572281790638 : True := trivial
theorem go.tw5330663866594035918 : True := trivial
theorem go.tw4273280351846841646 : True := trivial
theorem go.tw9390522219908265294 : True := trivial
theorem go.tw5147182702490143054 : True := trivial
theorem go.tw8525891296552623502 : True := trivial
theorem go.tw17408264440351795726 : True := trivial
theorem go.tw17078824902306133550 : True := trivial
theorem go.tw1304328876107414062 : True := trivial
theorem go.tw9559915317741541038 : True := trivial
theorem go.tw2417548367454455823 : True := trivial
theorem go.tw13533190373284556911 : True := trivial
theorem go.tw6710130258060209327 : True := trivial
theorem go.tw9799211036282041551 : True := trivial
theorem go.tw17988444863797559951 : True := trivial
theorem go.tw14549841573715543887 : True := trivial
theorem go.tw11900582823092892591 : True := trivial
theorem go.tw9442099859058695472 : True := trivial
theorem go.tw16843488073482301840 : True := trivial
theorem go.tw14494522564185051536 : True := trivial
theorem go.tw48251833490180752 : True := trivial
theorem go.tw1547176844810960656 : True := trivial
theorem go.tw12142370556391545616 : True := trivial
theorem go.tw13629478322225355696 : True := trivial
theorem go.tw13244826578425992112 : True := trivial
theorem go.tw4547234665925602256 : True := trivial
theorem go.tw6692794303110494897 : True := trivial
theorem go.tw4826114209854086833 : True := trivial
theorem go.tw4809381741162136369 : True := trivial
theorem go.tw14256976129453552497 : True := trivial
theorem go.tw2596576752514998514 : True := trivial
theorem go.tw15528621069748645170 : True := trivial
theorem go.tw2843334866305654066 : True := trivial
theorem go.tw645291903919823186 : True := trivial
theorem go.tw11874280359716629074 : True := trivial
theorem go.tw7292979258229339762 : True := trivial
theorem go.tw8466776721873955762 : True := trivial
theorem go.tw9622017107585461267 : True := trivial
theorem go.tw15607867129348298515 : True := trivial
theorem go.tw2260980390379369427 : True := trivial
theorem go.tw350599972289029107 : True := trivial
theorem go.tw17899595973202607380 : True := trivial
theorem go.tw2627985634905215540 : True := trivial
theorem go.tw584013970865945204 : True := trivial
theorem go.tw1821933653962357396 : True := trivial
theorem go.tw17385855169327285940 : True := trivial
theorem go.tw4693765895220792052 : True := trivial
theorem go.tw4840177385205084148 : True := trivial
theorem go.tw9471442477376359541 : True := trivial
theorem go.tw2442213927418664085 : True := trivial
theorem go.tw13837350026653545653 : True := trivial
theorem go.tw10641048703480497397 : True := trivial
theorem go.tw9462783964313357589 : True := trivial
theorem go.tw7046456769058013525 : True := trivial
theorem go.tw16222980010781478741 : True := trivial
theorem go.tw1600066662621846134 : True := trivial
theorem go.tw8314105912365131414 : True := trivial
theorem go.tw12444658909571370742 : True := trivial
theorem go.tw1225336817672955894 : True := trivial
theorem go.tw4406477812251090103 : True := trivial
theorem go.tw16948351884070481111 : True := trivial
theorem go.tw13984775816169487703 : True := trivial
theorem go.tw1068862349082813783 : True := trivial
theorem go.tw5698949550246952375 : True := trivial
theorem go.tw3642183482561279543 : True := trivial
theorem go.tw12605570538089688823 : True := trivial
theorem go.tw2725279182593108791 : True := trivial
theorem go.tw10013141965534561143 : True := trivial
theorem go.tw16331548564479461367 : True := trivial
theorem go.tw16490249698526778424 : True := trivial
theorem go.tw18357271146240748632 : True := trivial
theorem go.tw13275656174496245976 : True := trivial
theorem go.tw6240360979801141464 : True := trivial
theorem go.tw8849979539818557816 : True := trivial
theorem go.tw12656855963267087032 : True := trivial
theorem go.tw15801895198939909880 : True := trivial
theorem go.tw1616840469744965496 : True := trivial
theorem go.tw12979996230898546648 : True := trivial
theorem go.tw13035626856510559865 : True := trivial
theorem go.tw12850891809264655065 : True := trivial
theorem go.tw14630237377197128601 : True := trivial
theorem go.tw3331575061702620314 : True := trivial
theorem go.tw7171499339947134202 : True := trivial
theorem go.tw9080827544826687770 : True := trivial
theorem go.tw12503043199168902618 : True := trivial
theorem go.tw9751558734479525370 : True := trivial
theorem go.tw5624269032668656378 : True := trivial
theorem go.tw13489904137901642522 : True := trivial
theorem go.tw9537356449090278202 : True := trivial
theorem go.tw17713649615248325466 : True := trivial
theorem go.tw17902685243396129851 : True := trivial
theorem go.tw1505707155935263835 : True := trivial
theorem go.tw7091175819033746555 : True := trivial
theorem go.tw13246349066613663003 : True := trivial
theorem go.tw15748842697667225083 : True := trivial
theorem go.tw12150177500037510396 : True := trivial
theorem go.tw2201756097114706204 : True := trivial
theorem go.tw9781445606723498332 : True := trivial
theorem go.tw18321667043810271612 : True := trivial
theorem go.tw15605211283554415260 : True := trivial
theorem go.tw17840771725469911900 : True := trivial
theorem go.tw13254880653069160477 : True := trivial
theorem go.tw8652790357308405117 : True := trivial
theorem go.tw10151590725054658973 : True := trivial
theorem go.tw2701407574428046781 : True := trivial
theorem go.tw5267973556674519581 : True := trivial
theorem go.tw2999892936170001949 : True := trivial
theorem go.tw11841938759519639101 : True := trivial
theorem go.tw12985016639916131933 : True := trivial
theorem go.tw10819445188694100957 : True := trivial
theorem go.tw2445597724081340381 : True := trivial
theorem go.tw13091797612314929374 : True := trivial
theorem go.tw918752668906677662 : True := trivial
theorem go.tw12597490555335192062 : True := trivial
theorem go.tw116665817152024671 : True := trivial
theorem go.tw430808991664241951 : True := trivial
theorem go.tw9991635115420412319 : True := trivial
theorem go.tw7246028376286843551 : True := trivial
theorem go.tw11193796161085401759 : True := trivial
theorem go.tw6644047881778099871 : True := trivial
theorem go.tw8998143604221443039 : True := trivial
theorem go.tw17979999740855798730 : True := trivial
set_option Elab.async true in
theorem go : PySem.Challenge.rw_ta0043_01.Holds := by
  w_on
  o_law
  o_head (kHook heap39 [2, 3, 15, 16, 18, 19, 21, 22, 23, 25, 26, 28, 29, 30, 32, 33, 35, 36, 37, 39, 40, 42, 43, 44, 46, 47, 49, 50, 51, 53, 54, 56, 57, 58, 60, 61, 63, 64, 65, 67, 68, 70, 71, 72, 74, 75, 77, 78, 79, 81, 82, 84, 85, 86, 89, 91, 92, 94, 95, 96, 98, 99, 101, 102, 103, 105, 106, 108, 109, 110, 112, 113, 115, 116, 117, 119, 120, 122, 123, 124, 126, 127, 129, 130, 131, 134, 135, 136, 138, 139, 141, 142, 143, 146, 147, 148, 150, 151, 153, 154, 155, 158, 159, 160, 163, 164, 165, 168, 169, 170, 173, 174, 175, 177, 178, 180, 181, 182, 185, 186, 187, 189, 190, 192, 193, 194, 197, 198, 199, 202, 203] (fun _ => by kernel_rfl))
  (case hw => w_witness2)
  w_strict (
  k_fill
  intro w s₀ s₁ mg mb G Y fa o pm cd doc dV kV ho hd hcd hD hmg hg args vals as hpre hlay hrd hwl hlo
  have KX := kIn_of Y
  refine Ground.open G ?_
  intro T B D TE TW
  (try (refine guard_noD D (by decide +kernel) ?_; clear D))
  have hfa := mg_of (n := Str.ofString "law") KX T.g (v := .ref 203) (by kernel_rfl)
  rw [hmg] at hfa
  cases hfa
  wrow_args hpre hlay hrd hwl hlo
  rename (Heap.IsList _ _ _) => hl
  rename (IntsAre _ _) => hi
  rename (¬ ((63 : Int) < _)) => hle
  refine c_law _ _ _ hl hi (by omega) ⟨KX, T⟩ rfl (by decide) rfl (by decide) (fun h' tk' hk => GoodW.toG ?_)
  exact ⟨.inl ⟨_, .bool true, [], rfl, raisesW_false (by wrow_none_raised), .bool _, (by wrow_post), unshared_nil⟩, hk, rfl, hg⟩)

end
end Mine
theorem PySem.Challenge.cw_ta0043_01_holds : PySem.Challenge.rw_ta0043_01.Holds :=
  Mine.go
