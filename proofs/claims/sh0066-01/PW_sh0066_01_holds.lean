import PyProof.Rows.All
import Wide.All
import OpenK.AllK
import Wide.FinOn
import Lean
import PySem.Challenge.RW_sh0066_01
open PySem PySem.W PyProof.Rows PySem.Calls PySem.Spec
set_option Elab.async false
set_option linter.unusedVariables false
namespace Mine
set_option maxRecDepth 100000
set_option maxHeartbeats 8000000
local macro_rules | `(tactic| walk_at $s:str) => `(tactic| k_extra $s)
local macro_rules | `(tactic| k_room) => `(tactic| k_extra "k_room")
local macro_rules | `(tactic| k_enter) => `(tactic| k_extra "k_enter")
local macro_rules | `(tactic| k_all) => `(tactic| k_extra "k_all")
local macro_rules | `(tactic| ktr_unf) => `(tactic| k_extra "ktr_unf")
local macro_rules | `(tactic| tb_start) => `(tactic| k_extra "tb_start")

-- PART Frag
theorem lnFrag : True := by
  k_with_none
  trivial

/-! NOLINES the head: the written part of the heap, the view, the top's run by the kernel -/
noncomputable abbrev pwB : List Stmt := PySem.Challenge.pw_sh0066_01.main.body
noncomputable def stAt : List Stmt → Nat → Option Stmt
  | [], _ => none
  | s :: _, 0 => some s
  | _ :: r, n + 1 => stAt r n
noncomputable def clsB : Option Stmt → List Stmt
  | some (.ClassDef _ _ _ b ..) => b
  | _ => []
noncomputable def fdP : Option Stmt → Option (Arguments × List Stmt × Scope)
  | some (.FunctionDef _ a b _ _ _ sc ..) => some (a, b, sc)
  | _ => none
noncomputable def mkFn (st : Option Stmt) (a : Arguments) (b : List Stmt) (sc : Scope) (_ : fdP st = some (a, b, sc)) (name qual : Str) (dV pm : Value) (cd : Value) : Obj :=
  { cls := Value.type "function", data := .func { name := name, qualname := qual, params := a, body := .stmts b, scope := sc, globals := 3, closure := [], defaults := dV, kwdefaults := .none, doc := .none, pyModule := pm, annotations := none, code := cd, closureTuple := .none, builtins := 0 } }
noncomputable def o38 : Obj := mkFn (stAt pwB 1) _ _ _ rfl (Str.ofString "_wall") (Str.ofString "_wall") Value.none (Value.str (Str.ofString "__main__") 164) (Value.ref 37)
noncomputable def o45 : Obj := mkFn (stAt pwB 6) _ _ _ rfl (Str.ofString "_substitution_cost") (Str.ofString "_substitution_cost") Value.none (Value.str (Str.ofString "cpy313.traceback") 289) (Value.ref 44)
noncomputable def o52 : Obj := mkFn (stAt pwB 7) _ _ _ rfl (Str.ofString "_levenshtein_distance") (Str.ofString "_levenshtein_distance") Value.none (Value.str (Str.ofString "cpy313.traceback") 289) (Value.ref 51)
noncomputable def o59 : Obj := mkFn (stAt pwB 9) _ _ _ rfl (Str.ofString "_iter_escaped_chars") (Str.ofString "_iter_escaped_chars") Value.none (Value.str (Str.ofString "cpy313.email.utils") 325) (Value.ref 58)
noncomputable def o66 : Obj := mkFn (stAt pwB 10) _ _ _ rfl (Str.ofString "_strip_quoted_realnames") (Str.ofString "_strip_quoted_realnames") Value.none (Value.str (Str.ofString "cpy313.email.utils") 325) (Value.ref 65)
noncomputable def o76 : Obj := mkFn (stAt pwB 62) _ _ _ rfl (Str.ofString "ISNONTERMINAL") (Str.ofString "ISNONTERMINAL") Value.none (Value.str (Str.ofString "cpy313.token") 349) (Value.ref 75)
noncomputable def o101 : Obj := mkFn (stAt (clsB (stAt pwB 66)) 0) _ _ _ rfl (Str.ofString "__init__") (Str.ofString "Headers.__init__") (Value.ref 94) (Value.str (Str.ofString "cpy313.wsgiref.headers") 553) (Value.ref 100)
noncomputable def o108 : Obj := mkFn (stAt (clsB (stAt pwB 66)) 1) _ _ _ rfl (Str.ofString "_convert_string_type") (Str.ofString "Headers._convert_string_type") Value.none (Value.str (Str.ofString "cpy313.wsgiref.headers") 553) (Value.ref 107)
noncomputable def o115 : Obj := mkFn (stAt (clsB (stAt pwB 66)) 2) _ _ _ rfl (Str.ofString "__len__") (Str.ofString "Headers.__len__") Value.none (Value.str (Str.ofString "cpy313.wsgiref.headers") 553) (Value.ref 114)
noncomputable def o122 : Obj := mkFn (stAt (clsB (stAt pwB 66)) 3) _ _ _ rfl (Str.ofString "__setitem__") (Str.ofString "Headers.__setitem__") Value.none (Value.str (Str.ofString "cpy313.wsgiref.headers") 553) (Value.ref 121)
noncomputable def o127 : Obj := mkFn (stAt (clsB (stAt pwB 66)) 4) _ _ _ rfl (Str.ofString "__delitem__") (Str.ofString "Headers.__delitem__") Value.none (Value.str (Str.ofString "cpy313.wsgiref.headers") 553) (Value.ref 126)
noncomputable def o134 : Obj := mkFn (stAt (clsB (stAt pwB 66)) 5) _ _ _ rfl (Str.ofString "__getitem__") (Str.ofString "Headers.__getitem__") Value.none (Value.str (Str.ofString "cpy313.wsgiref.headers") 553) (Value.ref 133)
noncomputable def o141 : Obj := mkFn (stAt (clsB (stAt pwB 66)) 6) _ _ _ rfl (Str.ofString "__contains__") (Str.ofString "Headers.__contains__") Value.none (Value.str (Str.ofString "cpy313.wsgiref.headers") 553) (Value.ref 140)
noncomputable def o148 : Obj := mkFn (stAt (clsB (stAt pwB 66)) 7) _ _ _ rfl (Str.ofString "get_all") (Str.ofString "Headers.get_all") Value.none (Value.str (Str.ofString "cpy313.wsgiref.headers") 553) (Value.ref 147)
noncomputable def o156 : Obj := mkFn (stAt (clsB (stAt pwB 66)) 8) _ _ _ rfl (Str.ofString "get") (Str.ofString "Headers.get") (Value.ref 149) (Value.str (Str.ofString "cpy313.wsgiref.headers") 553) (Value.ref 155)
noncomputable def o161 : Obj := mkFn (stAt (clsB (stAt pwB 66)) 9) _ _ _ rfl (Str.ofString "keys") (Str.ofString "Headers.keys") Value.none (Value.str (Str.ofString "cpy313.wsgiref.headers") 553) (Value.ref 160)
noncomputable def o166 : Obj := mkFn (stAt (clsB (stAt pwB 66)) 10) _ _ _ rfl (Str.ofString "values") (Str.ofString "Headers.values") Value.none (Value.str (Str.ofString "cpy313.wsgiref.headers") 553) (Value.ref 165)
noncomputable def o173 : Obj := mkFn (stAt (clsB (stAt pwB 66)) 11) _ _ _ rfl (Str.ofString "items") (Str.ofString "Headers.items") Value.none (Value.str (Str.ofString "cpy313.wsgiref.headers") 553) (Value.ref 172)
noncomputable def o180 : Obj := mkFn (stAt (clsB (stAt pwB 66)) 12) _ _ _ rfl (Str.ofString "__repr__") (Str.ofString "Headers.__repr__") Value.none (Value.str (Str.ofString "cpy313.wsgiref.headers") 553) (Value.ref 179)
noncomputable def o185 : Obj := mkFn (stAt (clsB (stAt pwB 66)) 13) _ _ _ rfl (Str.ofString "__str__") (Str.ofString "Headers.__str__") Value.none (Value.str (Str.ofString "cpy313.wsgiref.headers") 553) (Value.ref 184)
noncomputable def o192 : Obj := mkFn (stAt (clsB (stAt pwB 66)) 14) _ _ _ rfl (Str.ofString "__bytes__") (Str.ofString "Headers.__bytes__") Value.none (Value.str (Str.ofString "cpy313.wsgiref.headers") 553) (Value.ref 191)
noncomputable def o199 : Obj := mkFn (stAt (clsB (stAt pwB 66)) 15) _ _ _ rfl (Str.ofString "setdefault") (Str.ofString "Headers.setdefault") Value.none (Value.str (Str.ofString "cpy313.wsgiref.headers") 553) (Value.ref 198)
noncomputable def o206 : Obj := mkFn (stAt (clsB (stAt pwB 66)) 16) _ _ _ rfl (Str.ofString "add_header") (Str.ofString "Headers.add_header") Value.none (Value.str (Str.ofString "cpy313.wsgiref.headers") 553) (Value.ref 205)
noncomputable def o220 : Obj := mkFn (stAt pwB 68) _ _ _ rfl (Str.ofString "_law_draws") (Str.ofString "_law_draws") Value.none (Value.str (Str.ofString "law_sh0066_01") 772) (Value.ref 219)
noncomputable def o225 : Obj := mkFn (stAt pwB 69) _ _ _ rfl (Str.ofString "_law_forest") (Str.ofString "_law_forest") Value.none (Value.str (Str.ofString "law_sh0066_01") 772) (Value.ref 224)
noncomputable def o232 : Obj := mkFn (stAt pwB 70) _ _ _ rfl (Str.ofString "_law_table") (Str.ofString "_law_table") Value.none (Value.str (Str.ofString "law_sh0066_01") 772) (Value.ref 231)
noncomputable def o239 : Obj := mkFn (stAt pwB 71) _ _ _ rfl (Str.ofString "_law_again") (Str.ofString "_law_again") Value.none (Value.str (Str.ofString "law_sh0066_01") 772) (Value.ref 238)
noncomputable def o246 : Obj := mkFn (stAt pwB 72) _ _ _ rfl (Str.ofString "_law_firm") (Str.ofString "_law_firm") Value.none (Value.str (Str.ofString "law_sh0066_01") 772) (Value.ref 245)
noncomputable def o251 : Obj := mkFn (stAt pwB 73) _ _ _ rfl (Str.ofString "_law_moved") (Str.ofString "_law_moved") Value.none (Value.str (Str.ofString "law_sh0066_01") 772) (Value.ref 250)
noncomputable def o258 : Obj := mkFn (stAt pwB 74) _ _ _ rfl (Str.ofString "_law_common") (Str.ofString "_law_common") Value.none (Value.str (Str.ofString "law_sh0066_01") 772) (Value.ref 257)
noncomputable def o263 : Obj := mkFn (stAt pwB 75) _ _ _ rfl (Str.ofString "law") (Str.ofString "law") Value.none (Value.str (Str.ofString "law_sh0066_01") 772) (Value.ref 262)
noncomputable def KK (P : Params) : Frag :=
  (nat_lit 2, (Obj.mk Value.none Option.none (Data.dict (List.toArray [(DictEntry.mk (PyData.keyHash P (Str.ofString "\x69mport.loaded._sre")) (Value.str (Str.ofString "\x69mport.loaded._sre") 183) (Value.bool Bool.true)), (DictEntry.mk (PyData.keyHash P (Str.ofString "class._frozen_\x69mportlib.BuiltinImporter")) (Value.str (Str.ofString "class._frozen_\x69mportlib.BuiltinImporter") 185) (Value.ref 14)), (DictEntry.mk (PyData.keyHash P (Str.ofString "watched.\x69mport")) (Value.str (Str.ofString "watched.\x69mport") 206) (Value.ref 18)), (DictEntry.mk (PyData.keyHash P (Str.ofString "class._frozen_\x69mportlib.ModuleSpec")) (Value.str (Str.ofString "class._frozen_\x69mportlib.ModuleSpec") 216) (Value.ref 22)), (DictEntry.mk (PyData.keyHash P (Str.ofString "sys.modules.booked-epoch")) (Value.str (Str.ofString "sys.modules.booked-epoch") 245) (Value.int 3 0)), (DictEntry.mk (PyData.keyHash P (Str.ofString "\x69mport.later-laid._sre")) (Value.str (Str.ofString "\x69mport.later-laid._sre") 270) (Value.bool Bool.true)), (DictEntry.mk (PyData.keyHash P (Str.ofString "watched.library")) (Value.str (Str.ofString "watched.library") 272) (Value.ref 27)), (DictEntry.mk (PyData.keyHash P (Str.ofString "watched.library-objects")) (Value.str (Str.ofString "watched.library-objects") 0) (Value.str (Str.ofString "\x0c") 0)), (DictEntry.mk (PyData.keyHash P (Str.ofString "watched.library-deep._sre")) (Value.str (Str.ofString "watched.library-deep._sre") 273) (Value.str (Str.ofString "\x04\x00\x00\x0b\x04\x00\x00\x0b\x04\x00\x00\x03\x04\x00\x00\x0b\x08\x04dict\x02") 0))]) 9) (List.toArray []))) ::
  (nat_lit 3, (Obj.mk (Value.type "dict") Option.none (Data.dict (List.toArray [(DictEntry.mk (PyData.keyHash P (Str.ofString "__name__")) (Value.str (Str.ofString "__name__") 165) (Value.str (Str.ofString "law_sh0066_01") 772)), (DictEntry.mk (PyData.keyHash P (Str.ofString "__doc__")) (Value.str (Str.ofString "__doc__") 166) Value.none), (DictEntry.mk (PyData.keyHash P (Str.ofString "__package__")) (Value.str (Str.ofString "__package__") 167) Value.none), (DictEntry.mk (PyData.keyHash P (Str.ofString "__loader__")) (Value.str (Str.ofString "__loader__") 168) (Value.builtin "__main__.__loader__#opaque")), (DictEntry.mk (PyData.keyHash P (Str.ofString "__spec__")) (Value.str (Str.ofString "__spec__") 169) Value.none), (DictEntry.mk (PyData.keyHash P (Str.ofString "__annotations__")) (Value.str (Str.ofString "__annotations__") 170) (Value.ref 6)), (DictEntry.mk (PyData.keyHash P (Str.ofString "__builtins__")) (Value.str (Str.ofString "__builtins__") 171) (Value.ref 4)), (DictEntry.mk (PyData.keyHash P (Str.ofString "__file__")) (Value.str (Str.ofString "__file__") 173) (Value.str (Str.ofString "/claim/cut.py") 172)), (DictEntry.mk (PyData.keyHash P (Str.ofString "__cached__")) (Value.str (Str.ofString "__cached__") 174) Value.none), (DictEntry.mk (PyData.keyHash P (Str.ofString "_sre")) (Value.str (Str.ofString "_sre") 275) (Value.ref 12)), (DictEntry.mk (PyData.keyHash P (Str.ofString "_wall")) (Value.str (Str.ofString "_wall") 288) (Value.ref 38)), (DictEntry.mk (PyData.keyHash P (Str.ofString "_MAX_STRING_SIZE")) (Value.str (Str.ofString "_MAX_STRING_SIZE") 292) (Value.int 40 291)), (DictEntry.mk (PyData.keyHash P (Str.ofString "_MOVE_COST")) (Value.str (Str.ofString "_MOVE_COST") 294) (Value.int 2 293)), (DictEntry.mk (PyData.keyHash P (Str.ofString "_CASE_COST")) (Value.str (Str.ofString "_CASE_COST") 296) (Value.int 1 295)), (DictEntry.mk (PyData.keyHash P (Str.ofString "_substitution_cost")) (Value.str (Str.ofString "_substitution_cost") 304) (Value.ref 45)), (DictEntry.mk (PyData.keyHash P (Str.ofString "_levenshtein_distance")) (Value.str (Str.ofString "_levenshtein_distance") 324) (Value.ref 52)), (DictEntry.mk (PyData.keyHash P (Str.ofString "_iter_escaped_chars")) (Value.str (Str.ofString "_iter_escaped_chars") 336) (Value.ref 59)), (DictEntry.mk (PyData.keyHash P (Str.ofString "_strip_quoted_realnames")) (Value.str (Str.ofString "_strip_quoted_realnames") 348) (Value.ref 66)), (DictEntry.mk (PyData.keyHash P (Str.ofString "LPAR")) (Value.str (Str.ofString "LPAR") 352) (Value.int 7 351)), (DictEntry.mk (PyData.keyHash P (Str.ofString "RPAR")) (Value.str (Str.ofString "RPAR") 354) (Value.int 8 353)), (DictEntry.mk (PyData.keyHash P (Str.ofString "LSQB")) (Value.str (Str.ofString "LSQB") 356) (Value.int 9 355)), (DictEntry.mk (PyData.keyHash P (Str.ofString "RSQB")) (Value.str (Str.ofString "RSQB") 358) (Value.int 10 357)), (DictEntry.mk (PyData.keyHash P (Str.ofString "COLON")) (Value.str (Str.ofString "COLON") 360) (Value.int 11 359)), (DictEntry.mk (PyData.keyHash P (Str.ofString "COMMA")) (Value.str (Str.ofString "COMMA") 362) (Value.int 12 361)), (DictEntry.mk (PyData.keyHash P (Str.ofString "SEMI")) (Value.str (Str.ofString "SEMI") 364) (Value.int 13 363)), (DictEntry.mk (PyData.keyHash P (Str.ofString "PLUS")) (Value.str (Str.ofString "PLUS") 366) (Value.int 14 365)), (DictEntry.mk (PyData.keyHash P (Str.ofString "MINUS")) (Value.str (Str.ofString "MINUS") 368) (Value.int 15 367)), (DictEntry.mk (PyData.keyHash P (Str.ofString "STAR")) (Value.str (Str.ofString "STAR") 370) (Value.int 16 369)), (DictEntry.mk (PyData.keyHash P (Str.ofString "SLASH")) (Value.str (Str.ofString "SLASH") 372) (Value.int 17 371)), (DictEntry.mk (PyData.keyHash P (Str.ofString "VBAR")) (Value.str (Str.ofString "VBAR") 374) (Value.int 18 373)), (DictEntry.mk (PyData.keyHash P (Str.ofString "AMPER")) (Value.str (Str.ofString "AMPER") 376) (Value.int 19 375)), (DictEntry.mk (PyData.keyHash P (Str.ofString "LESS")) (Value.str (Str.ofString "LESS") 378) (Value.int 20 377)), (DictEntry.mk (PyData.keyHash P (Str.ofString "GREATER")) (Value.str (Str.ofString "GREATER") 380) (Value.int 21 379)), (DictEntry.mk (PyData.keyHash P (Str.ofString "EQUAL")) (Value.str (Str.ofString "EQUAL") 382) (Value.int 22 381)), (DictEntry.mk (PyData.keyHash P (Str.ofString "DOT")) (Value.str (Str.ofString "DOT") 384) (Value.int 23 383)), (DictEntry.mk (PyData.keyHash P (Str.ofString "PERCENT")) (Value.str (Str.ofString "PERCENT") 386) (Value.int 24 385)), (DictEntry.mk (PyData.keyHash P (Str.ofString "LBRACE")) (Value.str (Str.ofString "LBRACE") 388) (Value.int 25 387)), (DictEntry.mk (PyData.keyHash P (Str.ofString "RBRACE")) (Value.str (Str.ofString "RBRACE") 390) (Value.int 26 389)), (DictEntry.mk (PyData.keyHash P (Str.ofString "EQEQUAL")) (Value.str (Str.ofString "EQEQUAL") 392) (Value.int 27 391)), (DictEntry.mk (PyData.keyHash P (Str.ofString "NOTEQUAL")) (Value.str (Str.ofString "NOTEQUAL") 394) (Value.int 28 393)), (DictEntry.mk (PyData.keyHash P (Str.ofString "LESSEQUAL")) (Value.str (Str.ofString "LESSEQUAL") 396) (Value.int 29 395)), (DictEntry.mk (PyData.keyHash P (Str.ofString "GREATEREQUAL")) (Value.str (Str.ofString "GREATEREQUAL") 398) (Value.int 30 397)), (DictEntry.mk (PyData.keyHash P (Str.ofString "TILDE")) (Value.str (Str.ofString "TILDE") 400) (Value.int 31 399)), (DictEntry.mk (PyData.keyHash P (Str.ofString "CIRCUMFLEX")) (Value.str (Str.ofString "CIRCUMFLEX") 402) (Value.int 32 401)), (DictEntry.mk (PyData.keyHash P (Str.ofString "LEFTSHIFT")) (Value.str (Str.ofString "LEFTSHIFT") 404) (Value.int 33 403)), (DictEntry.mk (PyData.keyHash P (Str.ofString "RIGHTSHIFT")) (Value.str (Str.ofString "RIGHTSHIFT") 406) (Value.int 34 405)), (DictEntry.mk (PyData.keyHash P (Str.ofString "DOUBLESTAR")) (Value.str (Str.ofString "DOUBLESTAR") 408) (Value.int 35 407)), (DictEntry.mk (PyData.keyHash P (Str.ofString "PLUSEQUAL")) (Value.str (Str.ofString "PLUSEQUAL") 410) (Value.int 36 409)), (DictEntry.mk (PyData.keyHash P (Str.ofString "MINEQUAL")) (Value.str (Str.ofString "MINEQUAL") 412) (Value.int 37 411)), (DictEntry.mk (PyData.keyHash P (Str.ofString "STAREQUAL")) (Value.str (Str.ofString "STAREQUAL") 414) (Value.int 38 413)), (DictEntry.mk (PyData.keyHash P (Str.ofString "SLASHEQUAL")) (Value.str (Str.ofString "SLASHEQUAL") 416) (Value.int 39 415)), (DictEntry.mk (PyData.keyHash P (Str.ofString "PERCENTEQUAL")) (Value.str (Str.ofString "PERCENTEQUAL") 418) (Value.int 40 417)), (DictEntry.mk (PyData.keyHash P (Str.ofString "AMPEREQUAL")) (Value.str (Str.ofString "AMPEREQUAL") 420) (Value.int 41 419)), (DictEntry.mk (PyData.keyHash P (Str.ofString "VBAREQUAL")) (Value.str (Str.ofString "VBAREQUAL") 422) (Value.int 42 421)), (DictEntry.mk (PyData.keyHash P (Str.ofString "CIRCUMFLEXEQUAL")) (Value.str (Str.ofString "CIRCUMFLEXEQUAL") 424) (Value.int 43 423)), (DictEntry.mk (PyData.keyHash P (Str.ofString "LEFTSHIFTEQUAL")) (Value.str (Str.ofString "LEFTSHIFTEQUAL") 426) (Value.int 44 425)), (DictEntry.mk (PyData.keyHash P (Str.ofString "RIGHTSHIFTEQUAL")) (Value.str (Str.ofString "RIGHTSHIFTEQUAL") 428) (Value.int 45 427)), (DictEntry.mk (PyData.keyHash P (Str.ofString "DOUBLESTAREQUAL")) (Value.str (Str.ofString "DOUBLESTAREQUAL") 430) (Value.int 46 429)), (DictEntry.mk (PyData.keyHash P (Str.ofString "DOUBLESLASH")) (Value.str (Str.ofString "DOUBLESLASH") 432) (Value.int 47 431)), (DictEntry.mk (PyData.keyHash P (Str.ofString "DOUBLESLASHEQUAL")) (Value.str (Str.ofString "DOUBLESLASHEQUAL") 434) (Value.int 48 433)), (DictEntry.mk (PyData.keyHash P (Str.ofString "AT")) (Value.str (Str.ofString "AT") 436) (Value.int 49 435)), (DictEntry.mk (PyData.keyHash P (Str.ofString "ATEQUAL")) (Value.str (Str.ofString "ATEQUAL") 438) (Value.int 50 437)), (DictEntry.mk (PyData.keyHash P (Str.ofString "RARROW")) (Value.str (Str.ofString "RARROW") 440) (Value.int 51 439)), (DictEntry.mk (PyData.keyHash P (Str.ofString "ELLIPSIS")) (Value.str (Str.ofString "ELLIPSIS") 442) (Value.int 52 441)), (DictEntry.mk (PyData.keyHash P (Str.ofString "COLONEQUAL")) (Value.str (Str.ofString "COLONEQUAL") 444) (Value.int 53 443)), (DictEntry.mk (PyData.keyHash P (Str.ofString "EXCLAMATION")) (Value.str (Str.ofString "EXCLAMATION") 446) (Value.int 54 445)), (DictEntry.mk (PyData.keyHash P (Str.ofString "NT_OFFSET")) (Value.str (Str.ofString "NT_OFFSET") 448) (Value.int 256 447)), (DictEntry.mk (PyData.keyHash P (Str.ofString "EXACT_TOKEN_TYPES")) (Value.str (Str.ofString "EXACT_TOKEN_TYPES") 545) (Value.ref 67)), (DictEntry.mk (PyData.keyHash P (Str.ofString "ISNONTERMINAL")) (Value.str (Str.ofString "ISNONTERMINAL") 552) (Value.ref 76)), (DictEntry.mk (PyData.keyHash P (Str.ofString "_name_disallowed_re")) (Value.str (Str.ofString "_name_disallowed_re") 580) (Value.ref 81)), (DictEntry.mk (PyData.keyHash P (Str.ofString "_value_disallowed_re")) (Value.str (Str.ofString "_value_disallowed_re") 614) (Value.ref 86)), (DictEntry.mk (PyData.keyHash P (Str.ofString "Headers")) (Value.str (Str.ofString "Headers") 771) (Value.ref 209)), (DictEntry.mk (PyData.keyHash P (Str.ofString "_law_draws")) (Value.str (Str.ofString "_law_draws") 783) (Value.ref 220)), (DictEntry.mk (PyData.keyHash P (Str.ofString "_law_forest")) (Value.str (Str.ofString "_law_forest") 789) (Value.ref 225)), (DictEntry.mk (PyData.keyHash P (Str.ofString "_law_table")) (Value.str (Str.ofString "_law_table") 802) (Value.ref 232)), (DictEntry.mk (PyData.keyHash P (Str.ofString "_law_again")) (Value.str (Str.ofString "_law_again") 817) (Value.ref 239)), (DictEntry.mk (PyData.keyHash P (Str.ofString "_law_firm")) (Value.str (Str.ofString "_law_firm") 830) (Value.ref 246)), (DictEntry.mk (PyData.keyHash P (Str.ofString "_law_moved")) (Value.str (Str.ofString "_law_moved") 836) (Value.ref 251)), (DictEntry.mk (PyData.keyHash P (Str.ofString "_law_common")) (Value.str (Str.ofString "_law_common") 850) (Value.ref 258)), (DictEntry.mk (PyData.keyHash P (Str.ofString "law")) (Value.str (Str.ofString "law") 856) (Value.ref 263))]) 80) (List.toArray []))) ::
  (nat_lit 32, (Obj.mk (Value.type "tuple") Option.none (Data.seq (List.toArray []) 0) (List.toArray []))) ::
  (nat_lit 34, (Obj.mk (Value.type "tuple") Option.none (Data.seq (List.toArray [(Value.str (Str.ofString "k") 285)]) 0) (List.toArray []))) ::
  (nat_lit 35, (Obj.mk (Value.type "tuple") Option.none (Data.seq (List.toArray []) 0) (List.toArray []))) ::
  (nat_lit 37, (Obj.mk (Value.type "code") Option.none (Data.fields (List.toArray [(Value.str (Str.ofString "_wall") 282), (Value.str (Str.ofString "_wall") 283), (Value.str (Str.ofString "/claim/cut.py") 284), (Value.int 2 0), (Value.int 1 0), (Value.int 0 0), (Value.int 0 0), (Value.int 3 0), (Value.ref 32), (Value.bool Bool.true), (Value.int 276 0), (Value.ref 33), Value.none, (Value.ref 34), (Value.ref 35), (Value.ref 36), (Value.int 286 0), (Value.int 2 0), (Value.str (Str.ofString "/claim/cut.py") 287)])) (List.toArray []))) ::
  (nat_lit 38, o38) ::
  (nat_lit 39, (Obj.mk (Value.type "tuple") Option.none (Data.seq (List.toArray []) 0) (List.toArray []))) ::
  (nat_lit 41, (Obj.mk (Value.type "tuple") Option.none (Data.seq (List.toArray [(Value.str (Str.ofString "ch_a") 300), (Value.str (Str.ofString "ch_b") 301)]) 0) (List.toArray []))) ::
  (nat_lit 42, (Obj.mk (Value.type "tuple") Option.none (Data.seq (List.toArray []) 0) (List.toArray []))) ::
  (nat_lit 44, (Obj.mk (Value.type "code") Option.none (Data.fields (List.toArray [(Value.str (Str.ofString "_substitution_cost") 297), (Value.str (Str.ofString "_substitution_cost") 298), (Value.str (Str.ofString "/claim/cut.py") 299), (Value.int 9 0), (Value.int 2 0), (Value.int 0 0), (Value.int 0 0), (Value.int 3 0), (Value.ref 39), (Value.bool Bool.true), (Value.int 276 0), (Value.ref 40), Value.none, (Value.ref 41), (Value.ref 42), (Value.ref 43), (Value.int 302 0), (Value.int 9 0), (Value.str (Str.ofString "/claim/cut.py") 303)])) (List.toArray []))) ::
  (nat_lit 45, o45) ::
  (nat_lit 46, (Obj.mk (Value.type "tuple") Option.none (Data.seq (List.toArray []) 0) (List.toArray []))) ::
  (nat_lit 48, (Obj.mk (Value.type "tuple") Option.none (Data.seq (List.toArray [(Value.str (Str.ofString "a") 308), (Value.str (Str.ofString "b") 309), (Value.str (Str.ofString "max_cost") 310), (Value.str (Str.ofString "pre") 311), (Value.str (Str.ofString "post") 312), (Value.str (Str.ofString "row") 313), (Value.str (Str.ofString "result") 314), (Value.str (Str.ofString "bindex") 315), (Value.str (Str.ofString "bchar") 316), (Value.str (Str.ofString "distance") 317), (Value.str (Str.ofString "minimum") 318), (Value.str (Str.ofString "index") 319), (Value.str (Str.ofString "substitute") 320), (Value.str (Str.ofString "insert_delete") 321)]) 0) (List.toArray []))) ::
  (nat_lit 49, (Obj.mk (Value.type "tuple") Option.none (Data.seq (List.toArray []) 0) (List.toArray []))) ::
  (nat_lit 51, (Obj.mk (Value.type "code") Option.none (Data.fields (List.toArray [(Value.str (Str.ofString "_levenshtein_distance") 305), (Value.str (Str.ofString "_levenshtein_distance") 306), (Value.str (Str.ofString "/claim/cut.py") 307), (Value.int 15 0), (Value.int 3 0), (Value.int 0 0), (Value.int 0 0), (Value.int 3 0), (Value.ref 46), (Value.bool Bool.true), (Value.int 276 0), (Value.ref 47), Value.none, (Value.ref 48), (Value.ref 49), (Value.ref 50), (Value.int 322 0), (Value.int 15 0), (Value.str (Str.ofString "/claim/cut.py") 323)])) (List.toArray []))) ::
  (nat_lit 52, o52) ::
  (nat_lit 53, (Obj.mk (Value.type "tuple") Option.none (Data.seq (List.toArray []) 0) (List.toArray []))) ::
  (nat_lit 55, (Obj.mk (Value.type "tuple") Option.none (Data.seq (List.toArray [(Value.str (Str.ofString "addr") 330), (Value.str (Str.ofString "pos") 331), (Value.str (Str.ofString "escape") 332), (Value.str (Str.ofString "ch") 333)]) 0) (List.toArray []))) ::
  (nat_lit 56, (Obj.mk (Value.type "tuple") Option.none (Data.seq (List.toArray []) 0) (List.toArray []))) ::
  (nat_lit 58, (Obj.mk (Value.type "code") Option.none (Data.fields (List.toArray [(Value.str (Str.ofString "_iter_escaped_chars") 327), (Value.str (Str.ofString "_iter_escaped_chars") 328), (Value.str (Str.ofString "/claim/cut.py") 329), (Value.int 54 0), (Value.int 1 0), (Value.int 0 0), (Value.int 0 0), (Value.int 35 0), (Value.ref 53), (Value.bool Bool.true), (Value.int 276 0), (Value.ref 54), Value.none, (Value.ref 55), (Value.ref 56), (Value.ref 57), (Value.int 334 0), (Value.int 54 0), (Value.str (Str.ofString "/claim/cut.py") 335)])) (List.toArray []))) ::
  (nat_lit 59, o59) ::
  (nat_lit 60, (Obj.mk (Value.type "tuple") Option.none (Data.seq (List.toArray []) 0) (List.toArray []))) ::
  (nat_lit 62, (Obj.mk (Value.type "tuple") Option.none (Data.seq (List.toArray [(Value.str (Str.ofString "addr") 340), (Value.str (Str.ofString "start") 341), (Value.str (Str.ofString "open_pos") 342), (Value.str (Str.ofString "result") 343), (Value.str (Str.ofString "pos") 344), (Value.str (Str.ofString "ch") 345)]) 0) (List.toArray []))) ::
  (nat_lit 63, (Obj.mk (Value.type "tuple") Option.none (Data.seq (List.toArray []) 0) (List.toArray []))) ::
  (nat_lit 65, (Obj.mk (Value.type "code") Option.none (Data.fields (List.toArray [(Value.str (Str.ofString "_strip_quoted_realnames") 337), (Value.str (Str.ofString "_strip_quoted_realnames") 338), (Value.str (Str.ofString "/claim/cut.py") 339), (Value.int 67 0), (Value.int 1 0), (Value.int 0 0), (Value.int 0 0), (Value.int 3 0), (Value.ref 60), (Value.bool Bool.true), (Value.int 276 0), (Value.ref 61), Value.none, (Value.ref 62), (Value.ref 63), (Value.ref 64), (Value.int 346 0), (Value.int 67 0), (Value.str (Str.ofString "/claim/cut.py") 347)])) (List.toArray []))) ::
  (nat_lit 66, o66) ::
  (nat_lit 67, (Obj.mk (Value.type "dict") Option.none (Data.dict (List.toArray [(DictEntry.mk (PyData.keyHash P (Str.ofString "!")) (Value.str (Str.ofString "!") 449) (Value.int 54 445)), (DictEntry.mk (PyData.keyHash P (Str.ofString "!=")) (Value.str (Str.ofString "!=") 451) (Value.int 28 393)), (DictEntry.mk (PyData.keyHash P (Str.ofString "%")) (Value.str (Str.ofString "%") 453) (Value.int 24 385)), (DictEntry.mk (PyData.keyHash P (Str.ofString "%=")) (Value.str (Str.ofString "%=") 455) (Value.int 40 417)), (DictEntry.mk (PyData.keyHash P (Str.ofString "&")) (Value.str (Str.ofString "&") 457) (Value.int 19 375)), (DictEntry.mk (PyData.keyHash P (Str.ofString "&=")) (Value.str (Str.ofString "&=") 459) (Value.int 41 419)), (DictEntry.mk (PyData.keyHash P (Str.ofString "(")) (Value.str (Str.ofString "(") 461) (Value.int 7 351)), (DictEntry.mk (PyData.keyHash P (Str.ofString ")")) (Value.str (Str.ofString ")") 463) (Value.int 8 353)), (DictEntry.mk (PyData.keyHash P (Str.ofString "*")) (Value.str (Str.ofString "*") 465) (Value.int 16 369)), (DictEntry.mk (PyData.keyHash P (Str.ofString "**")) (Value.str (Str.ofString "**") 467) (Value.int 35 407)), (DictEntry.mk (PyData.keyHash P (Str.ofString "**=")) (Value.str (Str.ofString "**=") 469) (Value.int 46 429)), (DictEntry.mk (PyData.keyHash P (Str.ofString "*=")) (Value.str (Str.ofString "*=") 471) (Value.int 38 413)), (DictEntry.mk (PyData.keyHash P (Str.ofString "+")) (Value.str (Str.ofString "+") 473) (Value.int 14 365)), (DictEntry.mk (PyData.keyHash P (Str.ofString "+=")) (Value.str (Str.ofString "+=") 475) (Value.int 36 409)), (DictEntry.mk (PyData.keyHash P (Str.ofString ",")) (Value.str (Str.ofString ",") 477) (Value.int 12 361)), (DictEntry.mk (PyData.keyHash P (Str.ofString "-")) (Value.str (Str.ofString "-") 479) (Value.int 15 367)), (DictEntry.mk (PyData.keyHash P (Str.ofString "-=")) (Value.str (Str.ofString "-=") 481) (Value.int 37 411)), (DictEntry.mk (PyData.keyHash P (Str.ofString "->")) (Value.str (Str.ofString "->") 483) (Value.int 51 439)), (DictEntry.mk (PyData.keyHash P (Str.ofString ".")) (Value.str (Str.ofString ".") 485) (Value.int 23 383)), (DictEntry.mk (PyData.keyHash P (Str.ofString "...")) (Value.str (Str.ofString "...") 487) (Value.int 52 441)), (DictEntry.mk (PyData.keyHash P (Str.ofString "/")) (Value.str (Str.ofString "/") 489) (Value.int 17 371)), (DictEntry.mk (PyData.keyHash P (Str.ofString "//")) (Value.str (Str.ofString "//") 491) (Value.int 47 431)), (DictEntry.mk (PyData.keyHash P (Str.ofString "//=")) (Value.str (Str.ofString "//=") 493) (Value.int 48 433)), (DictEntry.mk (PyData.keyHash P (Str.ofString "/=")) (Value.str (Str.ofString "/=") 495) (Value.int 39 415)), (DictEntry.mk (PyData.keyHash P (Str.ofString ":")) (Value.str (Str.ofString ":") 497) (Value.int 11 359)), (DictEntry.mk (PyData.keyHash P (Str.ofString ":=")) (Value.str (Str.ofString ":=") 499) (Value.int 53 443)), (DictEntry.mk (PyData.keyHash P (Str.ofString ";")) (Value.str (Str.ofString ";") 501) (Value.int 13 363)), (DictEntry.mk (PyData.keyHash P (Str.ofString "<")) (Value.str (Str.ofString "<") 503) (Value.int 20 377)), (DictEntry.mk (PyData.keyHash P (Str.ofString "<<")) (Value.str (Str.ofString "<<") 505) (Value.int 33 403)), (DictEntry.mk (PyData.keyHash P (Str.ofString "<<=")) (Value.str (Str.ofString "<<=") 507) (Value.int 44 425)), (DictEntry.mk (PyData.keyHash P (Str.ofString "<=")) (Value.str (Str.ofString "<=") 509) (Value.int 29 395)), (DictEntry.mk (PyData.keyHash P (Str.ofString "=")) (Value.str (Str.ofString "=") 511) (Value.int 22 381)), (DictEntry.mk (PyData.keyHash P (Str.ofString "==")) (Value.str (Str.ofString "==") 513) (Value.int 27 391)), (DictEntry.mk (PyData.keyHash P (Str.ofString ">")) (Value.str (Str.ofString ">") 515) (Value.int 21 379)), (DictEntry.mk (PyData.keyHash P (Str.ofString ">=")) (Value.str (Str.ofString ">=") 517) (Value.int 30 397)), (DictEntry.mk (PyData.keyHash P (Str.ofString ">>")) (Value.str (Str.ofString ">>") 518) (Value.int 34 405)), (DictEntry.mk (PyData.keyHash P (Str.ofString ">>=")) (Value.str (Str.ofString ">>=") 519) (Value.int 45 427)), (DictEntry.mk (PyData.keyHash P (Str.ofString "@")) (Value.str (Str.ofString "@") 520) (Value.int 49 435)), (DictEntry.mk (PyData.keyHash P (Str.ofString "@=")) (Value.str (Str.ofString "@=") 521) (Value.int 50 437)), (DictEntry.mk (PyData.keyHash P (Str.ofString "[")) (Value.str (Str.ofString "[") 522) (Value.int 9 355)), (DictEntry.mk (PyData.keyHash P (Str.ofString "]")) (Value.str (Str.ofString "]") 523) (Value.int 10 357)), (DictEntry.mk (PyData.keyHash P (Str.ofString "^")) (Value.str (Str.ofString "^") 524) (Value.int 32 401)), (DictEntry.mk (PyData.keyHash P (Str.ofString "^=")) (Value.str (Str.ofString "^=") 525) (Value.int 43 423)), (DictEntry.mk (PyData.keyHash P (Str.ofString "{")) (Value.str (Str.ofString "{") 526) (Value.int 25 387)), (DictEntry.mk (PyData.keyHash P (Str.ofString "|")) (Value.str (Str.ofString "|") 527) (Value.int 18 373)), (DictEntry.mk (PyData.keyHash P (Str.ofString "|=")) (Value.str (Str.ofString "|=") 528) (Value.int 42 421)), (DictEntry.mk (PyData.keyHash P (Str.ofString "}")) (Value.str (Str.ofString "}") 529) (Value.int 26 389)), (DictEntry.mk (PyData.keyHash P (Str.ofString "~")) (Value.str (Str.ofString "~") 530) (Value.int 31 399))]) 48) (List.toArray []))) ::
  (nat_lit 70, (Obj.mk (Value.type "tuple") Option.none (Data.seq (List.toArray []) 0) (List.toArray []))) ::
  (nat_lit 72, (Obj.mk (Value.type "tuple") Option.none (Data.seq (List.toArray [(Value.str (Str.ofString "x") 549)]) 0) (List.toArray []))) ::
  (nat_lit 73, (Obj.mk (Value.type "tuple") Option.none (Data.seq (List.toArray []) 0) (List.toArray []))) ::
  (nat_lit 75, (Obj.mk (Value.type "code") Option.none (Data.fields (List.toArray [(Value.str (Str.ofString "ISNONTERMINAL") 546), (Value.str (Str.ofString "ISNONTERMINAL") 547), (Value.str (Str.ofString "/claim/cut.py") 548), (Value.int 136 0), (Value.int 1 0), (Value.int 0 0), (Value.int 0 0), (Value.int 3 0), (Value.ref 70), (Value.bool Bool.true), (Value.int 276 0), (Value.ref 71), Value.none, (Value.ref 72), (Value.ref 73), (Value.ref 74), (Value.int 550 0), (Value.int 136 0), (Value.str (Str.ofString "/claim/cut.py") 551)])) (List.toArray []))) ::
  (nat_lit 76, o76) ::
  (nat_lit 80, (Obj.mk (Value.type "tuple") Option.none (Data.seq (List.toArray [(Value.int 14 0), (Value.int 10 0), (Value.int 4 0), (Value.int 1 0), (Value.int 1 0), (Value.int 22 0), (Value.int 0 0), (Value.int 31 0), (Value.int 16 0), (Value.int 127 0), (Value.int 0 0), (Value.int 13 0), (Value.int 7 0), (Value.int 22 0), (Value.int 0 0), (Value.int 31 0), (Value.int 16 0), (Value.int 127 0), (Value.int 0 0), (Value.int 1 0)]) 0) (List.toArray []))) ::
  (nat_lit 81, (Obj.mk (Value.type "re.Pattern") Option.none (Data.fields (List.toArray [(Value.str (Str.ofString "[\\x00-\\x1F\\x7F]") 556), (Value.int 32 579), (Value.int 0 0), Value.none, Value.none, (Value.ref 80), (Value.int 0 0)])) (List.toArray []))) ::
  (nat_lit 85, (Obj.mk (Value.type "tuple") Option.none (Data.seq (List.toArray [(Value.int 14 0), (Value.int 14 0), (Value.int 4 0), (Value.int 1 0), (Value.int 1 0), (Value.int 9 0), (Value.int 4294966783 0), (Value.int 0 0), (Value.int 0 0), (Value.int 2147483648 0), (Value.int 0 0), (Value.int 0 0), (Value.int 0 0), (Value.int 0 0), (Value.int 0 0), (Value.int 13 0), (Value.int 11 0), (Value.int 9 0), (Value.int 4294966783 0), (Value.int 0 0), (Value.int 0 0), (Value.int 2147483648 0), (Value.int 0 0), (Value.int 0 0), (Value.int 0 0), (Value.int 0 0), (Value.int 0 0), (Value.int 1 0)]) 0) (List.toArray []))) ::
  (nat_lit 86, (Obj.mk (Value.type "re.Pattern") Option.none (Data.fields (List.toArray [(Value.str (Str.ofString "[\\x00-\\x08\\x0A-\\x1F\\x7F]") 582), (Value.int 32 613), (Value.int 0 0), Value.none, Value.none, (Value.ref 85), (Value.int 0 0)])) (List.toArray []))) ::
  (nat_lit 94, (Obj.mk (Value.type "tuple") Option.none (Data.seq (List.toArray [Value.none]) 0) (List.toArray []))) ::
  (nat_lit 95, (Obj.mk (Value.type "tuple") Option.none (Data.seq (List.toArray []) 0) (List.toArray []))) ::
  (nat_lit 97, (Obj.mk (Value.type "tuple") Option.none (Data.seq (List.toArray [(Value.str (Str.ofString "self") 630), (Value.str (Str.ofString "headers") 631), (Value.str (Str.ofString "k") 632), (Value.str (Str.ofString "v") 633)]) 0) (List.toArray []))) ::
  (nat_lit 98, (Obj.mk (Value.type "tuple") Option.none (Data.seq (List.toArray []) 0) (List.toArray []))) ::
  (nat_lit 100, (Obj.mk (Value.type "code") Option.none (Data.fields (List.toArray [(Value.str (Str.ofString "__init__") 627), (Value.str (Str.ofString "Headers.__init__") 628), (Value.str (Str.ofString "/claim/cut.py") 629), (Value.int 143 0), (Value.int 2 0), (Value.int 0 0), (Value.int 0 0), (Value.int 3 0), (Value.ref 95), (Value.bool Bool.true), (Value.int 276 0), (Value.ref 96), Value.none, (Value.ref 97), (Value.ref 98), (Value.ref 99), (Value.int 634 0), (Value.int 143 0), (Value.str (Str.ofString "/claim/cut.py") 635)])) (List.toArray []))) ::
  (nat_lit 101, o101) ::
  (nat_lit 102, (Obj.mk (Value.type "tuple") Option.none (Data.seq (List.toArray []) 0) (List.toArray []))) ::
  (nat_lit 104, (Obj.mk (Value.type "tuple") Option.none (Data.seq (List.toArray [(Value.str (Str.ofString "self") 640), (Value.str (Str.ofString "value") 641), (Value.str (Str.ofString "name") 642), (Value.str (Str.ofString "regex") 643)]) 0) (List.toArray []))) ::
  (nat_lit 105, (Obj.mk (Value.type "tuple") Option.none (Data.seq (List.toArray []) 0) (List.toArray []))) ::
  (nat_lit 107, (Obj.mk (Value.type "code") Option.none (Data.fields (List.toArray [(Value.str (Str.ofString "_convert_string_type") 637), (Value.str (Str.ofString "Headers._convert_string_type") 638), (Value.str (Str.ofString "/claim/cut.py") 639), (Value.int 153 0), (Value.int 2 0), (Value.int 0 0), (Value.int 1 0), (Value.int 3 0), (Value.ref 102), (Value.bool Bool.true), (Value.int 276 0), (Value.ref 103), Value.none, (Value.ref 104), (Value.ref 105), (Value.ref 106), (Value.int 644 0), (Value.int 153 0), (Value.str (Str.ofString "/claim/cut.py") 645)])) (List.toArray []))) ::
  (nat_lit 108, o108) ::
  (nat_lit 109, (Obj.mk (Value.type "tuple") Option.none (Data.seq (List.toArray []) 0) (List.toArray []))) ::
  (nat_lit 111, (Obj.mk (Value.type "tuple") Option.none (Data.seq (List.toArray [(Value.str (Str.ofString "self") 650)]) 0) (List.toArray []))) ::
  (nat_lit 112, (Obj.mk (Value.type "tuple") Option.none (Data.seq (List.toArray []) 0) (List.toArray []))) ::
  (nat_lit 114, (Obj.mk (Value.type "code") Option.none (Data.fields (List.toArray [(Value.str (Str.ofString "__len__") 647), (Value.str (Str.ofString "Headers.__len__") 648), (Value.str (Str.ofString "/claim/cut.py") 649), (Value.int 161 0), (Value.int 1 0), (Value.int 0 0), (Value.int 0 0), (Value.int 3 0), (Value.ref 109), (Value.bool Bool.true), (Value.int 276 0), (Value.ref 110), Value.none, (Value.ref 111), (Value.ref 112), (Value.ref 113), (Value.int 651 0), (Value.int 161 0), (Value.str (Str.ofString "/claim/cut.py") 652)])) (List.toArray []))) ::
  (nat_lit 115, o115) ::
  (nat_lit 116, (Obj.mk (Value.type "tuple") Option.none (Data.seq (List.toArray []) 0) (List.toArray []))) ::
  (nat_lit 118, (Obj.mk (Value.type "tuple") Option.none (Data.seq (List.toArray [(Value.str (Str.ofString "self") 657), (Value.str (Str.ofString "name") 658), (Value.str (Str.ofString "val") 659)]) 0) (List.toArray []))) ::
  (nat_lit 119, (Obj.mk (Value.type "tuple") Option.none (Data.seq (List.toArray []) 0) (List.toArray []))) ::
  (nat_lit 121, (Obj.mk (Value.type "code") Option.none (Data.fields (List.toArray [(Value.str (Str.ofString "__setitem__") 654), (Value.str (Str.ofString "Headers.__setitem__") 655), (Value.str (Str.ofString "/claim/cut.py") 656), (Value.int 164 0), (Value.int 3 0), (Value.int 0 0), (Value.int 0 0), (Value.int 3 0), (Value.ref 116), (Value.bool Bool.true), (Value.int 276 0), (Value.ref 117), Value.none, (Value.ref 118), (Value.ref 119), (Value.ref 120), (Value.int 660 0), (Value.int 164 0), (Value.str (Str.ofString "/claim/cut.py") 661)])) (List.toArray []))) ::
  (nat_lit 122, o122) ::
  (nat_lit 123, (Obj.mk (Value.type "tuple") Option.none (Data.seq (List.toArray []) 0) (List.toArray []))) ::
  (nat_lit 126, (Obj.mk (Value.type "code") Option.none (Data.fields (List.toArray [(Value.str (Str.ofString "__delitem__") 663), (Value.str (Str.ofString "Headers.__delitem__") 664), (Value.str (Str.ofString "/claim/cut.py") 665), (Value.int 168 0), (Value.int 2 0), (Value.int 0 0), (Value.int 0 0), (Value.int 3 0), (Value.ref 123), (Value.bool Bool.true), (Value.int 276 0), (Value.ref 124), Value.none, Value.none, Value.none, (Value.ref 125), (Value.int 666 0), (Value.int 168 0), (Value.str (Str.ofString "/claim/cut.py") 667)])) (List.toArray []))) ::
  (nat_lit 127, o127) ::
  (nat_lit 128, (Obj.mk (Value.type "tuple") Option.none (Data.seq (List.toArray []) 0) (List.toArray []))) ::
  (nat_lit 130, (Obj.mk (Value.type "tuple") Option.none (Data.seq (List.toArray [(Value.str (Str.ofString "self") 672), (Value.str (Str.ofString "name") 673)]) 0) (List.toArray []))) ::
  (nat_lit 131, (Obj.mk (Value.type "tuple") Option.none (Data.seq (List.toArray []) 0) (List.toArray []))) ::
  (nat_lit 133, (Obj.mk (Value.type "code") Option.none (Data.fields (List.toArray [(Value.str (Str.ofString "__getitem__") 669), (Value.str (Str.ofString "Headers.__getitem__") 670), (Value.str (Str.ofString "/claim/cut.py") 671), (Value.int 172 0), (Value.int 2 0), (Value.int 0 0), (Value.int 0 0), (Value.int 3 0), (Value.ref 128), (Value.bool Bool.true), (Value.int 276 0), (Value.ref 129), Value.none, (Value.ref 130), (Value.ref 131), (Value.ref 132), (Value.int 674 0), (Value.int 172 0), (Value.str (Str.ofString "/claim/cut.py") 675)])) (List.toArray []))) ::
  (nat_lit 134, o134) ::
  (nat_lit 135, (Obj.mk (Value.type "tuple") Option.none (Data.seq (List.toArray []) 0) (List.toArray []))) ::
  (nat_lit 137, (Obj.mk (Value.type "tuple") Option.none (Data.seq (List.toArray [(Value.str (Str.ofString "self") 680), (Value.str (Str.ofString "name") 681)]) 0) (List.toArray []))) ::
  (nat_lit 138, (Obj.mk (Value.type "tuple") Option.none (Data.seq (List.toArray []) 0) (List.toArray []))) ::
  (nat_lit 140, (Obj.mk (Value.type "code") Option.none (Data.fields (List.toArray [(Value.str (Str.ofString "__contains__") 677), (Value.str (Str.ofString "Headers.__contains__") 678), (Value.str (Str.ofString "/claim/cut.py") 679), (Value.int 175 0), (Value.int 2 0), (Value.int 0 0), (Value.int 0 0), (Value.int 3 0), (Value.ref 135), (Value.bool Bool.true), (Value.int 276 0), (Value.ref 136), Value.none, (Value.ref 137), (Value.ref 138), (Value.ref 139), (Value.int 682 0), (Value.int 175 0), (Value.str (Str.ofString "/claim/cut.py") 683)])) (List.toArray []))) ::
  (nat_lit 141, o141) ::
  (nat_lit 142, (Obj.mk (Value.type "tuple") Option.none (Data.seq (List.toArray []) 0) (List.toArray []))) ::
  (nat_lit 144, (Obj.mk (Value.type "tuple") Option.none (Data.seq (List.toArray [(Value.str (Str.ofString "self") 688), (Value.str (Str.ofString "name") 689)]) 0) (List.toArray []))) ::
  (nat_lit 145, (Obj.mk (Value.type "tuple") Option.none (Data.seq (List.toArray []) 0) (List.toArray []))) ::
  (nat_lit 147, (Obj.mk (Value.type "code") Option.none (Data.fields (List.toArray [(Value.str (Str.ofString "get_all") 685), (Value.str (Str.ofString "Headers.get_all") 686), (Value.str (Str.ofString "/claim/cut.py") 687), (Value.int 178 0), (Value.int 2 0), (Value.int 0 0), (Value.int 0 0), (Value.int 3 0), (Value.ref 142), (Value.bool Bool.true), (Value.int 276 0), (Value.ref 143), Value.none, (Value.ref 144), (Value.ref 145), (Value.ref 146), (Value.int 690 0), (Value.int 178 0), (Value.str (Str.ofString "/claim/cut.py") 691)])) (List.toArray []))) ::
  (nat_lit 148, o148) ::
  (nat_lit 149, (Obj.mk (Value.type "tuple") Option.none (Data.seq (List.toArray [Value.none]) 0) (List.toArray []))) ::
  (nat_lit 150, (Obj.mk (Value.type "tuple") Option.none (Data.seq (List.toArray []) 0) (List.toArray []))) ::
  (nat_lit 152, (Obj.mk (Value.type "tuple") Option.none (Data.seq (List.toArray [(Value.str (Str.ofString "self") 696), (Value.str (Str.ofString "name") 697), (Value.str (Str.ofString "default") 698), (Value.str (Str.ofString "k") 699), (Value.str (Str.ofString "v") 700)]) 0) (List.toArray []))) ::
  (nat_lit 153, (Obj.mk (Value.type "tuple") Option.none (Data.seq (List.toArray []) 0) (List.toArray []))) ::
  (nat_lit 155, (Obj.mk (Value.type "code") Option.none (Data.fields (List.toArray [(Value.str (Str.ofString "get") 693), (Value.str (Str.ofString "Headers.get") 694), (Value.str (Str.ofString "/claim/cut.py") 695), (Value.int 181 0), (Value.int 3 0), (Value.int 0 0), (Value.int 0 0), (Value.int 3 0), (Value.ref 150), (Value.bool Bool.true), (Value.int 276 0), (Value.ref 151), Value.none, (Value.ref 152), (Value.ref 153), (Value.ref 154), (Value.int 701 0), (Value.int 181 0), (Value.str (Str.ofString "/claim/cut.py") 702)])) (List.toArray []))) ::
  (nat_lit 156, o156) ::
  (nat_lit 157, (Obj.mk (Value.type "tuple") Option.none (Data.seq (List.toArray []) 0) (List.toArray []))) ::
  (nat_lit 160, (Obj.mk (Value.type "code") Option.none (Data.fields (List.toArray [(Value.str (Str.ofString "keys") 704), (Value.str (Str.ofString "Headers.keys") 705), (Value.str (Str.ofString "/claim/cut.py") 706), (Value.int 188 0), (Value.int 1 0), (Value.int 0 0), (Value.int 0 0), (Value.int 3 0), (Value.ref 157), (Value.bool Bool.true), (Value.int 276 0), (Value.ref 158), Value.none, Value.none, Value.none, (Value.ref 159), (Value.int 707 0), (Value.int 188 0), (Value.str (Str.ofString "/claim/cut.py") 708)])) (List.toArray []))) ::
  (nat_lit 161, o161) ::
  (nat_lit 162, (Obj.mk (Value.type "tuple") Option.none (Data.seq (List.toArray []) 0) (List.toArray []))) ::
  (nat_lit 165, (Obj.mk (Value.type "code") Option.none (Data.fields (List.toArray [(Value.str (Str.ofString "values") 710), (Value.str (Str.ofString "Headers.values") 711), (Value.str (Str.ofString "/claim/cut.py") 712), (Value.int 191 0), (Value.int 1 0), (Value.int 0 0), (Value.int 0 0), (Value.int 3 0), (Value.ref 162), (Value.bool Bool.true), (Value.int 276 0), (Value.ref 163), Value.none, Value.none, Value.none, (Value.ref 164), (Value.int 713 0), (Value.int 191 0), (Value.str (Str.ofString "/claim/cut.py") 714)])) (List.toArray []))) ::
  (nat_lit 166, o166) ::
  (nat_lit 167, (Obj.mk (Value.type "tuple") Option.none (Data.seq (List.toArray []) 0) (List.toArray []))) ::
  (nat_lit 169, (Obj.mk (Value.type "tuple") Option.none (Data.seq (List.toArray [(Value.str (Str.ofString "self") 719)]) 0) (List.toArray []))) ::
  (nat_lit 170, (Obj.mk (Value.type "tuple") Option.none (Data.seq (List.toArray []) 0) (List.toArray []))) ::
  (nat_lit 172, (Obj.mk (Value.type "code") Option.none (Data.fields (List.toArray [(Value.str (Str.ofString "items") 716), (Value.str (Str.ofString "Headers.items") 717), (Value.str (Str.ofString "/claim/cut.py") 718), (Value.int 194 0), (Value.int 1 0), (Value.int 0 0), (Value.int 0 0), (Value.int 3 0), (Value.ref 167), (Value.bool Bool.true), (Value.int 276 0), (Value.ref 168), Value.none, (Value.ref 169), (Value.ref 170), (Value.ref 171), (Value.int 720 0), (Value.int 194 0), (Value.str (Str.ofString "/claim/cut.py") 721)])) (List.toArray []))) ::
  (nat_lit 173, o173) ::
  (nat_lit 174, (Obj.mk (Value.type "tuple") Option.none (Data.seq (List.toArray []) 0) (List.toArray []))) ::
  (nat_lit 176, (Obj.mk (Value.type "tuple") Option.none (Data.seq (List.toArray [(Value.str (Str.ofString "self") 726)]) 0) (List.toArray []))) ::
  (nat_lit 177, (Obj.mk (Value.type "tuple") Option.none (Data.seq (List.toArray []) 0) (List.toArray []))) ::
  (nat_lit 179, (Obj.mk (Value.type "code") Option.none (Data.fields (List.toArray [(Value.str (Str.ofString "__repr__") 723), (Value.str (Str.ofString "Headers.__repr__") 724), (Value.str (Str.ofString "/claim/cut.py") 725), (Value.int 197 0), (Value.int 1 0), (Value.int 0 0), (Value.int 0 0), (Value.int 3 0), (Value.ref 174), (Value.bool Bool.true), (Value.int 276 0), (Value.ref 175), Value.none, (Value.ref 176), (Value.ref 177), (Value.ref 178), (Value.int 727 0), (Value.int 197 0), (Value.str (Str.ofString "/claim/cut.py") 728)])) (List.toArray []))) ::
  (nat_lit 180, o180) ::
  (nat_lit 181, (Obj.mk (Value.type "tuple") Option.none (Data.seq (List.toArray []) 0) (List.toArray []))) ::
  (nat_lit 184, (Obj.mk (Value.type "code") Option.none (Data.fields (List.toArray [(Value.str (Str.ofString "__str__") 730), (Value.str (Str.ofString "Headers.__str__") 731), (Value.str (Str.ofString "/claim/cut.py") 732), (Value.int 200 0), (Value.int 1 0), (Value.int 0 0), (Value.int 0 0), (Value.int 3 0), (Value.ref 181), (Value.bool Bool.true), (Value.int 276 0), (Value.ref 182), Value.none, Value.none, Value.none, (Value.ref 183), (Value.int 733 0), (Value.int 200 0), (Value.str (Str.ofString "/claim/cut.py") 734)])) (List.toArray []))) ::
  (nat_lit 185, o185) ::
  (nat_lit 186, (Obj.mk (Value.type "tuple") Option.none (Data.seq (List.toArray []) 0) (List.toArray []))) ::
  (nat_lit 188, (Obj.mk (Value.type "tuple") Option.none (Data.seq (List.toArray [(Value.str (Str.ofString "self") 739)]) 0) (List.toArray []))) ::
  (nat_lit 189, (Obj.mk (Value.type "tuple") Option.none (Data.seq (List.toArray []) 0) (List.toArray []))) ::
  (nat_lit 191, (Obj.mk (Value.type "code") Option.none (Data.fields (List.toArray [(Value.str (Str.ofString "__bytes__") 736), (Value.str (Str.ofString "Headers.__bytes__") 737), (Value.str (Str.ofString "/claim/cut.py") 738), (Value.int 203 0), (Value.int 1 0), (Value.int 0 0), (Value.int 0 0), (Value.int 3 0), (Value.ref 186), (Value.bool Bool.true), (Value.int 276 0), (Value.ref 187), Value.none, (Value.ref 188), (Value.ref 189), (Value.ref 190), (Value.int 740 0), (Value.int 203 0), (Value.str (Str.ofString "/claim/cut.py") 741)])) (List.toArray []))) ::
  (nat_lit 192, o192) ::
  (nat_lit 193, (Obj.mk (Value.type "tuple") Option.none (Data.seq (List.toArray []) 0) (List.toArray []))) ::
  (nat_lit 195, (Obj.mk (Value.type "tuple") Option.none (Data.seq (List.toArray [(Value.str (Str.ofString "self") 746), (Value.str (Str.ofString "name") 747), (Value.str (Str.ofString "value") 748), (Value.str (Str.ofString "result") 749)]) 0) (List.toArray []))) ::
  (nat_lit 196, (Obj.mk (Value.type "tuple") Option.none (Data.seq (List.toArray []) 0) (List.toArray []))) ::
  (nat_lit 198, (Obj.mk (Value.type "code") Option.none (Data.fields (List.toArray [(Value.str (Str.ofString "setdefault") 743), (Value.str (Str.ofString "Headers.setdefault") 744), (Value.str (Str.ofString "/claim/cut.py") 745), (Value.int 206 0), (Value.int 3 0), (Value.int 0 0), (Value.int 0 0), (Value.int 3 0), (Value.ref 193), (Value.bool Bool.true), (Value.int 276 0), (Value.ref 194), Value.none, (Value.ref 195), (Value.ref 196), (Value.ref 197), (Value.int 750 0), (Value.int 206 0), (Value.str (Str.ofString "/claim/cut.py") 751)])) (List.toArray []))) ::
  (nat_lit 199, o199) ::
  (nat_lit 200, (Obj.mk (Value.type "tuple") Option.none (Data.seq (List.toArray []) 0) (List.toArray []))) ::
  (nat_lit 202, (Obj.mk (Value.type "tuple") Option.none (Data.seq (List.toArray [(Value.str (Str.ofString "self") 756), (Value.str (Str.ofString "_name") 757), (Value.str (Str.ofString "_value") 758), (Value.str (Str.ofString "_params") 759)]) 0) (List.toArray []))) ::
  (nat_lit 203, (Obj.mk (Value.type "tuple") Option.none (Data.seq (List.toArray []) 0) (List.toArray []))) ::
  (nat_lit 205, (Obj.mk (Value.type "code") Option.none (Data.fields (List.toArray [(Value.str (Str.ofString "add_header") 753), (Value.str (Str.ofString "Headers.add_header") 754), (Value.str (Str.ofString "/claim/cut.py") 755), (Value.int 214 0), (Value.int 3 0), (Value.int 0 0), (Value.int 0 0), (Value.int 11 0), (Value.ref 200), (Value.bool Bool.true), (Value.int 276 0), (Value.ref 201), Value.none, (Value.ref 202), (Value.ref 203), (Value.ref 204), (Value.int 760 0), (Value.int 214 0), (Value.str (Str.ofString "/claim/cut.py") 761)])) (List.toArray []))) ::
  (nat_lit 206, o206) ::
  (nat_lit 207, (Obj.mk (Value.type "tuple") Option.none (Data.seq (List.toArray [(Value.str (Str.ofString "_headers") 763)]) 0) (List.toArray []))) ::
  (nat_lit 208, (Obj.mk (Value.type "dict") Option.none (Data.dict (List.toArray [(DictEntry.mk (PyData.keyHash P (Str.ofString "__module__")) (Value.str (Str.ofString "__module__") 622) (Value.str (Str.ofString "cpy313.wsgiref.headers") 553)), (DictEntry.mk (PyData.keyHash P (Str.ofString "__firstlineno__")) (Value.str (Str.ofString "__firstlineno__") 626) (Value.int 141 625)), (DictEntry.mk (PyData.keyHash P (Str.ofString "__init__")) (Value.str (Str.ofString "__init__") 636) (Value.ref 101)), (DictEntry.mk (PyData.keyHash P (Str.ofString "_convert_string_type")) (Value.str (Str.ofString "_convert_string_type") 646) (Value.ref 108)), (DictEntry.mk (PyData.keyHash P (Str.ofString "__len__")) (Value.str (Str.ofString "__len__") 653) (Value.ref 115)), (DictEntry.mk (PyData.keyHash P (Str.ofString "__setitem__")) (Value.str (Str.ofString "__setitem__") 662) (Value.ref 122)), (DictEntry.mk (PyData.keyHash P (Str.ofString "__delitem__")) (Value.str (Str.ofString "__delitem__") 668) (Value.ref 127)), (DictEntry.mk (PyData.keyHash P (Str.ofString "__getitem__")) (Value.str (Str.ofString "__getitem__") 676) (Value.ref 134)), (DictEntry.mk (PyData.keyHash P (Str.ofString "__contains__")) (Value.str (Str.ofString "__contains__") 684) (Value.ref 141)), (DictEntry.mk (PyData.keyHash P (Str.ofString "get_all")) (Value.str (Str.ofString "get_all") 692) (Value.ref 148)), (DictEntry.mk (PyData.keyHash P (Str.ofString "get")) (Value.str (Str.ofString "get") 703) (Value.ref 156)), (DictEntry.mk (PyData.keyHash P (Str.ofString "keys")) (Value.str (Str.ofString "keys") 709) (Value.ref 161)), (DictEntry.mk (PyData.keyHash P (Str.ofString "values")) (Value.str (Str.ofString "values") 715) (Value.ref 166)), (DictEntry.mk (PyData.keyHash P (Str.ofString "items")) (Value.str (Str.ofString "items") 722) (Value.ref 173)), (DictEntry.mk (PyData.keyHash P (Str.ofString "__repr__")) (Value.str (Str.ofString "__repr__") 729) (Value.ref 180)), (DictEntry.mk (PyData.keyHash P (Str.ofString "__str__")) (Value.str (Str.ofString "__str__") 735) (Value.ref 185)), (DictEntry.mk (PyData.keyHash P (Str.ofString "__bytes__")) (Value.str (Str.ofString "__bytes__") 742) (Value.ref 192)), (DictEntry.mk (PyData.keyHash P (Str.ofString "setdefault")) (Value.str (Str.ofString "setdefault") 752) (Value.ref 199)), (DictEntry.mk (PyData.keyHash P (Str.ofString "add_header")) (Value.str (Str.ofString "add_header") 762) (Value.ref 206)), (DictEntry.mk (PyData.keyHash P (Str.ofString "__static_attributes__")) (Value.str (Str.ofString "__static_attributes__") 764) (Value.ref 207)), (DictEntry.mk (PyData.keyHash P (Str.ofString "__dict__")) (Value.str (Str.ofString "__dict__") 766) (Value.ref 210)), (DictEntry.mk (PyData.keyHash P (Str.ofString "__weakref__")) (Value.str (Str.ofString "__weakref__") 768) (Value.ref 211)), (DictEntry.mk (PyData.keyHash P (Str.ofString "__doc__")) (Value.str (Str.ofString "__doc__") 769) Value.none)]) 4) (List.toArray []))) ::
  (nat_lit 209, (Obj.mk (Value.type "type") Option.none (Data.cls (ClassData.mk (Str.ofString "Headers") [(Value.type "object")] [(Value.ref 209), (Value.type "object")] 208 (Str.ofString "Headers") Bool.true [] [] Bool.false Option.none Bool.false)) (List.toArray [Option.none, Option.none, (Option.some (Value.str (Str.ofString "Headers") 615)), (Option.some (Value.str (Str.ofString "Headers") 623)), (Option.some (Value.builtin "object.__new__")), (Option.some (Value.bool Bool.true))]))) ::
  (nat_lit 210, (Obj.mk (Value.type "getset_descriptor") Option.none (Data.fields (List.toArray [(Value.str (Str.ofString "__dict__") 765), (Value.ref 209), (Value.builtin "function.__dict__"), (Value.builtin "function.__dict__#set")])) (List.toArray []))) ::
  (nat_lit 211, (Obj.mk (Value.type "getset_descriptor") Option.none (Data.fields (List.toArray [(Value.str (Str.ofString "__weakref__") 767), (Value.ref 209), (Value.builtin "ExceptionGroup.__weakref__"), Value.none])) (List.toArray []))) ::
  (nat_lit 214, (Obj.mk (Value.type "tuple") Option.none (Data.seq (List.toArray []) 0) (List.toArray []))) ::
  (nat_lit 216, (Obj.mk (Value.type "tuple") Option.none (Data.seq (List.toArray [(Value.str (Str.ofString "script") 777), (Value.str (Str.ofString "draws") 778), (Value.str (Str.ofString "place") 779), (Value.str (Str.ofString "number") 780)]) 0) (List.toArray []))) ::
  (nat_lit 217, (Obj.mk (Value.type "tuple") Option.none (Data.seq (List.toArray []) 0) (List.toArray []))) ::
  (nat_lit 219, (Obj.mk (Value.type "code") Option.none (Data.fields (List.toArray [(Value.str (Str.ofString "_law_draws") 774), (Value.str (Str.ofString "_law_draws") 775), (Value.str (Str.ofString "/claim/cut.py") 776), (Value.int 217 0), (Value.int 1 0), (Value.int 0 0), (Value.int 0 0), (Value.int 3 0), (Value.ref 214), (Value.bool Bool.true), (Value.int 276 0), (Value.ref 215), Value.none, (Value.ref 216), (Value.ref 217), (Value.ref 218), (Value.int 781 0), (Value.int 217 0), (Value.str (Str.ofString "/claim/cut.py") 782)])) (List.toArray []))) ::
  (nat_lit 220, o220) ::
  (nat_lit 221, (Obj.mk (Value.type "tuple") Option.none (Data.seq (List.toArray []) 0) (List.toArray []))) ::
  (nat_lit 224, (Obj.mk (Value.type "code") Option.none (Data.fields (List.toArray [(Value.str (Str.ofString "_law_forest") 784), (Value.str (Str.ofString "_law_forest") 785), (Value.str (Str.ofString "/claim/cut.py") 786), (Value.int 222 0), (Value.int 1 0), (Value.int 0 0), (Value.int 0 0), (Value.int 3 0), (Value.ref 221), (Value.bool Bool.true), (Value.int 276 0), (Value.ref 222), Value.none, Value.none, Value.none, (Value.ref 223), (Value.int 787 0), (Value.int 222 0), (Value.str (Str.ofString "/claim/cut.py") 788)])) (List.toArray []))) ::
  (nat_lit 225, o225) ::
  (nat_lit 226, (Obj.mk (Value.type "tuple") Option.none (Data.seq (List.toArray []) 0) (List.toArray []))) ::
  (nat_lit 228, (Obj.mk (Value.type "tuple") Option.none (Data.seq (List.toArray [(Value.str (Str.ofString "text") 793), (Value.str (Str.ofString "table") 794), (Value.str (Str.ofString "way") 795), (Value.str (Str.ofString "opened") 796), (Value.str (Str.ofString "place") 797), (Value.str (Str.ofString "sign") 798), (Value.str (Str.ofString "kind") 799)]) 0) (List.toArray []))) ::
  (nat_lit 229, (Obj.mk (Value.type "tuple") Option.none (Data.seq (List.toArray []) 0) (List.toArray []))) ::
  (nat_lit 231, (Obj.mk (Value.type "code") Option.none (Data.fields (List.toArray [(Value.str (Str.ofString "_law_table") 790), (Value.str (Str.ofString "_law_table") 791), (Value.str (Str.ofString "/claim/cut.py") 792), (Value.int 234 0), (Value.int 1 0), (Value.int 0 0), (Value.int 0 0), (Value.int 3 0), (Value.ref 226), (Value.bool Bool.true), (Value.int 276 0), (Value.ref 227), Value.none, (Value.ref 228), (Value.ref 229), (Value.ref 230), (Value.int 800 0), (Value.int 234 0), (Value.str (Str.ofString "/claim/cut.py") 801)])) (List.toArray []))) ::
  (nat_lit 232, o232) ::
  (nat_lit 233, (Obj.mk (Value.type "tuple") Option.none (Data.seq (List.toArray []) 0) (List.toArray []))) ::
  (nat_lit 235, (Obj.mk (Value.type "tuple") Option.none (Data.seq (List.toArray [(Value.str (Str.ofString "names") 806), (Value.str (Str.ofString "depths") 807), (Value.str (Str.ofString "shared") 808), (Value.str (Str.ofString "begin") 809), (Value.str (Str.ofString "end") 810), (Value.str (Str.ofString "level") 811), (Value.str (Str.ofString "text") 812), (Value.str (Str.ofString "place") 813), (Value.str (Str.ofString "stop") 814)]) 0) (List.toArray []))) ::
  (nat_lit 236, (Obj.mk (Value.type "tuple") Option.none (Data.seq (List.toArray []) 0) (List.toArray []))) ::
  (nat_lit 238, (Obj.mk (Value.type "code") Option.none (Data.fields (List.toArray [(Value.str (Str.ofString "_law_again") 803), (Value.str (Str.ofString "_law_again") 804), (Value.str (Str.ofString "/claim/cut.py") 805), (Value.int 248 0), (Value.int 6 0), (Value.int 0 0), (Value.int 0 0), (Value.int 3 0), (Value.ref 233), (Value.bool Bool.true), (Value.int 276 0), (Value.ref 234), Value.none, (Value.ref 235), (Value.ref 236), (Value.ref 237), (Value.int 815 0), (Value.int 248 0), (Value.str (Str.ofString "/claim/cut.py") 816)])) (List.toArray []))) ::
  (nat_lit 239, o239) ::
  (nat_lit 240, (Obj.mk (Value.type "tuple") Option.none (Data.seq (List.toArray []) 0) (List.toArray []))) ::
  (nat_lit 242, (Obj.mk (Value.type "tuple") Option.none (Data.seq (List.toArray [(Value.str (Str.ofString "ways") 821), (Value.str (Str.ofString "pairs") 822), (Value.str (Str.ofString "costs") 823), (Value.str (Str.ofString "pair") 824), (Value.str (Str.ofString "cost") 825), (Value.str (Str.ofString "one") 826), (Value.str (Str.ofString "two") 827)]) 0) (List.toArray []))) ::
  (nat_lit 243, (Obj.mk (Value.type "tuple") Option.none (Data.seq (List.toArray []) 0) (List.toArray []))) ::
  (nat_lit 245, (Obj.mk (Value.type "code") Option.none (Data.fields (List.toArray [(Value.str (Str.ofString "_law_firm") 818), (Value.str (Str.ofString "_law_firm") 819), (Value.str (Str.ofString "/claim/cut.py") 820), (Value.int 261 0), (Value.int 3 0), (Value.int 0 0), (Value.int 0 0), (Value.int 3 0), (Value.ref 240), (Value.bool Bool.true), (Value.int 276 0), (Value.ref 241), Value.none, (Value.ref 242), (Value.ref 243), (Value.ref 244), (Value.int 828 0), (Value.int 261 0), (Value.str (Str.ofString "/claim/cut.py") 829)])) (List.toArray []))) ::
  (nat_lit 246, o246) ::
  (nat_lit 247, (Obj.mk (Value.type "tuple") Option.none (Data.seq (List.toArray []) 0) (List.toArray []))) ::
  (nat_lit 250, (Obj.mk (Value.type "code") Option.none (Data.fields (List.toArray [(Value.str (Str.ofString "_law_moved") 831), (Value.str (Str.ofString "_law_moved") 832), (Value.str (Str.ofString "/claim/cut.py") 833), (Value.int 270 0), (Value.int 1 0), (Value.int 0 0), (Value.int 0 0), (Value.int 3 0), (Value.ref 247), (Value.bool Bool.true), (Value.int 276 0), (Value.ref 248), Value.none, Value.none, Value.none, (Value.ref 249), (Value.int 834 0), (Value.int 270 0), (Value.str (Str.ofString "/claim/cut.py") 835)])) (List.toArray []))) ::
  (nat_lit 251, o251) ::
  (nat_lit 252, (Obj.mk (Value.type "tuple") Option.none (Data.seq (List.toArray []) 0) (List.toArray []))) ::
  (nat_lit 254, (Obj.mk (Value.type "tuple") Option.none (Data.seq (List.toArray [(Value.str (Str.ofString "names") 840), (Value.str (Str.ofString "deep") 841), (Value.str (Str.ofString "pairs") 842), (Value.str (Str.ofString "costs") 843), (Value.str (Str.ofString "common") 844), (Value.str (Str.ofString "pair") 845), (Value.str (Str.ofString "cost") 846), (Value.str (Str.ofString "most") 847)]) 0) (List.toArray []))) ::
  (nat_lit 255, (Obj.mk (Value.type "tuple") Option.none (Data.seq (List.toArray []) 0) (List.toArray []))) ::
  (nat_lit 257, (Obj.mk (Value.type "code") Option.none (Data.fields (List.toArray [(Value.str (Str.ofString "_law_common") 837), (Value.str (Str.ofString "_law_common") 838), (Value.str (Str.ofString "/claim/cut.py") 839), (Value.int 279 0), (Value.int 4 0), (Value.int 0 0), (Value.int 0 0), (Value.int 3 0), (Value.ref 252), (Value.bool Bool.true), (Value.int 276 0), (Value.ref 253), Value.none, (Value.ref 254), (Value.ref 255), (Value.ref 256), (Value.int 848 0), (Value.int 279 0), (Value.str (Str.ofString "/claim/cut.py") 849)])) (List.toArray []))) ::
  (nat_lit 258, o258) ::
  (nat_lit 259, (Obj.mk (Value.type "tuple") Option.none (Data.seq (List.toArray []) 0) (List.toArray []))) ::
  (nat_lit 262, (Obj.mk (Value.type "code") Option.none (Data.fields (List.toArray [(Value.str (Str.ofString "law") 851), (Value.str (Str.ofString "law") 852), (Value.str (Str.ofString "/claim/cut.py") 853), (Value.int 288 0), (Value.int 1 0), (Value.int 0 0), (Value.int 0 0), (Value.int 3 0), (Value.ref 259), (Value.bool Bool.true), (Value.int 276 0), (Value.ref 260), Value.none, Value.none, Value.none, (Value.ref 261), (Value.int 854 0), (Value.int 288 0), (Value.str (Str.ofString "/claim/cut.py") 855)])) (List.toArray []))) ::
  (nat_lit 263, o263) :: []
noncomputable def QQ : Program := view PySem.Challenge.pw_sh0066_01 ([0, 1, 3, 4, 5, 6, 7, 9, 10] ++ (List.range 51).map (· + 12) ++ [64, 65, 66, 68, 69, 70, 71, 72, 73, 74, 75])
noncomputable def LS : List Str := [Str.ofString "EXACT_TOKEN_TYPES", Str.ofString "_name_disallowed_re", Str.ofString "_value_disallowed_re"]
noncomputable abbrev XT (s : Shared) : Bool := xlAt QQ [] s && recOk (RowW.records PySem.Challenge.rw_sh0066_01.row.toRowW) s
noncomputable abbrev HK : Hook := kHook KK [2, 3, 32, 34, 35, 37, 38, 39, 41, 42, 44, 45, 46, 48, 49, 51, 52, 53, 55, 56, 58, 59, 60, 62, 63, 65, 66, 67, 70, 72, 73, 75, 76, 80, 81, 85, 86, 94, 95, 97, 98, 100, 101, 102, 104, 105, 107, 108, 109, 111, 112, 114, 115, 116, 118, 119, 121, 122, 123, 126, 127, 128, 130, 131, 133, 134, 135, 137, 138, 140, 141, 142, 144, 145, 147, 148, 149, 150, 152, 153, 155, 156, 157, 160, 161, 162, 165, 166, 167, 169, 170, 172, 173, 174, 176, 177, 179, 180, 181, 184, 185, 186, 188, 189, 191, 192, 193, 195, 196, 198, 199, 200, 202, 203, 205, 206, 207, 208, 209, 210, 211, 214, 216, 217, 219, 220, 221, 224, 225, 226, 228, 229, 231, 232, 233, 235, 236, 238, 239, 240, 242, 243, 245, 246, 247, 250, 251, 252, 254, 255, 257, 258, 259, 262, 263] (fun _ => by kernel_rfl)


-- PART Heaps
theorem lnHeaps : True := by
  k_with_none
  trivial
/-! NOLINES the states at the cuts of the top's run -/
noncomputable def mkCo (st : Option Stmt) (a : Arguments) (b : List Stmt) (sc : Scope) (_ : fdP st = some (a, b, sc)) (name qual : Str) : Obj :=
  { cls := Value.none, data := .func { name := name, qualname := qual, params := a, body := .stmts b, scope := sc, globals := 0, closure := [], defaults := .none, kwdefaults := .none, doc := .none, pyModule := .none, annotations := none, code := .none, closureTuple := .none, builtins := 0 } }
noncomputable def vS (x : String) (n : Nat) : Value := .str (Str.ofString x) n
noncomputable def dE (P : Params) (x : String) (n : Nat) (v : Value) : DictEntry := .mk (PyData.keyHash P (Str.ofString x)) (.str (Str.ofString x) n) v
noncomputable def q41 (P : Params) : Obj := (Obj.mk (Value.type "dict") Option.none (Data.dict (List.toArray [(dE P "__name__" 1 (vS "builtins" 160)), (dE P "__doc__" 2 (Value.builtin "builtins.__doc__:str#opaque")), (dE P "__package__" 3 (Value.builtin "builtins.__package__:str#opaque")), (dE P "__loader__" 4 (Value.builtin "builtins.__loader__:shared#opaque")), (dE P "__spec__" 5 (Value.builtin "builtins.__spec__#opaque")), (dE P "__build_class__" 6 (Value.builtin "__build_class__")), (dE P "__\x69mport__" 7 (Value.builtin "__\x69mport__")), (dE P "abs" 8 (Value.builtin "abs")), (dE P "all" 9 (Value.builtin "all")), (dE P "any" 10 (Value.builtin "any")), (dE P "ascii" 11 (Value.builtin "ascii")), (dE P "bin" 12 (Value.builtin "bin")), (dE P "breakpoint" 13 (Value.builtin "breakpoint")), (dE P "callable" 14 (Value.builtin "callable")), (dE P "chr" 15 (Value.builtin "chr")), (dE P "compile" 16 (Value.builtin "compile")), (dE P "delattr" 17 (Value.builtin "delattr")), (dE P "dir" 18 (Value.builtin "dir")), (dE P "divmod" 19 (Value.builtin "divmod")), (dE P "eval" 20 (Value.builtin "eval")), (dE P "exec" 21 (Value.builtin "exec")), (dE P "format" 22 (Value.builtin "format")), (dE P "getattr" 23 (Value.builtin "getattr")), (dE P "globals" 24 (Value.builtin "globals")), (dE P "hasattr" 25 (Value.builtin "hasattr")), (dE P "hash" 26 (Value.builtin "hash")), (dE P "hex" 27 (Value.builtin "hex")), (dE P "id" 28 (Value.builtin "id")), (dE P "input" 29 (Value.builtin "input")), (dE P "isinstance" 30 (Value.builtin "isinstance")), (dE P "issubclass" 31 (Value.builtin "issubclass")), (dE P "iter" 32 (Value.builtin "iter")), (dE P "aiter" 33 (Value.builtin "aiter")), (dE P "len" 34 (Value.builtin "len")), (dE P "locals" 35 (Value.builtin "locals")), (dE P "max" 36 (Value.builtin "max")), (dE P "min" 37 (Value.builtin "min")), (dE P "next" 38 (Value.builtin "next")), (dE P "anext" 39 (Value.builtin "anext")), (dE P "oct" 40 (Value.builtin "oct")), (dE P "ord" 41 (Value.builtin "ord")), (dE P "pow" 42 (Value.builtin "pow")), (dE P "print" 43 (Value.builtin "print")), (dE P "repr" 44 (Value.builtin "repr")), (dE P "round" 45 (Value.builtin "round")), (dE P "setattr" 46 (Value.builtin "setattr")), (dE P "sorted" 47 (Value.builtin "sorted")), (dE P "sum" 48 (Value.builtin "sum")), (dE P "vars" 49 (Value.builtin "vars")), (dE P "None" 50 Value.none), (dE P "Ellipsis" 51 Value.ellipsis), (dE P "NotImplemented" 52 Value.notImplemented), (dE P "False" 53 (Value.bool Bool.false)), (dE P "True" 54 (Value.bool Bool.true)), (dE P "bool" 55 (Value.type "bool")), (dE P "memoryview" 56 (Value.type "memoryview")), (dE P "bytearray" 57 (Value.type "bytearray")), (dE P "bytes" 58 (Value.type "bytes")), (dE P "classmethod" 59 (Value.type "classmethod")), (dE P "complex" 60 (Value.type "complex")), (dE P "dict" 61 (Value.type "dict")), (dE P "enumerate" 62 (Value.type "enumerate")), (dE P "filter" 63 (Value.type "filter")), (dE P "float" 64 (Value.type "float")), (dE P "frozenset" 65 (Value.type "frozenset")), (dE P "property" 66 (Value.type "property")), (dE P "int" 67 (Value.type "int")), (dE P "list" 68 (Value.type "list")), (dE P "map" 69 (Value.type "map")), (dE P "object" 70 (Value.type "object")), (dE P "range" 71 (Value.type "range")), (dE P "reversed" 72 (Value.type "reversed")), (dE P "set" 73 (Value.type "set")), (dE P "slice" 74 (Value.type "slice")), (dE P "staticmethod" 75 (Value.type "staticmethod")), (dE P "str" 76 (Value.type "str")), (dE P "super" 77 (Value.type "super")), (dE P "tuple" 78 (Value.type "tuple")), (dE P "type" 79 (Value.type "type")), (dE P "zip" 80 (Value.type "zip")), (dE P "__debug__" 81 (Value.bool Bool.true)), (dE P "BaseException" 82 (Value.type "BaseException")), (dE P "BaseExceptionGroup" 83 (Value.type "BaseExceptionGroup")), (dE P "Exception" 84 (Value.type "Exception")), (dE P "GeneratorExit" 85 (Value.type "GeneratorExit")), (dE P "KeyboardInterrupt" 86 (Value.type "KeyboardInterrupt")), (dE P "SystemExit" 87 (Value.type "SystemExit")), (dE P "ArithmeticError" 88 (Value.type "ArithmeticError")), (dE P "AssertionError" 89 (Value.type "AssertionError")), (dE P "AttributeError" 90 (Value.type "AttributeError")), (dE P "BufferError" 91 (Value.type "BufferError")), (dE P "EOFError" 92 (Value.type "EOFError")), (dE P "ImportError" 93 (Value.type "ImportError")), (dE P "LookupError" 94 (Value.type "LookupError")), (dE P "MemoryError" 95 (Value.type "MemoryError")), (dE P "NameError" 96 (Value.type "NameError")), (dE P "OSError" 97 (Value.type "OSError")), (dE P "ReferenceError" 98 (Value.type "ReferenceError")), (dE P "RuntimeError" 99 (Value.type "RuntimeError")), (dE P "StopAsyncIteration" 100 (Value.type "StopAsyncIteration")), (dE P "StopIteration" 101 (Value.type "StopIteration")), (dE P "SyntaxError" 102 (Value.type "SyntaxError")), (dE P "SystemError" 103 (Value.type "SystemError")), (dE P "TypeError" 104 (Value.type "TypeError")), (dE P "ValueError" 105 (Value.type "ValueError")), (dE P "Warning" 106 (Value.type "Warning")), (dE P "FloatingPointError" 107 (Value.type "FloatingPointError")), (dE P "OverflowError" 108 (Value.type "OverflowError")), (dE P "ZeroDivisionError" 109 (Value.type "ZeroDivisionError")), (dE P "BytesWarning" 110 (Value.type "BytesWarning")), (dE P "DeprecationWarning" 111 (Value.type "DeprecationWarning")), (dE P "EncodingWarning" 112 (Value.type "EncodingWarning")), (dE P "FutureWarning" 113 (Value.type "FutureWarning")), (dE P "ImportWarning" 114 (Value.type "ImportWarning")), (dE P "PendingDeprecationWarning" 115 (Value.type "PendingDeprecationWarning")), (dE P "ResourceWarning" 116 (Value.type "ResourceWarning")), (dE P "RuntimeWarning" 117 (Value.type "RuntimeWarning")), (dE P "SyntaxWarning" 118 (Value.type "SyntaxWarning")), (dE P "UnicodeWarning" 119 (Value.type "UnicodeWarning")), (dE P "UserWarning" 120 (Value.type "UserWarning")), (dE P "BlockingIOError" 121 (Value.type "BlockingIOError")), (dE P "ChildProcessError" 122 (Value.type "ChildProcessError")), (dE P "ConnectionError" 123 (Value.type "ConnectionError")), (dE P "FileExistsError" 124 (Value.type "FileExistsError")), (dE P "FileNotFoundError" 125 (Value.type "FileNotFoundError")), (dE P "InterruptedError" 126 (Value.type "InterruptedError")), (dE P "IsADirectoryError" 127 (Value.type "IsADirectoryError")), (dE P "NotADirectoryError" 128 (Value.type "NotADirectoryError")), (dE P "PermissionError" 129 (Value.type "PermissionError")), (dE P "ProcessLookupError" 130 (Value.type "ProcessLookupError")), (dE P "TimeoutError" 131 (Value.type "TimeoutError")), (dE P "IndentationError" 132 (Value.type "IndentationError")), (dE P "_IncompleteInputError" 133 (Value.type "_IncompleteInputError")), (dE P "IndexError" 134 (Value.type "IndexError")), (dE P "KeyError" 135 (Value.type "KeyError")), (dE P "ModuleNotFoundError" 136 (Value.type "ModuleNotFoundError")), (dE P "NotImplementedError" 137 (Value.type "NotImplementedError")), (dE P "PythonFinalizationError" 138 (Value.type "PythonFinalizationError")), (dE P "RecursionError" 139 (Value.type "RecursionError")), (dE P "UnboundLocalError" 140 (Value.type "UnboundLocalError")), (dE P "UnicodeError" 141 (Value.type "UnicodeError")), (dE P "BrokenPipeError" 142 (Value.type "BrokenPipeError")), (dE P "ConnectionAbortedError" 143 (Value.type "ConnectionAbortedError")), (dE P "ConnectionRefusedError" 144 (Value.type "ConnectionRefusedError")), (dE P "ConnectionResetError" 145 (Value.type "ConnectionResetError")), (dE P "TabError" 146 (Value.type "TabError")), (dE P "UnicodeDecodeError" 147 (Value.type "UnicodeDecodeError")), (dE P "UnicodeEncodeError" 148 (Value.type "UnicodeEncodeError")), (dE P "UnicodeTranslateError" 149 (Value.type "UnicodeTranslateError")), (dE P "ExceptionGroup" 150 (Value.type "ExceptionGroup")), (dE P "EnvironmentError" 151 (Value.type "OSError")), (dE P "IOError" 152 (Value.type "OSError")), (dE P "open" 153 (Value.builtin "open")), (dE P "quit" 154 (Value.builtin "builtins.quit#opaque")), (dE P "exit" 155 (Value.builtin "builtins.exit#opaque")), (dE P "copyright" 156 (Value.builtin "builtins.copyright#opaque")), (dE P "credits" 157 (Value.builtin "builtins.credits#opaque")), (dE P "license" 158 (Value.builtin "builtins.license#opaque")), (dE P "help" 159 (Value.builtin "builtins.help#opaque"))]) 159) (List.toArray []))
noncomputable def q42 (P : Params) : Obj := (Obj.mk (Value.type "dict") Option.none (Data.dict (List.toArray [(dE P "builtins" 162 (Value.ref 4)), (dE P "__main__" 163 (Value.ref 5)), (dE P "_sre" 244 (Value.ref 12))]) 3) (List.toArray []))
noncomputable def q43 (P : Params) : Obj := (Obj.mk Value.none Option.none (Data.dict (List.toArray [(dE P "\x69mport.loaded._sre" 183 (Value.bool Bool.true)), (dE P "class._frozen_\x69mportlib.BuiltinImporter" 185 (Value.ref 14)), (dE P "watched.\x69mport" 206 (Value.ref 18)), (dE P "class._frozen_\x69mportlib.ModuleSpec" 216 (Value.ref 22)), (dE P "sys.modules.booked-epoch" 245 (Value.int 3 0)), (dE P "\x69mport.later-laid._sre" 270 (Value.bool Bool.true)), (dE P "watched.library" 272 (Value.ref 27)), (dE P "watched.library-objects" 0 (vS "\x0c" 0)), (dE P "watched.library-deep._sre" 273 (vS "\x04\x00\x00\x0b\x04\x00\x00\x0b\x04\x00\x00\x03\x04\x00\x00\x0b\x08\x04dict\x02" 0))]) 9) (List.toArray []))
noncomputable def q44 (P : Params) : Obj := (Obj.mk (Value.type "dict") Option.none (Data.dict (List.toArray [(dE P "__name__" 165 (vS "__main__" 164)), (dE P "__doc__" 166 Value.none), (dE P "__package__" 167 Value.none), (dE P "__loader__" 168 (Value.builtin "__main__.__loader__#opaque")), (dE P "__spec__" 169 Value.none), (dE P "__annotations__" 170 (Value.ref 6)), (dE P "__builtins__" 171 (Value.ref 4)), (dE P "__file__" 173 (vS "/claim/cut.py" 172)), (dE P "__cached__" 174 Value.none), (dE P "_sre" 275 (Value.ref 12))]) 10) (List.toArray []))
noncomputable def q45 : Obj := (Obj.mk (Value.type "module") (Option.some 0) Data.plain (List.toArray []))
noncomputable def q46 : Obj := (Obj.mk (Value.type "module") (Option.some 3) Data.plain (List.toArray []))
noncomputable def q47 : Obj := (Obj.mk (Value.type "dict") Option.none (Data.dict (List.toArray []) 0) (List.toArray []))
noncomputable def q48 : Obj := (Obj.mk (Value.type "tuple") Option.none (Data.seq (List.toArray []) 0) (List.toArray []))
noncomputable def q49 : Obj := (Obj.mk Value.none Option.none (Data.fields (List.toArray [])) (List.toArray []))
noncomputable def q50 : Obj := (Obj.mk (Value.type "code") Option.none (Data.fields (List.toArray [(vS "<module>" 176), (vS "<module>" 177), (vS "/claim/cut.py" 178), (Value.int 1 0), (Value.int 0 0), (Value.int 0 0), (Value.int 0 0), (Value.int 0 0), (Value.ref 7), (Value.bool Bool.false), (Value.int 175 0), (Value.ref 8), Value.none, Value.none, Value.none, Value.none, (Value.int 179 0), (Value.int 1 0), (vS "/claim/cut.py" 180)])) (List.toArray []))
noncomputable def q51 : Obj := (Obj.mk (Value.type "frame") Option.none Data.plain (List.toArray [(Option.some (Value.ref 9)), (Option.some (Value.ref 3)), (Option.some (Value.ref 3)), Option.none, (Option.some (vS "__main__" 164)), Option.none, (Option.some (Value.ref 0))]))
noncomputable def q52 (P : Params) : Obj := (Obj.mk (Value.type "dict") Option.none (Data.dict (List.toArray [(dE P "__name__" 247 (vS "_sre" 246)), (dE P "__doc__" 248 Value.none), (dE P "__package__" 250 (vS "" 249)), (dE P "__loader__" 251 (Value.builtin "off-the-table:_sre.__loader__:shared#opaque")), (dE P "__spec__" 252 (Value.builtin "off-the-table:_sre.__spec__:shared#opaque")), (dE P "compile" 253 (Value.builtin "_sre.compile")), (dE P "template" 254 (Value.builtin "off-the-table:_sre.template:shared#opaque")), (dE P "getcodesize" 255 (Value.builtin "off-the-table:_sre.getcodesize:shared#opaque")), (dE P "ascii_iscased" 256 (Value.builtin "off-the-table:_sre.ascii_iscased:shared#opaque")), (dE P "unicode_iscased" 257 (Value.builtin "off-the-table:_sre.unicode_iscased:shared#opaque")), (dE P "ascii_tolower" 258 (Value.builtin "off-the-table:_sre.ascii_tolower:shared#opaque")), (dE P "unicode_tolower" 259 (Value.builtin "off-the-table:_sre.unicode_tolower:shared#opaque")), (dE P "MAGIC" 261 (Value.int 20230612 260)), (dE P "CODESIZE" 263 (Value.int 4 262)), (dE P "MAXREPEAT" 265 (Value.int 4294967295 264)), (dE P "MAXGROUPS" 267 (Value.int 1073741823 266)), (dE P "copyright" 269 (vS " SRE 2.2.2 Copyright (c) 1997-2002 by Secret Labs AB " 268))]) 17) (List.toArray []))
noncomputable def q53 : Obj := (Obj.mk (Value.type "module") (Option.some 11) Data.plain (List.toArray []))
noncomputable def q54 (P : Params) : Obj := (Obj.mk (Value.type "dict") Option.none (Data.dict (List.toArray [(dE P "__module__" 189 (vS "_frozen_\x69mportlib" 186)), (dE P "__firstlineno__" 190 (Value.int 971 187)), (dE P "__doc__" 191 (Value.builtin "_frozen_\x69mportlib.BuiltinImporter.__doc__:str#opaque")), (dE P "_ORIGIN" 192 (vS "built-in" 188)), (dE P "find_spec" 193 (Value.builtin "_frozen_\x69mportlib.BuiltinImporter.find_spec#opaque")), (dE P "create_module" 194 (Value.builtin "_frozen_\x69mportlib.BuiltinImporter.create_module#opaque")), (dE P "exec_module" 195 (Value.builtin "_frozen_\x69mportlib.BuiltinImporter.exec_module#opaque")), (dE P "get_code" 196 (Value.builtin "_frozen_\x69mportlib.BuiltinImporter.get_code#opaque")), (dE P "get_source" 197 (Value.builtin "_frozen_\x69mportlib.BuiltinImporter.get_source#opaque")), (dE P "is_package" 198 (Value.builtin "_frozen_\x69mportlib.BuiltinImporter.is_package#opaque")), (dE P "load_module" 199 (Value.builtin "_frozen_\x69mportlib.BuiltinImporter.load_module#opaque")), (dE P "__static_attributes__" 200 (Value.ref 15)), (dE P "__dict__" 202 (Value.ref 16)), (dE P "__weakref__" 204 (Value.ref 17))]) 14) (List.toArray []))
noncomputable def q55 : Obj := (Obj.mk (Value.type "type") Option.none (Data.cls (ClassData.mk (Str.ofString "BuiltinImporter") [(Value.type "object")] [(Value.ref 14), (Value.type "object")] 13 (Str.ofString "BuiltinImporter") Bool.true [] [] Bool.false Option.none Bool.false)) (List.toArray []))
noncomputable def q57 : Obj := (Obj.mk (Value.type "getset_descriptor") Option.none (Data.fields (List.toArray [(vS "__dict__" 201), (Value.ref 14), (Value.builtin "function.__dict__"), (Value.builtin "function.__dict__#set")])) (List.toArray []))
noncomputable def q58 : Obj := (Obj.mk (Value.type "getset_descriptor") Option.none (Data.fields (List.toArray [(vS "__weakref__" 203), (Value.ref 14), (Value.builtin "ExceptionGroup.__weakref__"), Value.none])) (List.toArray []))
noncomputable def q59 : Obj := (Obj.mk Value.none Option.none (Data.seq (List.toArray [(Value.int 13 0), (vS "\x06½\n__module__\x06º\x11_frozen_\x69mportlib\x06¾\x0f__firstlineno__\x04»\x00ϋ\x06¿\x07__doc__\t4_frozen_\x69mportlib.BuiltinImporter.__doc__:str#opaque\x06À\x07_ORIGIN\x06¼\x08built-in\x06Á\tfind_spec\t2_frozen_\x69mportlib.BuiltinImporter.find_spec#opaque\x06Â\x0dcreate_module\t6_frozen_\x69mportlib.BuiltinImporter.create_module#opaque\x06Ã\x0bexec_module\t4_frozen_\x69mportlib.BuiltinImporter.exec_module#opaque\x06Ä\x08get_code\t1_frozen_\x69mportlib.BuiltinImporter.get_code#opaque\x06Å\nget_source\t3_frozen_\x69mportlib.BuiltinImporter.get_source#opaque\x06Æ\nis_package\t3_frozen_\x69mportlib.BuiltinImporter.is_package#opaque\x06Ç\x0bload_module\t4_frozen_\x69mportlib.BuiltinImporter.load_module#opaque\x06È\x15__static_attributes__\x04\x00\x00\x0f\x06Ê\x08__dict__\x04\x00\x00\x10\x06Ì\x0b__weakref__\x04\x00\x00\x11" 0), (Value.bool Bool.true), (Value.bool Bool.true), (vS "" 205), (Value.int 21 0), (vS "\x06ã\n__module__\x06Ù\x11_frozen_\x69mportlib\x06ä\x0f__firstlineno__\x04Ú\x00Ȳ\x06å\x07__doc__\t/_frozen_\x69mportlib.ModuleSpec.__doc__:str#opaque\x06æ\x08__init__\t,_frozen_\x69mportlib.ModuleSpec.__init__#opaque\x06ç\x08__repr__\t,_frozen_\x69mportlib.ModuleSpec.__repr__#opaque\x06è\x06__eq__\t*_frozen_\x69mportlib.ModuleSpec.__eq__#opaque\x06é\x06cached\t*_frozen_\x69mportlib.ModuleSpec.cached#opaque\x06ê\x06parent\t*_frozen_\x69mportlib.ModuleSpec.parent#opaque\x06ë\x0chas_location\t0_frozen_\x69mportlib.ModuleSpec.has_location#opaque\x06ì\x15__static_attributes__\x04\x00\x00\x17\x06î\x08__dict__\x04\x00\x00\x18\x06ð\x0b__weakref__\x04\x00\x00\x19\x06ñ\x08__hash__\x00" 0), (Value.bool Bool.true), (Value.bool Bool.true), (vS "" 242)]) 1) (List.toArray []))
noncomputable def q60 : Obj := (Obj.mk (Value.type "list") Option.none (Data.seq (List.toArray []) 0) (List.toArray []))
noncomputable def q61 (P : Params) : Obj := (Obj.mk (Value.type "dict") Option.none (Data.dict (List.toArray [(dE P "name" 208 (vS "_sre" 207)), (dE P "loader" 209 (Value.ref 14)), (dE P "origin" 210 (vS "built-in" 184)), (dE P "loader_state" 211 Value.none), (dE P "submodule_search_locations" 212 Value.none), (dE P "_uninitialized_submodules" 213 (Value.ref 19)), (dE P "_set_fileattr" 214 (Value.bool Bool.false)), (dE P "_cached" 215 Value.none), (dE P "_initializing" 243 (Value.bool Bool.false))]) 9) (List.toArray []))
noncomputable def q62 (P : Params) : Obj := (Obj.mk (Value.type "dict") Option.none (Data.dict (List.toArray [(dE P "__module__" 227 (vS "_frozen_\x69mportlib" 217)), (dE P "__firstlineno__" 228 (Value.int 562 218)), (dE P "__doc__" 229 (Value.builtin "_frozen_\x69mportlib.ModuleSpec.__doc__:str#opaque")), (dE P "__init__" 230 (Value.builtin "_frozen_\x69mportlib.ModuleSpec.__init__#opaque")), (dE P "__repr__" 231 (Value.builtin "_frozen_\x69mportlib.ModuleSpec.__repr__#opaque")), (dE P "__eq__" 232 (Value.builtin "_frozen_\x69mportlib.ModuleSpec.__eq__#opaque")), (dE P "cached" 233 (Value.builtin "_frozen_\x69mportlib.ModuleSpec.cached#opaque")), (dE P "parent" 234 (Value.builtin "_frozen_\x69mportlib.ModuleSpec.parent#opaque")), (dE P "has_location" 235 (Value.builtin "_frozen_\x69mportlib.ModuleSpec.has_location#opaque")), (dE P "__static_attributes__" 236 (Value.ref 23)), (dE P "__dict__" 238 (Value.ref 24)), (dE P "__weakref__" 240 (Value.ref 25)), (dE P "__hash__" 241 Value.none)]) 13) (List.toArray []))
noncomputable def q63 : Obj := (Obj.mk (Value.type "type") Option.none (Data.cls (ClassData.mk (Str.ofString "ModuleSpec") [(Value.type "object")] [(Value.ref 22), (Value.type "object")] 21 (Str.ofString "ModuleSpec") Bool.true [] [] Bool.false Option.none Bool.false)) (List.toArray []))
noncomputable def q64 : Obj := (Obj.mk (Value.type "tuple") Option.none (Data.seq (List.toArray [(vS "_cached" 219), (vS "_set_fileattr" 220), (vS "_uninitialized_submodules" 221), (vS "loader" 222), (vS "loader_state" 223), (vS "name" 224), (vS "origin" 225), (vS "submodule_search_locations" 226)]) 0) (List.toArray []))
noncomputable def q65 : Obj := (Obj.mk (Value.type "getset_descriptor") Option.none (Data.fields (List.toArray [(vS "__dict__" 237), (Value.ref 22), (Value.builtin "function.__dict__"), (Value.builtin "function.__dict__#set")])) (List.toArray []))
noncomputable def q66 : Obj := (Obj.mk (Value.type "getset_descriptor") Option.none (Data.fields (List.toArray [(vS "__weakref__" 239), (Value.ref 22), (Value.builtin "ExceptionGroup.__weakref__"), Value.none])) (List.toArray []))
noncomputable def q67 : Obj := (Obj.mk (Value.ref 22) (Option.some 20) Data.plain (List.toArray []))
noncomputable def q68 : Obj := (Obj.mk Value.none Option.none (Data.seq (List.toArray [(Value.int 11 0), (Value.str (Str.mk (List.toArray [6, 247, 8, 95, 95, 110, 97, 109, 101, 95, 95, 6, 246, 4, 95, 115, 114, 101, 6, 248, 7, 95, 95, 100, 111, 99, 95, 95, 0, 6, 250, 11, 95, 95, 112, 97, 99, 107, 97, 103, 101, 95, 95, 6, 249, 0, 6, 251, 10, 95, 95, 108, 111, 97, 100, 101, 114, 95, 95, 4, 0, 0, 14, 6, 252, 8, 95, 95, 115, 112, 101, 99, 95, 95, 4, 0, 0, 26, 6, 253, 7, 99, 111, 109, 112, 105, 108, 101, 9, 12, 95, 115, 114, 101, 46, 99, 111, 109, 112, 105, 108, 101, 6, 254, 8, 116, 101, 109, 112, 108, 97, 116, 101, 9, 13, 95, 115, 114, 101, 46, 116, 101, 109, 112, 108, 97, 116, 101, 6, 255, 11, 103, 101, 116, 99, 111, 100, 101, 115, 105, 122, 101, 9, 16, 95, 115, 114, 101, 46, 103, 101, 116, 99, 111, 100, 101, 115, 105, 122, 101, 6, 256, 13, 97, 115, 99, 105, 105, 95, 105, 115, 99, 97, 115, 101, 100, 9, 18, 95, 115, 114, 101, 46, 97, 115, 99, 105, 105, 95, 105, 115, 99, 97, 115, 101, 100, 6, 257, 15, 117, 110, 105, 99, 111, 100, 101, 95, 105, 115, 99, 97, 115, 101, 100, 9, 20, 95, 115, 114, 101, 46, 117, 110, 105, 99, 111, 100, 101, 95, 105, 115, 99, 97, 115, 101, 100, 6, 258, 13, 97, 115, 99, 105, 105, 95, 116, 111, 108, 111, 119, 101, 114, 9, 18, 95, 115, 114, 101, 46, 97, 115, 99, 105, 105, 95, 116, 111, 108, 111, 119, 101, 114, 6, 259, 15, 117, 110, 105, 99, 111, 100, 101, 95, 116, 111, 108, 111, 119, 101, 114, 9, 20, 95, 115, 114, 101, 46, 117, 110, 105, 99, 111, 100, 101, 95, 116, 111, 108, 111, 119, 101, 114, 6, 261, 5, 77, 65, 71, 73, 67, 4, 260, 0, 20230612, 6, 263, 8, 67, 79, 68, 69, 83, 73, 90, 69, 4, 262, 0, 4, 6, 265, 9, 77, 65, 88, 82, 69, 80, 69, 65, 84, 4, 264, 0, 4294967295, 6, 267, 9, 77, 65, 88, 71, 82, 79, 85, 80, 83, 4, 266, 0, 1073741823, 6, 269, 9, 99, 111, 112, 121, 114, 105, 103, 104, 116, 6, 268, 53, 32, 83, 82, 69, 32, 50, 46, 50, 46, 50, 32, 67, 111, 112, 121, 114, 105, 103, 104, 116, 32, 40, 99, 41, 32, 49, 57, 57, 55, 45, 50, 48, 48, 50, 32, 98, 121, 32, 83, 101, 99, 114, 101, 116, 32, 76, 97, 98, 115, 32, 65, 66, 32])) 0), (Value.bool Bool.true), (Value.bool Bool.false), (vS "_sre" 271)]) 0) (List.toArray []))
noncomputable def q71 : Obj := (Obj.mk (Value.type "code") Option.none (Data.fields (List.toArray [(vS "<module>" 277), (vS "<module>" 278), (vS "/claim/cut.py" 279), (Value.int 1 0), (Value.int 0 0), (Value.int 0 0), (Value.int 0 0), (Value.int 0 0), (Value.ref 28), (Value.bool Bool.false), (Value.int 276 0), (Value.ref 29), Value.none, Value.none, Value.none, Value.none, (Value.int 280 0), (Value.int 1 0), (vS "/claim/cut.py" 281)])) (List.toArray []))
noncomputable def q72 : Obj := (Obj.mk (Value.type "frame") Option.none Data.plain (List.toArray [(Option.some (Value.ref 30)), (Option.some (Value.ref 3)), (Option.some (Value.ref 3)), Option.none, (Option.some (vS "__main__" 164)), Option.none, (Option.some (Value.ref 0))]))
noncomputable def q75 (P : Params) : Obj := (Obj.mk (Value.type "dict") Option.none (Data.dict (List.toArray [(dE P "__name__" 165 (vS "cpy313.token" 349)), (dE P "__doc__" 166 Value.none), (dE P "__package__" 167 Value.none), (dE P "__loader__" 168 (Value.builtin "__main__.__loader__#opaque")), (dE P "__spec__" 169 Value.none), (dE P "__annotations__" 170 (Value.ref 6)), (dE P "__builtins__" 171 (Value.ref 4)), (dE P "__file__" 173 (vS "/claim/cut.py" 172)), (dE P "__cached__" 174 Value.none), (dE P "_sre" 275 (Value.ref 12)), (dE P "_wall" 288 (Value.ref 38)), (dE P "_MAX_STRING_SIZE" 292 (Value.int 40 291)), (dE P "_MOVE_COST" 294 (Value.int 2 293)), (dE P "_CASE_COST" 296 (Value.int 1 295)), (dE P "_substitution_cost" 304 (Value.ref 45)), (dE P "_levenshtein_distance" 324 (Value.ref 52)), (dE P "_iter_escaped_chars" 336 (Value.ref 59)), (dE P "_strip_quoted_realnames" 348 (Value.ref 66)), (dE P "LPAR" 352 (Value.int 7 351)), (dE P "RPAR" 354 (Value.int 8 353)), (dE P "LSQB" 356 (Value.int 9 355)), (dE P "RSQB" 358 (Value.int 10 357)), (dE P "COLON" 360 (Value.int 11 359)), (dE P "COMMA" 362 (Value.int 12 361)), (dE P "SEMI" 364 (Value.int 13 363)), (dE P "PLUS" 366 (Value.int 14 365)), (dE P "MINUS" 368 (Value.int 15 367)), (dE P "STAR" 370 (Value.int 16 369)), (dE P "SLASH" 372 (Value.int 17 371)), (dE P "VBAR" 374 (Value.int 18 373)), (dE P "AMPER" 376 (Value.int 19 375)), (dE P "LESS" 378 (Value.int 20 377)), (dE P "GREATER" 380 (Value.int 21 379)), (dE P "EQUAL" 382 (Value.int 22 381)), (dE P "DOT" 384 (Value.int 23 383)), (dE P "PERCENT" 386 (Value.int 24 385)), (dE P "LBRACE" 388 (Value.int 25 387))]) 37) (List.toArray []))
noncomputable def q76 : Obj := (Obj.mk Value.none Option.none (Data.fields (List.toArray [(Value.int 2 0), (Value.int 0 0), (Value.ref 37), (Value.int 9 0), (Value.int 0 0), (Value.ref 44), (Value.int 15 0), (Value.int 0 0), (Value.ref 51), (Value.int 54 0), (Value.int 0 0), (Value.ref 58), (Value.int 67 0), (Value.int 0 0), (Value.ref 65)])) (List.toArray []))
noncomputable def q79 : Obj := (Obj.mk (Value.type "tuple") Option.none (Data.seq (List.toArray [(vS "k" 285)]) 0) (List.toArray []))
noncomputable def q81 : Obj := mkCo (stAt pwB 1) _ _ _ rfl (Str.ofString "_wall") (Str.ofString "_wall")
noncomputable def q82 : Obj := (Obj.mk (Value.type "code") Option.none (Data.fields (List.toArray [(vS "_wall" 282), (vS "_wall" 283), (vS "/claim/cut.py" 284), (Value.int 2 0), (Value.int 1 0), (Value.int 0 0), (Value.int 0 0), (Value.int 3 0), (Value.ref 32), (Value.bool Bool.true), (Value.int 276 0), (Value.ref 33), Value.none, (Value.ref 34), (Value.ref 35), (Value.ref 36), (Value.int 286 0), (Value.int 2 0), (vS "/claim/cut.py" 287)])) (List.toArray []))
noncomputable def q86 : Obj := (Obj.mk (Value.type "tuple") Option.none (Data.seq (List.toArray [(vS "ch_a" 300), (vS "ch_b" 301)]) 0) (List.toArray []))
noncomputable def q88 : Obj := mkCo (stAt pwB 6) _ _ _ rfl (Str.ofString "_substitution_cost") (Str.ofString "_substitution_cost")
noncomputable def q89 : Obj := (Obj.mk (Value.type "code") Option.none (Data.fields (List.toArray [(vS "_substitution_cost" 297), (vS "_substitution_cost" 298), (vS "/claim/cut.py" 299), (Value.int 9 0), (Value.int 2 0), (Value.int 0 0), (Value.int 0 0), (Value.int 3 0), (Value.ref 39), (Value.bool Bool.true), (Value.int 276 0), (Value.ref 40), Value.none, (Value.ref 41), (Value.ref 42), (Value.ref 43), (Value.int 302 0), (Value.int 9 0), (vS "/claim/cut.py" 303)])) (List.toArray []))
noncomputable def q93 : Obj := (Obj.mk (Value.type "tuple") Option.none (Data.seq (List.toArray [(vS "a" 308), (vS "b" 309), (vS "max_cost" 310), (vS "pre" 311), (vS "post" 312), (vS "row" 313), (vS "result" 314), (vS "bindex" 315), (vS "bchar" 316), (vS "distance" 317), (vS "minimum" 318), (vS "index" 319), (vS "substitute" 320), (vS "insert_delete" 321)]) 0) (List.toArray []))
noncomputable def q95 : Obj := mkCo (stAt pwB 7) _ _ _ rfl (Str.ofString "_levenshtein_distance") (Str.ofString "_levenshtein_distance")
noncomputable def q96 : Obj := (Obj.mk (Value.type "code") Option.none (Data.fields (List.toArray [(vS "_levenshtein_distance" 305), (vS "_levenshtein_distance" 306), (vS "/claim/cut.py" 307), (Value.int 15 0), (Value.int 3 0), (Value.int 0 0), (Value.int 0 0), (Value.int 3 0), (Value.ref 46), (Value.bool Bool.true), (Value.int 276 0), (Value.ref 47), Value.none, (Value.ref 48), (Value.ref 49), (Value.ref 50), (Value.int 322 0), (Value.int 15 0), (vS "/claim/cut.py" 323)])) (List.toArray []))
noncomputable def q100 : Obj := (Obj.mk (Value.type "tuple") Option.none (Data.seq (List.toArray [(vS "addr" 330), (vS "pos" 331), (vS "escape" 332), (vS "ch" 333)]) 0) (List.toArray []))
noncomputable def q102 : Obj := mkCo (stAt pwB 9) _ _ _ rfl (Str.ofString "_iter_escaped_chars") (Str.ofString "_iter_escaped_chars")
noncomputable def q103 : Obj := (Obj.mk (Value.type "code") Option.none (Data.fields (List.toArray [(vS "_iter_escaped_chars" 327), (vS "_iter_escaped_chars" 328), (vS "/claim/cut.py" 329), (Value.int 54 0), (Value.int 1 0), (Value.int 0 0), (Value.int 0 0), (Value.int 35 0), (Value.ref 53), (Value.bool Bool.true), (Value.int 276 0), (Value.ref 54), Value.none, (Value.ref 55), (Value.ref 56), (Value.ref 57), (Value.int 334 0), (Value.int 54 0), (vS "/claim/cut.py" 335)])) (List.toArray []))
noncomputable def q107 : Obj := (Obj.mk (Value.type "tuple") Option.none (Data.seq (List.toArray [(vS "addr" 340), (vS "start" 341), (vS "open_pos" 342), (vS "result" 343), (vS "pos" 344), (vS "ch" 345)]) 0) (List.toArray []))
noncomputable def q109 : Obj := mkCo (stAt pwB 10) _ _ _ rfl (Str.ofString "_strip_quoted_realnames") (Str.ofString "_strip_quoted_realnames")
noncomputable def q110 : Obj := (Obj.mk (Value.type "code") Option.none (Data.fields (List.toArray [(vS "_strip_quoted_realnames" 337), (vS "_strip_quoted_realnames" 338), (vS "/claim/cut.py" 339), (Value.int 67 0), (Value.int 1 0), (Value.int 0 0), (Value.int 0 0), (Value.int 3 0), (Value.ref 60), (Value.bool Bool.true), (Value.int 276 0), (Value.ref 61), Value.none, (Value.ref 62), (Value.ref 63), (Value.ref 64), (Value.int 346 0), (Value.int 67 0), (vS "/claim/cut.py" 347)])) (List.toArray []))
noncomputable def q112 (P : Params) : Obj := (Obj.mk (Value.type "dict") Option.none (Data.dict (List.toArray [(dE P "__name__" 165 (vS "cpy313.token" 349)), (dE P "__doc__" 166 Value.none), (dE P "__package__" 167 Value.none), (dE P "__loader__" 168 (Value.builtin "__main__.__loader__#opaque")), (dE P "__spec__" 169 Value.none), (dE P "__annotations__" 170 (Value.ref 6)), (dE P "__builtins__" 171 (Value.ref 4)), (dE P "__file__" 173 (vS "/claim/cut.py" 172)), (dE P "__cached__" 174 Value.none), (dE P "_sre" 275 (Value.ref 12)), (dE P "_wall" 288 (Value.ref 38)), (dE P "_MAX_STRING_SIZE" 292 (Value.int 40 291)), (dE P "_MOVE_COST" 294 (Value.int 2 293)), (dE P "_CASE_COST" 296 (Value.int 1 295)), (dE P "_substitution_cost" 304 (Value.ref 45)), (dE P "_levenshtein_distance" 324 (Value.ref 52)), (dE P "_iter_escaped_chars" 336 (Value.ref 59)), (dE P "_strip_quoted_realnames" 348 (Value.ref 66)), (dE P "LPAR" 352 (Value.int 7 351)), (dE P "RPAR" 354 (Value.int 8 353)), (dE P "LSQB" 356 (Value.int 9 355)), (dE P "RSQB" 358 (Value.int 10 357)), (dE P "COLON" 360 (Value.int 11 359)), (dE P "COMMA" 362 (Value.int 12 361)), (dE P "SEMI" 364 (Value.int 13 363)), (dE P "PLUS" 366 (Value.int 14 365)), (dE P "MINUS" 368 (Value.int 15 367)), (dE P "STAR" 370 (Value.int 16 369)), (dE P "SLASH" 372 (Value.int 17 371)), (dE P "VBAR" 374 (Value.int 18 373)), (dE P "AMPER" 376 (Value.int 19 375)), (dE P "LESS" 378 (Value.int 20 377)), (dE P "GREATER" 380 (Value.int 21 379)), (dE P "EQUAL" 382 (Value.int 22 381)), (dE P "DOT" 384 (Value.int 23 383)), (dE P "PERCENT" 386 (Value.int 24 385)), (dE P "LBRACE" 388 (Value.int 25 387)), (dE P "RBRACE" 390 (Value.int 26 389)), (dE P "EQEQUAL" 392 (Value.int 27 391)), (dE P "NOTEQUAL" 394 (Value.int 28 393)), (dE P "LESSEQUAL" 396 (Value.int 29 395)), (dE P "GREATEREQUAL" 398 (Value.int 30 397)), (dE P "TILDE" 400 (Value.int 31 399)), (dE P "CIRCUMFLEX" 402 (Value.int 32 401)), (dE P "LEFTSHIFT" 404 (Value.int 33 403)), (dE P "RIGHTSHIFT" 406 (Value.int 34 405)), (dE P "DOUBLESTAR" 408 (Value.int 35 407)), (dE P "PLUSEQUAL" 410 (Value.int 36 409)), (dE P "MINEQUAL" 412 (Value.int 37 411)), (dE P "STAREQUAL" 414 (Value.int 38 413)), (dE P "SLASHEQUAL" 416 (Value.int 39 415)), (dE P "PERCENTEQUAL" 418 (Value.int 40 417)), (dE P "AMPEREQUAL" 420 (Value.int 41 419)), (dE P "VBAREQUAL" 422 (Value.int 42 421)), (dE P "CIRCUMFLEXEQUAL" 424 (Value.int 43 423)), (dE P "LEFTSHIFTEQUAL" 426 (Value.int 44 425)), (dE P "RIGHTSHIFTEQUAL" 428 (Value.int 45 427)), (dE P "DOUBLESTAREQUAL" 430 (Value.int 46 429)), (dE P "DOUBLESLASH" 432 (Value.int 47 431)), (dE P "DOUBLESLASHEQUAL" 434 (Value.int 48 433)), (dE P "AT" 436 (Value.int 49 435)), (dE P "ATEQUAL" 438 (Value.int 50 437)), (dE P "RARROW" 440 (Value.int 51 439)), (dE P "ELLIPSIS" 442 (Value.int 52 441)), (dE P "COLONEQUAL" 444 (Value.int 53 443)), (dE P "EXCLAMATION" 446 (Value.int 54 445)), (dE P "NT_OFFSET" 448 (Value.int 256 447))]) 67) (List.toArray []))
noncomputable def q114 (P : Params) : Obj := (Obj.mk (Value.type "dict") Option.none (Data.dict (List.toArray [(dE P "__name__" 165 (vS "cpy313.token" 349)), (dE P "__doc__" 166 Value.none), (dE P "__package__" 167 Value.none), (dE P "__loader__" 168 (Value.builtin "__main__.__loader__#opaque")), (dE P "__spec__" 169 Value.none), (dE P "__annotations__" 170 (Value.ref 6)), (dE P "__builtins__" 171 (Value.ref 4)), (dE P "__file__" 173 (vS "/claim/cut.py" 172)), (dE P "__cached__" 174 Value.none), (dE P "_sre" 275 (Value.ref 12)), (dE P "_wall" 288 (Value.ref 38)), (dE P "_MAX_STRING_SIZE" 292 (Value.int 40 291)), (dE P "_MOVE_COST" 294 (Value.int 2 293)), (dE P "_CASE_COST" 296 (Value.int 1 295)), (dE P "_substitution_cost" 304 (Value.ref 45)), (dE P "_levenshtein_distance" 324 (Value.ref 52)), (dE P "_iter_escaped_chars" 336 (Value.ref 59)), (dE P "_strip_quoted_realnames" 348 (Value.ref 66)), (dE P "LPAR" 352 (Value.int 7 351)), (dE P "RPAR" 354 (Value.int 8 353)), (dE P "LSQB" 356 (Value.int 9 355)), (dE P "RSQB" 358 (Value.int 10 357)), (dE P "COLON" 360 (Value.int 11 359)), (dE P "COMMA" 362 (Value.int 12 361)), (dE P "SEMI" 364 (Value.int 13 363)), (dE P "PLUS" 366 (Value.int 14 365)), (dE P "MINUS" 368 (Value.int 15 367)), (dE P "STAR" 370 (Value.int 16 369)), (dE P "SLASH" 372 (Value.int 17 371)), (dE P "VBAR" 374 (Value.int 18 373)), (dE P "AMPER" 376 (Value.int 19 375)), (dE P "LESS" 378 (Value.int 20 377)), (dE P "GREATER" 380 (Value.int 21 379)), (dE P "EQUAL" 382 (Value.int 22 381)), (dE P "DOT" 384 (Value.int 23 383)), (dE P "PERCENT" 386 (Value.int 24 385)), (dE P "LBRACE" 388 (Value.int 25 387)), (dE P "RBRACE" 390 (Value.int 26 389)), (dE P "EQEQUAL" 392 (Value.int 27 391)), (dE P "NOTEQUAL" 394 (Value.int 28 393)), (dE P "LESSEQUAL" 396 (Value.int 29 395)), (dE P "GREATEREQUAL" 398 (Value.int 30 397)), (dE P "TILDE" 400 (Value.int 31 399)), (dE P "CIRCUMFLEX" 402 (Value.int 32 401)), (dE P "LEFTSHIFT" 404 (Value.int 33 403)), (dE P "RIGHTSHIFT" 406 (Value.int 34 405)), (dE P "DOUBLESTAR" 408 (Value.int 35 407)), (dE P "PLUSEQUAL" 410 (Value.int 36 409)), (dE P "MINEQUAL" 412 (Value.int 37 411)), (dE P "STAREQUAL" 414 (Value.int 38 413)), (dE P "SLASHEQUAL" 416 (Value.int 39 415)), (dE P "PERCENTEQUAL" 418 (Value.int 40 417)), (dE P "AMPEREQUAL" 420 (Value.int 41 419)), (dE P "VBAREQUAL" 422 (Value.int 42 421)), (dE P "CIRCUMFLEXEQUAL" 424 (Value.int 43 423)), (dE P "LEFTSHIFTEQUAL" 426 (Value.int 44 425)), (dE P "RIGHTSHIFTEQUAL" 428 (Value.int 45 427)), (dE P "DOUBLESTAREQUAL" 430 (Value.int 46 429)), (dE P "DOUBLESLASH" 432 (Value.int 47 431)), (dE P "DOUBLESLASHEQUAL" 434 (Value.int 48 433)), (dE P "AT" 436 (Value.int 49 435)), (dE P "ATEQUAL" 438 (Value.int 50 437)), (dE P "RARROW" 440 (Value.int 51 439)), (dE P "ELLIPSIS" 442 (Value.int 52 441)), (dE P "COLONEQUAL" 444 (Value.int 53 443)), (dE P "EXCLAMATION" 446 (Value.int 54 445)), (dE P "NT_OFFSET" 448 (Value.int 256 447)), (dE P "EXACT_TOKEN_TYPES" 545 (Value.ref 67))]) 68) (List.toArray []))
noncomputable def q115 (P : Params) : Obj := (Obj.mk (Value.type "dict") Option.none (Data.dict (List.toArray [(dE P "!" 449 (Value.int 54 445)), (dE P "!=" 451 (Value.int 28 393)), (dE P "%" 453 (Value.int 24 385)), (dE P "%=" 455 (Value.int 40 417)), (dE P "&" 457 (Value.int 19 375)), (dE P "&=" 459 (Value.int 41 419)), (dE P "(" 461 (Value.int 7 351)), (dE P ")" 463 (Value.int 8 353)), (dE P "*" 465 (Value.int 16 369)), (dE P "**" 467 (Value.int 35 407)), (dE P "**=" 469 (Value.int 46 429)), (dE P "*=" 471 (Value.int 38 413)), (dE P "+" 473 (Value.int 14 365)), (dE P "+=" 475 (Value.int 36 409)), (dE P "," 477 (Value.int 12 361)), (dE P "-" 479 (Value.int 15 367)), (dE P "-=" 481 (Value.int 37 411)), (dE P "->" 483 (Value.int 51 439)), (dE P "." 485 (Value.int 23 383)), (dE P "..." 487 (Value.int 52 441)), (dE P "/" 489 (Value.int 17 371)), (dE P "//" 491 (Value.int 47 431)), (dE P "//=" 493 (Value.int 48 433)), (dE P "/=" 495 (Value.int 39 415)), (dE P ":" 497 (Value.int 11 359)), (dE P ":=" 499 (Value.int 53 443)), (dE P ";" 501 (Value.int 13 363)), (dE P "<" 503 (Value.int 20 377)), (dE P "<<" 505 (Value.int 33 403)), (dE P "<<=" 507 (Value.int 44 425)), (dE P "<=" 509 (Value.int 29 395)), (dE P "=" 511 (Value.int 22 381)), (dE P "==" 513 (Value.int 27 391)), (dE P ">" 515 (Value.int 21 379)), (dE P ">=" 517 (Value.int 30 397)), (dE P ">>" 518 (Value.int 34 405)), (dE P ">>=" 519 (Value.int 45 427)), (dE P "@" 520 (Value.int 49 435)), (dE P "@=" 521 (Value.int 50 437)), (dE P "[" 522 (Value.int 9 355)), (dE P "]" 523 (Value.int 10 357)), (dE P "^" 524 (Value.int 32 401)), (dE P "^=" 525 (Value.int 43 423)), (dE P "{" 526 (Value.int 25 387)), (dE P "|" 527 (Value.int 18 373)), (dE P "|=" 528 (Value.int 42 421)), (dE P "}" 529 (Value.int 26 389)), (dE P "~" 530 (Value.int 31 399))]) 48) (List.toArray []))
noncomputable def q116 (P : Params) : Obj := (Obj.mk (Value.type "dict") Option.none (Data.dict (List.toArray [(dE P "->" 483 (Value.int 51 439)), (dE P "." 485 (Value.int 23 383)), (dE P "..." 487 (Value.int 52 441)), (dE P "/" 489 (Value.int 17 371)), (dE P "//" 491 (Value.int 47 431)), (dE P "//=" 493 (Value.int 48 433)), (dE P "/=" 495 (Value.int 39 415)), (dE P ":" 497 (Value.int 11 359)), (dE P ":=" 499 (Value.int 53 443)), (dE P ";" 501 (Value.int 13 363)), (dE P "<" 503 (Value.int 20 377)), (dE P "<<" 505 (Value.int 33 403)), (dE P "<<=" 507 (Value.int 44 425)), (dE P "<=" 509 (Value.int 29 395)), (dE P "=" 511 (Value.int 22 381)), (dE P "==" 513 (Value.int 27 391)), (dE P ">" 515 (Value.int 21 379))]) 17) (List.toArray []))
noncomputable def q117 (P : Params) : Obj := (Obj.mk (Value.type "dict") Option.none (Data.dict (List.toArray [(dE P ">=" 517 (Value.int 30 397)), (dE P ">>" 518 (Value.int 34 405)), (dE P ">>=" 519 (Value.int 45 427)), (dE P "@" 520 (Value.int 49 435)), (dE P "@=" 521 (Value.int 50 437)), (dE P "[" 522 (Value.int 9 355)), (dE P "]" 523 (Value.int 10 357)), (dE P "^" 524 (Value.int 32 401)), (dE P "^=" 525 (Value.int 43 423)), (dE P "{" 526 (Value.int 25 387)), (dE P "|" 527 (Value.int 18 373)), (dE P "|=" 528 (Value.int 42 421)), (dE P "}" 529 (Value.int 26 389)), (dE P "~" 530 (Value.int 31 399))]) 14) (List.toArray []))
noncomputable def q121 (P : Params) : Obj := (Obj.mk (Value.type "dict") Option.none (Data.dict (List.toArray [(dE P "__name__" 165 (vS "cpy313.wsgiref.headers" 553)), (dE P "__doc__" 166 Value.none), (dE P "__package__" 167 Value.none), (dE P "__loader__" 168 (Value.builtin "__main__.__loader__#opaque")), (dE P "__spec__" 169 Value.none), (dE P "__annotations__" 170 (Value.ref 6)), (dE P "__builtins__" 171 (Value.ref 4)), (dE P "__file__" 173 (vS "/claim/cut.py" 172)), (dE P "__cached__" 174 Value.none), (dE P "_sre" 275 (Value.ref 12)), (dE P "_wall" 288 (Value.ref 38)), (dE P "_MAX_STRING_SIZE" 292 (Value.int 40 291)), (dE P "_MOVE_COST" 294 (Value.int 2 293)), (dE P "_CASE_COST" 296 (Value.int 1 295)), (dE P "_substitution_cost" 304 (Value.ref 45)), (dE P "_levenshtein_distance" 324 (Value.ref 52)), (dE P "_iter_escaped_chars" 336 (Value.ref 59)), (dE P "_strip_quoted_realnames" 348 (Value.ref 66)), (dE P "LPAR" 352 (Value.int 7 351)), (dE P "RPAR" 354 (Value.int 8 353)), (dE P "LSQB" 356 (Value.int 9 355)), (dE P "RSQB" 358 (Value.int 10 357)), (dE P "COLON" 360 (Value.int 11 359)), (dE P "COMMA" 362 (Value.int 12 361)), (dE P "SEMI" 364 (Value.int 13 363)), (dE P "PLUS" 366 (Value.int 14 365)), (dE P "MINUS" 368 (Value.int 15 367)), (dE P "STAR" 370 (Value.int 16 369)), (dE P "SLASH" 372 (Value.int 17 371)), (dE P "VBAR" 374 (Value.int 18 373)), (dE P "AMPER" 376 (Value.int 19 375)), (dE P "LESS" 378 (Value.int 20 377)), (dE P "GREATER" 380 (Value.int 21 379)), (dE P "EQUAL" 382 (Value.int 22 381)), (dE P "DOT" 384 (Value.int 23 383)), (dE P "PERCENT" 386 (Value.int 24 385)), (dE P "LBRACE" 388 (Value.int 25 387)), (dE P "RBRACE" 390 (Value.int 26 389)), (dE P "EQEQUAL" 392 (Value.int 27 391)), (dE P "NOTEQUAL" 394 (Value.int 28 393)), (dE P "LESSEQUAL" 396 (Value.int 29 395)), (dE P "GREATEREQUAL" 398 (Value.int 30 397)), (dE P "TILDE" 400 (Value.int 31 399)), (dE P "CIRCUMFLEX" 402 (Value.int 32 401)), (dE P "LEFTSHIFT" 404 (Value.int 33 403)), (dE P "RIGHTSHIFT" 406 (Value.int 34 405)), (dE P "DOUBLESTAR" 408 (Value.int 35 407)), (dE P "PLUSEQUAL" 410 (Value.int 36 409)), (dE P "MINEQUAL" 412 (Value.int 37 411)), (dE P "STAREQUAL" 414 (Value.int 38 413)), (dE P "SLASHEQUAL" 416 (Value.int 39 415)), (dE P "PERCENTEQUAL" 418 (Value.int 40 417)), (dE P "AMPEREQUAL" 420 (Value.int 41 419)), (dE P "VBAREQUAL" 422 (Value.int 42 421)), (dE P "CIRCUMFLEXEQUAL" 424 (Value.int 43 423)), (dE P "LEFTSHIFTEQUAL" 426 (Value.int 44 425)), (dE P "RIGHTSHIFTEQUAL" 428 (Value.int 45 427)), (dE P "DOUBLESTAREQUAL" 430 (Value.int 46 429)), (dE P "DOUBLESLASH" 432 (Value.int 47 431)), (dE P "DOUBLESLASHEQUAL" 434 (Value.int 48 433)), (dE P "AT" 436 (Value.int 49 435)), (dE P "ATEQUAL" 438 (Value.int 50 437)), (dE P "RARROW" 440 (Value.int 51 439)), (dE P "ELLIPSIS" 442 (Value.int 52 441)), (dE P "COLONEQUAL" 444 (Value.int 53 443)), (dE P "EXCLAMATION" 446 (Value.int 54 445)), (dE P "NT_OFFSET" 448 (Value.int 256 447)), (dE P "EXACT_TOKEN_TYPES" 545 (Value.ref 67)), (dE P "ISNONTERMINAL" 552 (Value.ref 76)), (dE P "_name_disallowed_re" 580 (Value.ref 81)), (dE P "_value_disallowed_re" 614 (Value.ref 86))]) 71) (List.toArray []))
noncomputable def q122 : Obj := (Obj.mk Value.none Option.none (Data.fields (List.toArray [(Value.int 2 0), (Value.int 0 0), (Value.ref 37), (Value.int 9 0), (Value.int 0 0), (Value.ref 44), (Value.int 15 0), (Value.int 0 0), (Value.ref 51), (Value.int 54 0), (Value.int 0 0), (Value.ref 58), (Value.int 67 0), (Value.int 0 0), (Value.ref 65), (Value.int 136 0), (Value.int 0 0), (Value.ref 75)])) (List.toArray []))
noncomputable def q125 : Obj := (Obj.mk (Value.type "tuple") Option.none (Data.seq (List.toArray [(vS "x" 549)]) 0) (List.toArray []))
noncomputable def q127 : Obj := mkCo (stAt pwB 62) _ _ _ rfl (Str.ofString "ISNONTERMINAL") (Str.ofString "ISNONTERMINAL")
noncomputable def q128 : Obj := (Obj.mk (Value.type "code") Option.none (Data.fields (List.toArray [(vS "ISNONTERMINAL" 546), (vS "ISNONTERMINAL" 547), (vS "/claim/cut.py" 548), (Value.int 136 0), (Value.int 1 0), (Value.int 0 0), (Value.int 0 0), (Value.int 3 0), (Value.ref 70), (Value.bool Bool.true), (Value.int 276 0), (Value.ref 71), Value.none, (Value.ref 72), (Value.ref 73), (Value.ref 74), (Value.int 550 0), (Value.int 136 0), (vS "/claim/cut.py" 551)])) (List.toArray []))
noncomputable def q130 : Obj := (Obj.mk (Value.type "list") Option.none (Data.seq (List.toArray [(Value.int 14 558), (Value.int 10 559), (Value.int 4 560), (Value.int 1 561), (Value.int 1 562), (Value.int 22 563), (Value.int 0 564), (Value.int 31 565), (Value.int 16 566), (Value.int 127 567), (Value.int 0 568), (Value.int 13 569), (Value.int 7 570), (Value.int 22 571), (Value.int 0 572), (Value.int 31 573), (Value.int 16 574), (Value.int 127 575), (Value.int 0 576), (Value.int 1 577)]) 0) (List.toArray []))
noncomputable def q132 : Obj := (Obj.mk (Value.type "tuple") Option.none (Data.seq (List.toArray [Value.none]) 0) (List.toArray []))
noncomputable def q133 : Obj := (Obj.mk (Value.type "tuple") Option.none (Data.seq (List.toArray [(Value.int 14 0), (Value.int 10 0), (Value.int 4 0), (Value.int 1 0), (Value.int 1 0), (Value.int 22 0), (Value.int 0 0), (Value.int 31 0), (Value.int 16 0), (Value.int 127 0), (Value.int 0 0), (Value.int 13 0), (Value.int 7 0), (Value.int 22 0), (Value.int 0 0), (Value.int 31 0), (Value.int 16 0), (Value.int 127 0), (Value.int 0 0), (Value.int 1 0)]) 0) (List.toArray []))
noncomputable def q134 : Obj := (Obj.mk (Value.type "re.Pattern") Option.none (Data.fields (List.toArray [(vS "[\\x00-\\x1F\\x7F]" 556), (Value.int 32 579), (Value.int 0 0), Value.none, Value.none, (Value.ref 80), (Value.int 0 0)])) (List.toArray []))
noncomputable def q135 : Obj := (Obj.mk (Value.type "list") Option.none (Data.seq (List.toArray [(Value.int 14 584), (Value.int 14 585), (Value.int 4 586), (Value.int 1 587), (Value.int 1 588), (Value.int 9 589), (Value.int 4294966783 590), (Value.int 0 591), (Value.int 0 592), (Value.int 2147483648 593), (Value.int 0 594), (Value.int 0 595), (Value.int 0 596), (Value.int 0 597), (Value.int 0 598), (Value.int 13 599), (Value.int 11 600), (Value.int 9 601), (Value.int 4294966783 602), (Value.int 0 603), (Value.int 0 604), (Value.int 2147483648 605), (Value.int 0 606), (Value.int 0 607), (Value.int 0 608), (Value.int 0 609), (Value.int 0 610), (Value.int 1 611)]) 0) (List.toArray []))
noncomputable def q138 : Obj := (Obj.mk (Value.type "tuple") Option.none (Data.seq (List.toArray [(Value.int 14 0), (Value.int 14 0), (Value.int 4 0), (Value.int 1 0), (Value.int 1 0), (Value.int 9 0), (Value.int 4294966783 0), (Value.int 0 0), (Value.int 0 0), (Value.int 2147483648 0), (Value.int 0 0), (Value.int 0 0), (Value.int 0 0), (Value.int 0 0), (Value.int 0 0), (Value.int 13 0), (Value.int 11 0), (Value.int 9 0), (Value.int 4294966783 0), (Value.int 0 0), (Value.int 0 0), (Value.int 2147483648 0), (Value.int 0 0), (Value.int 0 0), (Value.int 0 0), (Value.int 0 0), (Value.int 0 0), (Value.int 1 0)]) 0) (List.toArray []))
noncomputable def q139 : Obj := (Obj.mk (Value.type "re.Pattern") Option.none (Data.fields (List.toArray [(vS "[\\x00-\\x08\\x0A-\\x1F\\x7F]" 582), (Value.int 32 613), (Value.int 0 0), Value.none, Value.none, (Value.ref 85), (Value.int 0 0)])) (List.toArray []))
noncomputable def q140 (P : Params) : Obj := (Obj.mk (Value.type "dict") Option.none (Data.dict (List.toArray [(dE P "__name__" 165 (vS "cpy313.wsgiref.headers" 553)), (dE P "__doc__" 166 Value.none), (dE P "__package__" 167 Value.none), (dE P "__loader__" 168 (Value.builtin "__main__.__loader__#opaque")), (dE P "__spec__" 169 Value.none), (dE P "__annotations__" 170 (Value.ref 6)), (dE P "__builtins__" 171 (Value.ref 4)), (dE P "__file__" 173 (vS "/claim/cut.py" 172)), (dE P "__cached__" 174 Value.none), (dE P "_sre" 275 (Value.ref 12)), (dE P "_wall" 288 (Value.ref 38)), (dE P "_MAX_STRING_SIZE" 292 (Value.int 40 291)), (dE P "_MOVE_COST" 294 (Value.int 2 293)), (dE P "_CASE_COST" 296 (Value.int 1 295)), (dE P "_substitution_cost" 304 (Value.ref 45)), (dE P "_levenshtein_distance" 324 (Value.ref 52)), (dE P "_iter_escaped_chars" 336 (Value.ref 59)), (dE P "_strip_quoted_realnames" 348 (Value.ref 66)), (dE P "LPAR" 352 (Value.int 7 351)), (dE P "RPAR" 354 (Value.int 8 353)), (dE P "LSQB" 356 (Value.int 9 355)), (dE P "RSQB" 358 (Value.int 10 357)), (dE P "COLON" 360 (Value.int 11 359)), (dE P "COMMA" 362 (Value.int 12 361)), (dE P "SEMI" 364 (Value.int 13 363)), (dE P "PLUS" 366 (Value.int 14 365)), (dE P "MINUS" 368 (Value.int 15 367)), (dE P "STAR" 370 (Value.int 16 369)), (dE P "SLASH" 372 (Value.int 17 371)), (dE P "VBAR" 374 (Value.int 18 373)), (dE P "AMPER" 376 (Value.int 19 375)), (dE P "LESS" 378 (Value.int 20 377)), (dE P "GREATER" 380 (Value.int 21 379)), (dE P "EQUAL" 382 (Value.int 22 381)), (dE P "DOT" 384 (Value.int 23 383)), (dE P "PERCENT" 386 (Value.int 24 385)), (dE P "LBRACE" 388 (Value.int 25 387)), (dE P "RBRACE" 390 (Value.int 26 389)), (dE P "EQEQUAL" 392 (Value.int 27 391)), (dE P "NOTEQUAL" 394 (Value.int 28 393)), (dE P "LESSEQUAL" 396 (Value.int 29 395)), (dE P "GREATEREQUAL" 398 (Value.int 30 397)), (dE P "TILDE" 400 (Value.int 31 399)), (dE P "CIRCUMFLEX" 402 (Value.int 32 401)), (dE P "LEFTSHIFT" 404 (Value.int 33 403)), (dE P "RIGHTSHIFT" 406 (Value.int 34 405)), (dE P "DOUBLESTAR" 408 (Value.int 35 407)), (dE P "PLUSEQUAL" 410 (Value.int 36 409)), (dE P "MINEQUAL" 412 (Value.int 37 411)), (dE P "STAREQUAL" 414 (Value.int 38 413)), (dE P "SLASHEQUAL" 416 (Value.int 39 415)), (dE P "PERCENTEQUAL" 418 (Value.int 40 417)), (dE P "AMPEREQUAL" 420 (Value.int 41 419)), (dE P "VBAREQUAL" 422 (Value.int 42 421)), (dE P "CIRCUMFLEXEQUAL" 424 (Value.int 43 423)), (dE P "LEFTSHIFTEQUAL" 426 (Value.int 44 425)), (dE P "RIGHTSHIFTEQUAL" 428 (Value.int 45 427)), (dE P "DOUBLESTAREQUAL" 430 (Value.int 46 429)), (dE P "DOUBLESLASH" 432 (Value.int 47 431)), (dE P "DOUBLESLASHEQUAL" 434 (Value.int 48 433)), (dE P "AT" 436 (Value.int 49 435)), (dE P "ATEQUAL" 438 (Value.int 50 437)), (dE P "RARROW" 440 (Value.int 51 439)), (dE P "ELLIPSIS" 442 (Value.int 52 441)), (dE P "COLONEQUAL" 444 (Value.int 53 443)), (dE P "EXCLAMATION" 446 (Value.int 54 445)), (dE P "NT_OFFSET" 448 (Value.int 256 447)), (dE P "EXACT_TOKEN_TYPES" 545 (Value.ref 67)), (dE P "ISNONTERMINAL" 552 (Value.ref 76)), (dE P "_name_disallowed_re" 580 (Value.ref 81)), (dE P "_value_disallowed_re" 614 (Value.ref 86)), (dE P "Headers" 771 (Value.ref 209))]) 72) (List.toArray []))
noncomputable def q141 : Obj := (Obj.mk Value.none Option.none (Data.fields (List.toArray [(Value.int 2 0), (Value.int 0 0), (Value.ref 37), (Value.int 9 0), (Value.int 0 0), (Value.ref 44), (Value.int 15 0), (Value.int 0 0), (Value.ref 51), (Value.int 54 0), (Value.int 0 0), (Value.ref 58), (Value.int 67 0), (Value.int 0 0), (Value.ref 65), (Value.int 136 0), (Value.int 0 0), (Value.ref 75), (Value.int 141 0), (Value.int 0 0), (Value.ref 92)])) (List.toArray []))
noncomputable def q143 : Obj := (Obj.mk (Value.type "builtin_function_or_method") Option.none (Data.fields (List.toArray [(Value.builtin "type.__prepare__"), (Value.type "type")])) (List.toArray []))
noncomputable def q144 (P : Params) : Obj := (Obj.mk (Value.type "dict") Option.none (Data.dict (List.toArray [(dE P "__module__" 622 (vS "cpy313.wsgiref.headers" 553)), (dE P "__qualname__" 624 (vS "Headers" 623)), (dE P "__firstlineno__" 626 (Value.int 141 625)), (dE P "__init__" 636 (Value.ref 101)), (dE P "_convert_string_type" 646 (Value.ref 108)), (dE P "__len__" 653 (Value.ref 115)), (dE P "__setitem__" 662 (Value.ref 122)), (dE P "__delitem__" 668 (Value.ref 127)), (dE P "__getitem__" 676 (Value.ref 134)), (dE P "__contains__" 684 (Value.ref 141)), (dE P "get_all" 692 (Value.ref 148)), (dE P "get" 703 (Value.ref 156)), (dE P "keys" 709 (Value.ref 161)), (dE P "values" 715 (Value.ref 166)), (dE P "items" 722 (Value.ref 173)), (dE P "__repr__" 729 (Value.ref 180)), (dE P "__str__" 735 (Value.ref 185)), (dE P "__bytes__" 742 (Value.ref 192)), (dE P "setdefault" 752 (Value.ref 199)), (dE P "add_header" 762 (Value.ref 206)), (dE P "__static_attributes__" 764 (Value.ref 207))]) 21) (List.toArray []))
noncomputable def q146 : Obj := (Obj.mk Value.none Option.none (Data.fields (List.toArray [(Value.int 143 0), (Value.int 4 0), (Value.ref 100), (Value.int 153 0), (Value.int 4 0), (Value.ref 107), (Value.int 161 0), (Value.int 4 0), (Value.ref 114), (Value.int 164 0), (Value.int 4 0), (Value.ref 121), (Value.int 168 0), (Value.int 4 0), (Value.ref 126), (Value.int 172 0), (Value.int 4 0), (Value.ref 133), (Value.int 175 0), (Value.int 4 0), (Value.ref 140), (Value.int 178 0), (Value.int 4 0), (Value.ref 147), (Value.int 181 0), (Value.int 4 0), (Value.ref 155), (Value.int 188 0), (Value.int 4 0), (Value.ref 160), (Value.int 191 0), (Value.int 4 0), (Value.ref 165), (Value.int 194 0), (Value.int 4 0), (Value.ref 172), (Value.int 197 0), (Value.int 4 0), (Value.ref 179), (Value.int 200 0), (Value.int 4 0), (Value.ref 184), (Value.int 203 0), (Value.int 4 0), (Value.ref 191), (Value.int 206 0), (Value.int 4 0), (Value.ref 198), (Value.int 214 0), (Value.int 4 0), (Value.ref 205)])) (List.toArray []))
noncomputable def q147 : Obj := (Obj.mk (Value.type "code") Option.none (Data.fields (List.toArray [(vS "Headers" 617), (vS "Headers" 618), (vS "/claim/cut.py" 619), (Value.int 141 0), (Value.int 0 0), (Value.int 0 0), (Value.int 0 0), (Value.int 0 0), (Value.ref 90), (Value.bool Bool.false), (Value.int 276 0), (Value.ref 91), Value.none, Value.none, Value.none, Value.none, (Value.int 620 0), (Value.int 141 0), (vS "/claim/cut.py" 621)])) (List.toArray []))
noncomputable def q148 : Obj := (Obj.mk (Value.type "frame") Option.none Data.plain (List.toArray [(Option.some (Value.ref 92)), (Option.some (Value.ref 3)), (Option.some (Value.ref 89)), Option.none, (Option.some (vS "cpy313.wsgiref.headers" 553)), Option.none, (Option.some (Value.ref 0))]))
noncomputable def q152 : Obj := (Obj.mk (Value.type "tuple") Option.none (Data.seq (List.toArray [(vS "self" 630), (vS "headers" 631), (vS "k" 632), (vS "v" 633)]) 0) (List.toArray []))
noncomputable def q154 : Obj := mkCo (stAt (clsB (stAt pwB 66)) 0) _ _ _ rfl (Str.ofString "__init__") (Str.ofString "Headers.__init__")
noncomputable def q155 : Obj := (Obj.mk (Value.type "code") Option.none (Data.fields (List.toArray [(vS "__init__" 627), (vS "Headers.__init__" 628), (vS "/claim/cut.py" 629), (Value.int 143 0), (Value.int 2 0), (Value.int 0 0), (Value.int 0 0), (Value.int 3 0), (Value.ref 95), (Value.bool Bool.true), (Value.int 276 0), (Value.ref 96), Value.none, (Value.ref 97), (Value.ref 98), (Value.ref 99), (Value.int 634 0), (Value.int 143 0), (vS "/claim/cut.py" 635)])) (List.toArray []))
noncomputable def q159 : Obj := (Obj.mk (Value.type "tuple") Option.none (Data.seq (List.toArray [(vS "self" 640), (vS "value" 641), (vS "name" 642), (vS "regex" 643)]) 0) (List.toArray []))
noncomputable def q161 : Obj := mkCo (stAt (clsB (stAt pwB 66)) 1) _ _ _ rfl (Str.ofString "_convert_string_type") (Str.ofString "Headers._convert_string_type")
noncomputable def q162 : Obj := (Obj.mk (Value.type "code") Option.none (Data.fields (List.toArray [(vS "_convert_string_type" 637), (vS "Headers._convert_string_type" 638), (vS "/claim/cut.py" 639), (Value.int 153 0), (Value.int 2 0), (Value.int 0 0), (Value.int 1 0), (Value.int 3 0), (Value.ref 102), (Value.bool Bool.true), (Value.int 276 0), (Value.ref 103), Value.none, (Value.ref 104), (Value.ref 105), (Value.ref 106), (Value.int 644 0), (Value.int 153 0), (vS "/claim/cut.py" 645)])) (List.toArray []))
noncomputable def q166 : Obj := (Obj.mk (Value.type "tuple") Option.none (Data.seq (List.toArray [(vS "self" 650)]) 0) (List.toArray []))
noncomputable def q168 : Obj := mkCo (stAt (clsB (stAt pwB 66)) 2) _ _ _ rfl (Str.ofString "__len__") (Str.ofString "Headers.__len__")
noncomputable def q169 : Obj := (Obj.mk (Value.type "code") Option.none (Data.fields (List.toArray [(vS "__len__" 647), (vS "Headers.__len__" 648), (vS "/claim/cut.py" 649), (Value.int 161 0), (Value.int 1 0), (Value.int 0 0), (Value.int 0 0), (Value.int 3 0), (Value.ref 109), (Value.bool Bool.true), (Value.int 276 0), (Value.ref 110), Value.none, (Value.ref 111), (Value.ref 112), (Value.ref 113), (Value.int 651 0), (Value.int 161 0), (vS "/claim/cut.py" 652)])) (List.toArray []))
noncomputable def q173 : Obj := (Obj.mk (Value.type "tuple") Option.none (Data.seq (List.toArray [(vS "self" 657), (vS "name" 658), (vS "val" 659)]) 0) (List.toArray []))
noncomputable def q175 : Obj := mkCo (stAt (clsB (stAt pwB 66)) 3) _ _ _ rfl (Str.ofString "__setitem__") (Str.ofString "Headers.__setitem__")
noncomputable def q176 : Obj := (Obj.mk (Value.type "code") Option.none (Data.fields (List.toArray [(vS "__setitem__" 654), (vS "Headers.__setitem__" 655), (vS "/claim/cut.py" 656), (Value.int 164 0), (Value.int 3 0), (Value.int 0 0), (Value.int 0 0), (Value.int 3 0), (Value.ref 116), (Value.bool Bool.true), (Value.int 276 0), (Value.ref 117), Value.none, (Value.ref 118), (Value.ref 119), (Value.ref 120), (Value.int 660 0), (Value.int 164 0), (vS "/claim/cut.py" 661)])) (List.toArray []))
noncomputable def q180 : Obj := mkCo (stAt (clsB (stAt pwB 66)) 4) _ _ _ rfl (Str.ofString "__delitem__") (Str.ofString "Headers.__delitem__")
noncomputable def q181 : Obj := (Obj.mk (Value.type "code") Option.none (Data.fields (List.toArray [(vS "__delitem__" 663), (vS "Headers.__delitem__" 664), (vS "/claim/cut.py" 665), (Value.int 168 0), (Value.int 2 0), (Value.int 0 0), (Value.int 0 0), (Value.int 3 0), (Value.ref 123), (Value.bool Bool.true), (Value.int 276 0), (Value.ref 124), Value.none, Value.none, Value.none, (Value.ref 125), (Value.int 666 0), (Value.int 168 0), (vS "/claim/cut.py" 667)])) (List.toArray []))
noncomputable def q185 : Obj := (Obj.mk (Value.type "tuple") Option.none (Data.seq (List.toArray [(vS "self" 672), (vS "name" 673)]) 0) (List.toArray []))
noncomputable def q187 : Obj := mkCo (stAt (clsB (stAt pwB 66)) 5) _ _ _ rfl (Str.ofString "__getitem__") (Str.ofString "Headers.__getitem__")
noncomputable def q188 : Obj := (Obj.mk (Value.type "code") Option.none (Data.fields (List.toArray [(vS "__getitem__" 669), (vS "Headers.__getitem__" 670), (vS "/claim/cut.py" 671), (Value.int 172 0), (Value.int 2 0), (Value.int 0 0), (Value.int 0 0), (Value.int 3 0), (Value.ref 128), (Value.bool Bool.true), (Value.int 276 0), (Value.ref 129), Value.none, (Value.ref 130), (Value.ref 131), (Value.ref 132), (Value.int 674 0), (Value.int 172 0), (vS "/claim/cut.py" 675)])) (List.toArray []))
noncomputable def q192 : Obj := (Obj.mk (Value.type "tuple") Option.none (Data.seq (List.toArray [(vS "self" 680), (vS "name" 681)]) 0) (List.toArray []))
noncomputable def q194 : Obj := mkCo (stAt (clsB (stAt pwB 66)) 6) _ _ _ rfl (Str.ofString "__contains__") (Str.ofString "Headers.__contains__")
noncomputable def q195 : Obj := (Obj.mk (Value.type "code") Option.none (Data.fields (List.toArray [(vS "__contains__" 677), (vS "Headers.__contains__" 678), (vS "/claim/cut.py" 679), (Value.int 175 0), (Value.int 2 0), (Value.int 0 0), (Value.int 0 0), (Value.int 3 0), (Value.ref 135), (Value.bool Bool.true), (Value.int 276 0), (Value.ref 136), Value.none, (Value.ref 137), (Value.ref 138), (Value.ref 139), (Value.int 682 0), (Value.int 175 0), (vS "/claim/cut.py" 683)])) (List.toArray []))
noncomputable def q199 : Obj := (Obj.mk (Value.type "tuple") Option.none (Data.seq (List.toArray [(vS "self" 688), (vS "name" 689)]) 0) (List.toArray []))
noncomputable def q201 : Obj := mkCo (stAt (clsB (stAt pwB 66)) 7) _ _ _ rfl (Str.ofString "get_all") (Str.ofString "Headers.get_all")
noncomputable def q202 : Obj := (Obj.mk (Value.type "code") Option.none (Data.fields (List.toArray [(vS "get_all" 685), (vS "Headers.get_all" 686), (vS "/claim/cut.py" 687), (Value.int 178 0), (Value.int 2 0), (Value.int 0 0), (Value.int 0 0), (Value.int 3 0), (Value.ref 142), (Value.bool Bool.true), (Value.int 276 0), (Value.ref 143), Value.none, (Value.ref 144), (Value.ref 145), (Value.ref 146), (Value.int 690 0), (Value.int 178 0), (vS "/claim/cut.py" 691)])) (List.toArray []))
noncomputable def q207 : Obj := (Obj.mk (Value.type "tuple") Option.none (Data.seq (List.toArray [(vS "self" 696), (vS "name" 697), (vS "default" 698), (vS "k" 699), (vS "v" 700)]) 0) (List.toArray []))
noncomputable def q209 : Obj := mkCo (stAt (clsB (stAt pwB 66)) 8) _ _ _ rfl (Str.ofString "get") (Str.ofString "Headers.get")
noncomputable def q210 : Obj := (Obj.mk (Value.type "code") Option.none (Data.fields (List.toArray [(vS "get" 693), (vS "Headers.get" 694), (vS "/claim/cut.py" 695), (Value.int 181 0), (Value.int 3 0), (Value.int 0 0), (Value.int 0 0), (Value.int 3 0), (Value.ref 150), (Value.bool Bool.true), (Value.int 276 0), (Value.ref 151), Value.none, (Value.ref 152), (Value.ref 153), (Value.ref 154), (Value.int 701 0), (Value.int 181 0), (vS "/claim/cut.py" 702)])) (List.toArray []))
noncomputable def q214 : Obj := mkCo (stAt (clsB (stAt pwB 66)) 9) _ _ _ rfl (Str.ofString "keys") (Str.ofString "Headers.keys")
noncomputable def q215 : Obj := (Obj.mk (Value.type "code") Option.none (Data.fields (List.toArray [(vS "keys" 704), (vS "Headers.keys" 705), (vS "/claim/cut.py" 706), (Value.int 188 0), (Value.int 1 0), (Value.int 0 0), (Value.int 0 0), (Value.int 3 0), (Value.ref 157), (Value.bool Bool.true), (Value.int 276 0), (Value.ref 158), Value.none, Value.none, Value.none, (Value.ref 159), (Value.int 707 0), (Value.int 188 0), (vS "/claim/cut.py" 708)])) (List.toArray []))
noncomputable def q219 : Obj := mkCo (stAt (clsB (stAt pwB 66)) 10) _ _ _ rfl (Str.ofString "values") (Str.ofString "Headers.values")
noncomputable def q220 : Obj := (Obj.mk (Value.type "code") Option.none (Data.fields (List.toArray [(vS "values" 710), (vS "Headers.values" 711), (vS "/claim/cut.py" 712), (Value.int 191 0), (Value.int 1 0), (Value.int 0 0), (Value.int 0 0), (Value.int 3 0), (Value.ref 162), (Value.bool Bool.true), (Value.int 276 0), (Value.ref 163), Value.none, Value.none, Value.none, (Value.ref 164), (Value.int 713 0), (Value.int 191 0), (vS "/claim/cut.py" 714)])) (List.toArray []))
noncomputable def q224 : Obj := (Obj.mk (Value.type "tuple") Option.none (Data.seq (List.toArray [(vS "self" 719)]) 0) (List.toArray []))
noncomputable def q226 : Obj := mkCo (stAt (clsB (stAt pwB 66)) 11) _ _ _ rfl (Str.ofString "items") (Str.ofString "Headers.items")
noncomputable def q227 : Obj := (Obj.mk (Value.type "code") Option.none (Data.fields (List.toArray [(vS "items" 716), (vS "Headers.items" 717), (vS "/claim/cut.py" 718), (Value.int 194 0), (Value.int 1 0), (Value.int 0 0), (Value.int 0 0), (Value.int 3 0), (Value.ref 167), (Value.bool Bool.true), (Value.int 276 0), (Value.ref 168), Value.none, (Value.ref 169), (Value.ref 170), (Value.ref 171), (Value.int 720 0), (Value.int 194 0), (vS "/claim/cut.py" 721)])) (List.toArray []))
noncomputable def q231 : Obj := (Obj.mk (Value.type "tuple") Option.none (Data.seq (List.toArray [(vS "self" 726)]) 0) (List.toArray []))
noncomputable def q233 : Obj := mkCo (stAt (clsB (stAt pwB 66)) 12) _ _ _ rfl (Str.ofString "__repr__") (Str.ofString "Headers.__repr__")
noncomputable def q234 : Obj := (Obj.mk (Value.type "code") Option.none (Data.fields (List.toArray [(vS "__repr__" 723), (vS "Headers.__repr__" 724), (vS "/claim/cut.py" 725), (Value.int 197 0), (Value.int 1 0), (Value.int 0 0), (Value.int 0 0), (Value.int 3 0), (Value.ref 174), (Value.bool Bool.true), (Value.int 276 0), (Value.ref 175), Value.none, (Value.ref 176), (Value.ref 177), (Value.ref 178), (Value.int 727 0), (Value.int 197 0), (vS "/claim/cut.py" 728)])) (List.toArray []))
noncomputable def q238 : Obj := mkCo (stAt (clsB (stAt pwB 66)) 13) _ _ _ rfl (Str.ofString "__str__") (Str.ofString "Headers.__str__")
noncomputable def q239 : Obj := (Obj.mk (Value.type "code") Option.none (Data.fields (List.toArray [(vS "__str__" 730), (vS "Headers.__str__" 731), (vS "/claim/cut.py" 732), (Value.int 200 0), (Value.int 1 0), (Value.int 0 0), (Value.int 0 0), (Value.int 3 0), (Value.ref 181), (Value.bool Bool.true), (Value.int 276 0), (Value.ref 182), Value.none, Value.none, Value.none, (Value.ref 183), (Value.int 733 0), (Value.int 200 0), (vS "/claim/cut.py" 734)])) (List.toArray []))
noncomputable def q243 : Obj := (Obj.mk (Value.type "tuple") Option.none (Data.seq (List.toArray [(vS "self" 739)]) 0) (List.toArray []))
noncomputable def q245 : Obj := mkCo (stAt (clsB (stAt pwB 66)) 14) _ _ _ rfl (Str.ofString "__bytes__") (Str.ofString "Headers.__bytes__")
noncomputable def q246 : Obj := (Obj.mk (Value.type "code") Option.none (Data.fields (List.toArray [(vS "__bytes__" 736), (vS "Headers.__bytes__" 737), (vS "/claim/cut.py" 738), (Value.int 203 0), (Value.int 1 0), (Value.int 0 0), (Value.int 0 0), (Value.int 3 0), (Value.ref 186), (Value.bool Bool.true), (Value.int 276 0), (Value.ref 187), Value.none, (Value.ref 188), (Value.ref 189), (Value.ref 190), (Value.int 740 0), (Value.int 203 0), (vS "/claim/cut.py" 741)])) (List.toArray []))
noncomputable def q250 : Obj := (Obj.mk (Value.type "tuple") Option.none (Data.seq (List.toArray [(vS "self" 746), (vS "name" 747), (vS "value" 748), (vS "result" 749)]) 0) (List.toArray []))
noncomputable def q252 : Obj := mkCo (stAt (clsB (stAt pwB 66)) 15) _ _ _ rfl (Str.ofString "setdefault") (Str.ofString "Headers.setdefault")
noncomputable def q253 : Obj := (Obj.mk (Value.type "code") Option.none (Data.fields (List.toArray [(vS "setdefault" 743), (vS "Headers.setdefault" 744), (vS "/claim/cut.py" 745), (Value.int 206 0), (Value.int 3 0), (Value.int 0 0), (Value.int 0 0), (Value.int 3 0), (Value.ref 193), (Value.bool Bool.true), (Value.int 276 0), (Value.ref 194), Value.none, (Value.ref 195), (Value.ref 196), (Value.ref 197), (Value.int 750 0), (Value.int 206 0), (vS "/claim/cut.py" 751)])) (List.toArray []))
noncomputable def q257 : Obj := (Obj.mk (Value.type "tuple") Option.none (Data.seq (List.toArray [(vS "self" 756), (vS "_name" 757), (vS "_value" 758), (vS "_params" 759)]) 0) (List.toArray []))
noncomputable def q259 : Obj := mkCo (stAt (clsB (stAt pwB 66)) 16) _ _ _ rfl (Str.ofString "add_header") (Str.ofString "Headers.add_header")
noncomputable def q260 : Obj := (Obj.mk (Value.type "code") Option.none (Data.fields (List.toArray [(vS "add_header" 753), (vS "Headers.add_header" 754), (vS "/claim/cut.py" 755), (Value.int 214 0), (Value.int 3 0), (Value.int 0 0), (Value.int 0 0), (Value.int 11 0), (Value.ref 200), (Value.bool Bool.true), (Value.int 276 0), (Value.ref 201), Value.none, (Value.ref 202), (Value.ref 203), (Value.ref 204), (Value.int 760 0), (Value.int 214 0), (vS "/claim/cut.py" 761)])) (List.toArray []))
noncomputable def q262 : Obj := (Obj.mk (Value.type "tuple") Option.none (Data.seq (List.toArray [(vS "_headers" 763)]) 0) (List.toArray []))
noncomputable def q263 (P : Params) : Obj := (Obj.mk (Value.type "dict") Option.none (Data.dict (List.toArray [(dE P "__module__" 622 (vS "cpy313.wsgiref.headers" 553)), (dE P "__firstlineno__" 626 (Value.int 141 625)), (dE P "__init__" 636 (Value.ref 101)), (dE P "_convert_string_type" 646 (Value.ref 108)), (dE P "__len__" 653 (Value.ref 115)), (dE P "__setitem__" 662 (Value.ref 122)), (dE P "__delitem__" 668 (Value.ref 127)), (dE P "__getitem__" 676 (Value.ref 134)), (dE P "__contains__" 684 (Value.ref 141)), (dE P "get_all" 692 (Value.ref 148)), (dE P "get" 703 (Value.ref 156)), (dE P "keys" 709 (Value.ref 161)), (dE P "values" 715 (Value.ref 166)), (dE P "items" 722 (Value.ref 173)), (dE P "__repr__" 729 (Value.ref 180)), (dE P "__str__" 735 (Value.ref 185)), (dE P "__bytes__" 742 (Value.ref 192)), (dE P "setdefault" 752 (Value.ref 199)), (dE P "add_header" 762 (Value.ref 206)), (dE P "__static_attributes__" 764 (Value.ref 207)), (dE P "__dict__" 766 (Value.ref 210)), (dE P "__weakref__" 768 (Value.ref 211)), (dE P "__doc__" 769 Value.none)]) 4) (List.toArray []))
noncomputable def q264 : Obj := (Obj.mk (Value.type "type") Option.none (Data.cls (ClassData.mk (Str.ofString "Headers") [(Value.type "object")] [(Value.ref 209), (Value.type "object")] 208 (Str.ofString "Headers") Bool.true [] [] Bool.false Option.none Bool.false)) (List.toArray [Option.none, Option.none, (Option.some (vS "Headers" 615)), (Option.some (vS "Headers" 623)), (Option.some (Value.builtin "object.__new__")), (Option.some (Value.bool Bool.true))]))
noncomputable def q265 : Obj := (Obj.mk (Value.type "getset_descriptor") Option.none (Data.fields (List.toArray [(vS "__dict__" 765), (Value.ref 209), (Value.builtin "function.__dict__"), (Value.builtin "function.__dict__#set")])) (List.toArray []))
noncomputable def q266 : Obj := (Obj.mk (Value.type "getset_descriptor") Option.none (Data.fields (List.toArray [(vS "__weakref__" 767), (Value.ref 209), (Value.builtin "ExceptionGroup.__weakref__"), Value.none])) (List.toArray []))
noncomputable def q267 : Obj := (Obj.mk (Value.type "super") Option.none (Data.fields (List.toArray [(Value.ref 209), (Value.ref 209), (Value.ref 209)])) (List.toArray []))
noncomputable def q268 : Obj := (Obj.mk (Value.type "builtin_function_or_method") Option.none (Data.fields (List.toArray [(Value.builtin "object.__init_subclass__"), (Value.ref 209)])) (List.toArray []))
noncomputable def q353 (P : Params) : Obj := (Obj.mk (Value.type "dict") Option.none (Data.dict (List.toArray [(dE P "__name__" 165 (vS "law_sh0066_01" 772)), (dE P "__doc__" 166 Value.none), (dE P "__package__" 167 Value.none), (dE P "__loader__" 168 (Value.builtin "__main__.__loader__#opaque")), (dE P "__spec__" 169 Value.none), (dE P "__annotations__" 170 (Value.ref 6)), (dE P "__builtins__" 171 (Value.ref 4)), (dE P "__file__" 173 (vS "/claim/cut.py" 172)), (dE P "__cached__" 174 Value.none), (dE P "_sre" 275 (Value.ref 12)), (dE P "_wall" 288 (Value.ref 38)), (dE P "_MAX_STRING_SIZE" 292 (Value.int 40 291)), (dE P "_MOVE_COST" 294 (Value.int 2 293)), (dE P "_CASE_COST" 296 (Value.int 1 295)), (dE P "_substitution_cost" 304 (Value.ref 45)), (dE P "_levenshtein_distance" 324 (Value.ref 52)), (dE P "_iter_escaped_chars" 336 (Value.ref 59)), (dE P "_strip_quoted_realnames" 348 (Value.ref 66)), (dE P "LPAR" 352 (Value.int 7 351)), (dE P "RPAR" 354 (Value.int 8 353)), (dE P "LSQB" 356 (Value.int 9 355)), (dE P "RSQB" 358 (Value.int 10 357)), (dE P "COLON" 360 (Value.int 11 359)), (dE P "COMMA" 362 (Value.int 12 361)), (dE P "SEMI" 364 (Value.int 13 363)), (dE P "PLUS" 366 (Value.int 14 365)), (dE P "MINUS" 368 (Value.int 15 367)), (dE P "STAR" 370 (Value.int 16 369)), (dE P "SLASH" 372 (Value.int 17 371)), (dE P "VBAR" 374 (Value.int 18 373)), (dE P "AMPER" 376 (Value.int 19 375)), (dE P "LESS" 378 (Value.int 20 377)), (dE P "GREATER" 380 (Value.int 21 379)), (dE P "EQUAL" 382 (Value.int 22 381)), (dE P "DOT" 384 (Value.int 23 383)), (dE P "PERCENT" 386 (Value.int 24 385)), (dE P "LBRACE" 388 (Value.int 25 387)), (dE P "RBRACE" 390 (Value.int 26 389)), (dE P "EQEQUAL" 392 (Value.int 27 391)), (dE P "NOTEQUAL" 394 (Value.int 28 393)), (dE P "LESSEQUAL" 396 (Value.int 29 395)), (dE P "GREATEREQUAL" 398 (Value.int 30 397)), (dE P "TILDE" 400 (Value.int 31 399)), (dE P "CIRCUMFLEX" 402 (Value.int 32 401)), (dE P "LEFTSHIFT" 404 (Value.int 33 403)), (dE P "RIGHTSHIFT" 406 (Value.int 34 405)), (dE P "DOUBLESTAR" 408 (Value.int 35 407)), (dE P "PLUSEQUAL" 410 (Value.int 36 409)), (dE P "MINEQUAL" 412 (Value.int 37 411)), (dE P "STAREQUAL" 414 (Value.int 38 413)), (dE P "SLASHEQUAL" 416 (Value.int 39 415)), (dE P "PERCENTEQUAL" 418 (Value.int 40 417)), (dE P "AMPEREQUAL" 420 (Value.int 41 419)), (dE P "VBAREQUAL" 422 (Value.int 42 421)), (dE P "CIRCUMFLEXEQUAL" 424 (Value.int 43 423)), (dE P "LEFTSHIFTEQUAL" 426 (Value.int 44 425)), (dE P "RIGHTSHIFTEQUAL" 428 (Value.int 45 427)), (dE P "DOUBLESTAREQUAL" 430 (Value.int 46 429)), (dE P "DOUBLESLASH" 432 (Value.int 47 431)), (dE P "DOUBLESLASHEQUAL" 434 (Value.int 48 433)), (dE P "AT" 436 (Value.int 49 435)), (dE P "ATEQUAL" 438 (Value.int 50 437)), (dE P "RARROW" 440 (Value.int 51 439)), (dE P "ELLIPSIS" 442 (Value.int 52 441)), (dE P "COLONEQUAL" 444 (Value.int 53 443)), (dE P "EXCLAMATION" 446 (Value.int 54 445)), (dE P "NT_OFFSET" 448 (Value.int 256 447)), (dE P "EXACT_TOKEN_TYPES" 545 (Value.ref 67)), (dE P "ISNONTERMINAL" 552 (Value.ref 76)), (dE P "_name_disallowed_re" 580 (Value.ref 81)), (dE P "_value_disallowed_re" 614 (Value.ref 86)), (dE P "Headers" 771 (Value.ref 209)), (dE P "_law_draws" 783 (Value.ref 220)), (dE P "_law_forest" 789 (Value.ref 225)), (dE P "_law_table" 802 (Value.ref 232)), (dE P "_law_again" 817 (Value.ref 239)), (dE P "_law_firm" 830 (Value.ref 246)), (dE P "_law_moved" 836 (Value.ref 251)), (dE P "_law_common" 850 (Value.ref 258)), (dE P "law" 856 (Value.ref 263))]) 80) (List.toArray []))
noncomputable def q354 : Obj := (Obj.mk Value.none Option.none (Data.fields (List.toArray [(Value.int 2 0), (Value.int 0 0), (Value.ref 37), (Value.int 9 0), (Value.int 0 0), (Value.ref 44), (Value.int 15 0), (Value.int 0 0), (Value.ref 51), (Value.int 54 0), (Value.int 0 0), (Value.ref 58), (Value.int 67 0), (Value.int 0 0), (Value.ref 65), (Value.int 136 0), (Value.int 0 0), (Value.ref 75), (Value.int 141 0), (Value.int 0 0), (Value.ref 92), (Value.int 217 0), (Value.int 0 0), (Value.ref 219), (Value.int 222 0), (Value.int 0 0), (Value.ref 224), (Value.int 234 0), (Value.int 0 0), (Value.ref 231), (Value.int 248 0), (Value.int 0 0), (Value.ref 238), (Value.int 261 0), (Value.int 0 0), (Value.ref 245), (Value.int 270 0), (Value.int 0 0), (Value.ref 250), (Value.int 279 0), (Value.int 0 0), (Value.ref 257), (Value.int 288 0), (Value.int 0 0), (Value.ref 262)])) (List.toArray []))
noncomputable def q357 : Obj := (Obj.mk (Value.type "tuple") Option.none (Data.seq (List.toArray [(vS "script" 777), (vS "draws" 778), (vS "place" 779), (vS "number" 780)]) 0) (List.toArray []))
noncomputable def q359 : Obj := mkCo (stAt pwB 68) _ _ _ rfl (Str.ofString "_law_draws") (Str.ofString "_law_draws")
noncomputable def q360 : Obj := (Obj.mk (Value.type "code") Option.none (Data.fields (List.toArray [(vS "_law_draws" 774), (vS "_law_draws" 775), (vS "/claim/cut.py" 776), (Value.int 217 0), (Value.int 1 0), (Value.int 0 0), (Value.int 0 0), (Value.int 3 0), (Value.ref 214), (Value.bool Bool.true), (Value.int 276 0), (Value.ref 215), Value.none, (Value.ref 216), (Value.ref 217), (Value.ref 218), (Value.int 781 0), (Value.int 217 0), (vS "/claim/cut.py" 782)])) (List.toArray []))
noncomputable def q364 : Obj := mkCo (stAt pwB 69) _ _ _ rfl (Str.ofString "_law_forest") (Str.ofString "_law_forest")
noncomputable def q365 : Obj := (Obj.mk (Value.type "code") Option.none (Data.fields (List.toArray [(vS "_law_forest" 784), (vS "_law_forest" 785), (vS "/claim/cut.py" 786), (Value.int 222 0), (Value.int 1 0), (Value.int 0 0), (Value.int 0 0), (Value.int 3 0), (Value.ref 221), (Value.bool Bool.true), (Value.int 276 0), (Value.ref 222), Value.none, Value.none, Value.none, (Value.ref 223), (Value.int 787 0), (Value.int 222 0), (vS "/claim/cut.py" 788)])) (List.toArray []))
noncomputable def q369 : Obj := (Obj.mk (Value.type "tuple") Option.none (Data.seq (List.toArray [(vS "text" 793), (vS "table" 794), (vS "way" 795), (vS "opened" 796), (vS "place" 797), (vS "sign" 798), (vS "kind" 799)]) 0) (List.toArray []))
noncomputable def q371 : Obj := mkCo (stAt pwB 70) _ _ _ rfl (Str.ofString "_law_table") (Str.ofString "_law_table")
noncomputable def q372 : Obj := (Obj.mk (Value.type "code") Option.none (Data.fields (List.toArray [(vS "_law_table" 790), (vS "_law_table" 791), (vS "/claim/cut.py" 792), (Value.int 234 0), (Value.int 1 0), (Value.int 0 0), (Value.int 0 0), (Value.int 3 0), (Value.ref 226), (Value.bool Bool.true), (Value.int 276 0), (Value.ref 227), Value.none, (Value.ref 228), (Value.ref 229), (Value.ref 230), (Value.int 800 0), (Value.int 234 0), (vS "/claim/cut.py" 801)])) (List.toArray []))
noncomputable def q376 : Obj := (Obj.mk (Value.type "tuple") Option.none (Data.seq (List.toArray [(vS "names" 806), (vS "depths" 807), (vS "shared" 808), (vS "begin" 809), (vS "end" 810), (vS "level" 811), (vS "text" 812), (vS "place" 813), (vS "stop" 814)]) 0) (List.toArray []))
noncomputable def q378 : Obj := mkCo (stAt pwB 71) _ _ _ rfl (Str.ofString "_law_again") (Str.ofString "_law_again")
noncomputable def q379 : Obj := (Obj.mk (Value.type "code") Option.none (Data.fields (List.toArray [(vS "_law_again" 803), (vS "_law_again" 804), (vS "/claim/cut.py" 805), (Value.int 248 0), (Value.int 6 0), (Value.int 0 0), (Value.int 0 0), (Value.int 3 0), (Value.ref 233), (Value.bool Bool.true), (Value.int 276 0), (Value.ref 234), Value.none, (Value.ref 235), (Value.ref 236), (Value.ref 237), (Value.int 815 0), (Value.int 248 0), (vS "/claim/cut.py" 816)])) (List.toArray []))
noncomputable def q383 : Obj := (Obj.mk (Value.type "tuple") Option.none (Data.seq (List.toArray [(vS "ways" 821), (vS "pairs" 822), (vS "costs" 823), (vS "pair" 824), (vS "cost" 825), (vS "one" 826), (vS "two" 827)]) 0) (List.toArray []))
noncomputable def q385 : Obj := mkCo (stAt pwB 72) _ _ _ rfl (Str.ofString "_law_firm") (Str.ofString "_law_firm")
noncomputable def q386 : Obj := (Obj.mk (Value.type "code") Option.none (Data.fields (List.toArray [(vS "_law_firm" 818), (vS "_law_firm" 819), (vS "/claim/cut.py" 820), (Value.int 261 0), (Value.int 3 0), (Value.int 0 0), (Value.int 0 0), (Value.int 3 0), (Value.ref 240), (Value.bool Bool.true), (Value.int 276 0), (Value.ref 241), Value.none, (Value.ref 242), (Value.ref 243), (Value.ref 244), (Value.int 828 0), (Value.int 261 0), (vS "/claim/cut.py" 829)])) (List.toArray []))
noncomputable def q390 : Obj := mkCo (stAt pwB 73) _ _ _ rfl (Str.ofString "_law_moved") (Str.ofString "_law_moved")
noncomputable def q391 : Obj := (Obj.mk (Value.type "code") Option.none (Data.fields (List.toArray [(vS "_law_moved" 831), (vS "_law_moved" 832), (vS "/claim/cut.py" 833), (Value.int 270 0), (Value.int 1 0), (Value.int 0 0), (Value.int 0 0), (Value.int 3 0), (Value.ref 247), (Value.bool Bool.true), (Value.int 276 0), (Value.ref 248), Value.none, Value.none, Value.none, (Value.ref 249), (Value.int 834 0), (Value.int 270 0), (vS "/claim/cut.py" 835)])) (List.toArray []))
noncomputable def q395 : Obj := (Obj.mk (Value.type "tuple") Option.none (Data.seq (List.toArray [(vS "names" 840), (vS "deep" 841), (vS "pairs" 842), (vS "costs" 843), (vS "common" 844), (vS "pair" 845), (vS "cost" 846), (vS "most" 847)]) 0) (List.toArray []))
noncomputable def q397 : Obj := mkCo (stAt pwB 74) _ _ _ rfl (Str.ofString "_law_common") (Str.ofString "_law_common")
noncomputable def q398 : Obj := (Obj.mk (Value.type "code") Option.none (Data.fields (List.toArray [(vS "_law_common" 837), (vS "_law_common" 838), (vS "/claim/cut.py" 839), (Value.int 279 0), (Value.int 4 0), (Value.int 0 0), (Value.int 0 0), (Value.int 3 0), (Value.ref 252), (Value.bool Bool.true), (Value.int 276 0), (Value.ref 253), Value.none, (Value.ref 254), (Value.ref 255), (Value.ref 256), (Value.int 848 0), (Value.int 279 0), (vS "/claim/cut.py" 849)])) (List.toArray []))
noncomputable def q402 : Obj := mkCo (stAt pwB 75) _ _ _ rfl (Str.ofString "law") (Str.ofString "law")
noncomputable def q403 : Obj := (Obj.mk (Value.type "code") Option.none (Data.fields (List.toArray [(vS "law" 851), (vS "law" 852), (vS "/claim/cut.py" 853), (Value.int 288 0), (Value.int 1 0), (Value.int 0 0), (Value.int 0 0), (Value.int 3 0), (Value.ref 259), (Value.bool Bool.true), (Value.int 276 0), (Value.ref 260), Value.none, Value.none, Value.none, (Value.ref 261), (Value.int 854 0), (Value.int 288 0), (vS "/claim/cut.py" 855)])) (List.toArray []))
noncomputable def q467 (P : Params) : Obj := (Obj.mk (Value.type "dict") Option.none (Data.dict (List.toArray [(dE P "__name__" 247 (vS "_sre" 246)), (dE P "__doc__" 248 Value.none), (dE P "__package__" 250 (vS "" 249)), (dE P "__loader__" 251 (Value.ref 14)), (dE P "__spec__" 252 (Value.ref 26)), (dE P "compile" 253 (Value.builtin "_sre.compile")), (dE P "template" 254 (Value.builtin "_sre.template")), (dE P "getcodesize" 255 (Value.builtin "_sre.getcodesize")), (dE P "ascii_iscased" 256 (Value.builtin "_sre.ascii_iscased")), (dE P "unicode_iscased" 257 (Value.builtin "_sre.unicode_iscased")), (dE P "ascii_tolower" 258 (Value.builtin "_sre.ascii_tolower")), (dE P "unicode_tolower" 259 (Value.builtin "_sre.unicode_tolower")), (dE P "MAGIC" 261 (Value.int 20230612 260)), (dE P "CODESIZE" 263 (Value.int 4 262)), (dE P "MAXREPEAT" 265 (Value.int 4294967295 264)), (dE P "MAXGROUPS" 267 (Value.int 1073741823 266)), (dE P "copyright" 269 (vS " SRE 2.2.2 Copyright (c) 1997-2002 by Secret Labs AB " 268))]) 17) (List.toArray []))
noncomputable def t470 (P : Params) : BT := (.node (q41 P) (.node (q42 P) (.node (q44 P) (.node q48 (.node q48 .nil .nil) (.node q64 .nil .nil)) (.node (q467 P) (.node q60 .nil .nil) (.node q68 .nil .nil))) (.node q46 (.node q50 (.node q58 .nil .nil) (.node q66 .nil .nil)) (.node (q54 P) (.node (q62 P) .nil .nil) .nil))) (.node (q43 P) (.node q45 (.node q49 (.node q57 .nil .nil) (.node q65 .nil .nil)) (.node q53 (.node (q61 P) .nil .nil) .nil)) (.node q47 (.node q51 (.node q59 .nil .nil) (.node q67 .nil .nil)) (.node q55 (.node q63 .nil .nil) .nil))))
noncomputable def t73 (P : Params) : BT := (.node (q41 P) (.node (q42 P) (.node (q44 P) (.node q48 (.node q48 (.node q72 .nil .nil) .nil) (.node q64 .nil .nil)) (.node (q52 P) (.node q60 .nil .nil) (.node q68 .nil .nil))) (.node q46 (.node q50 (.node q58 .nil .nil) (.node q66 .nil .nil)) (.node (q54 P) (.node (q62 P) .nil .nil) (.node q49 .nil .nil)))) (.node (q43 P) (.node q45 (.node q49 (.node q57 .nil .nil) (.node q65 .nil .nil)) (.node q53 (.node (q61 P) .nil .nil) (.node q48 .nil .nil))) (.node q47 (.node q51 (.node q59 .nil .nil) (.node q67 .nil .nil)) (.node q55 (.node q63 .nil .nil) (.node q71 .nil .nil)))))
noncomputable def t111 (P : Params) : BT := (.node (q41 P) (.node (q42 P) (.node (q75 P) (.node q48 (.node q48 (.node q72 (.node q48 .nil .nil) .nil) (.node q49 .nil .nil)) (.node q64 (.node q48 .nil .nil) (.node q100 .nil .nil))) (.node (q52 P) (.node q60 (.node q48 .nil .nil) (.node q96 .nil .nil)) (.node q68 (.node q88 .nil .nil) (.node o59 .nil .nil)))) (.node q46 (.node q50 (.node q58 (.node q49 (.node q110 .nil .nil) .nil) (.node q48 .nil .nil)) (.node q66 (.node q86 .nil .nil) (.node q102 .nil .nil))) (.node (q54 P) (.node (q62 P) (.node q82 .nil .nil) (.node q48 .nil .nil)) (.node q76 (.node o45 .nil .nil) (.node q49 .nil .nil))))) (.node (q43 P) (.node q45 (.node q49 (.node q57 (.node q48 (.node q109 .nil .nil) .nil) (.node q93 .nil .nil)) (.node q65 (.node q49 .nil .nil) (.node q48 .nil .nil))) (.node q53 (.node (q61 P) (.node q81 .nil .nil) (.node o52 .nil .nil)) (.node q48 (.node q89 .nil .nil) (.node q48 .nil .nil)))) (.node q47 (.node q51 (.node q59 (.node q79 (.node o66 .nil .nil) .nil) (.node q95 .nil .nil)) (.node q67 (.node q48 .nil .nil) (.node q103 .nil .nil))) (.node q55 (.node q63 (.node o38 .nil .nil) (.node q49 .nil .nil)) (.node q71 (.node q48 .nil .nil) (.node q107 .nil .nil))))))
noncomputable def t112 (P : Params) : BT := (.node (q41 P) (.node (q42 P) (.node (q112 P) (.node q48 (.node q48 (.node q72 (.node q48 .nil .nil) .nil) (.node q49 .nil .nil)) (.node q64 (.node q48 .nil .nil) (.node q100 .nil .nil))) (.node (q52 P) (.node q60 (.node q48 .nil .nil) (.node q96 .nil .nil)) (.node q68 (.node q88 .nil .nil) (.node o59 .nil .nil)))) (.node q46 (.node q50 (.node q58 (.node q49 (.node q110 .nil .nil) .nil) (.node q48 .nil .nil)) (.node q66 (.node q86 .nil .nil) (.node q102 .nil .nil))) (.node (q54 P) (.node (q62 P) (.node q82 .nil .nil) (.node q48 .nil .nil)) (.node q76 (.node o45 .nil .nil) (.node q49 .nil .nil))))) (.node (q43 P) (.node q45 (.node q49 (.node q57 (.node q48 (.node q109 .nil .nil) .nil) (.node q93 .nil .nil)) (.node q65 (.node q49 .nil .nil) (.node q48 .nil .nil))) (.node q53 (.node (q61 P) (.node q81 .nil .nil) (.node o52 .nil .nil)) (.node q48 (.node q89 .nil .nil) (.node q48 .nil .nil)))) (.node q47 (.node q51 (.node q59 (.node q79 (.node o66 .nil .nil) .nil) (.node q95 .nil .nil)) (.node q67 (.node q48 .nil .nil) (.node q103 .nil .nil))) (.node q55 (.node q63 (.node o38 .nil .nil) (.node q49 .nil .nil)) (.node q71 (.node q48 .nil .nil) (.node q107 .nil .nil))))))
noncomputable def t117 (P : Params) : BT := (.node (q41 P) (.node (q42 P) (.node (q114 P) (.node q48 (.node q48 (.node q72 (.node q48 .nil .nil) .nil) (.node q49 .nil .nil)) (.node q64 (.node q48 .nil .nil) (.node q100 .nil .nil))) (.node (q52 P) (.node q60 (.node q48 (.node (q115 P) .nil .nil) .nil) (.node q96 .nil .nil)) (.node q68 (.node q88 .nil .nil) (.node o59 .nil .nil)))) (.node q46 (.node q50 (.node q58 (.node q49 (.node q110 .nil .nil) .nil) (.node q48 .nil .nil)) (.node q66 (.node q86 .nil .nil) (.node q102 .nil .nil))) (.node (q54 P) (.node (q62 P) (.node q82 (.node (q117 P) .nil .nil) .nil) (.node q48 .nil .nil)) (.node q76 (.node o45 .nil .nil) (.node q49 .nil .nil))))) (.node (q43 P) (.node q45 (.node q49 (.node q57 (.node q48 (.node q109 .nil .nil) .nil) (.node q93 .nil .nil)) (.node q65 (.node q49 .nil .nil) (.node q48 .nil .nil))) (.node q53 (.node (q61 P) (.node q81 (.node (q116 P) .nil .nil) .nil) (.node o52 .nil .nil)) (.node q48 (.node q89 .nil .nil) (.node q48 .nil .nil)))) (.node q47 (.node q51 (.node q59 (.node q79 (.node o66 .nil .nil) .nil) (.node q95 .nil .nil)) (.node q67 (.node q48 .nil .nil) (.node q103 .nil .nil))) (.node q55 (.node q63 (.node o38 .nil .nil) (.node q49 .nil .nil)) (.node q71 (.node q48 .nil .nil) (.node q107 .nil .nil))))))
noncomputable def t139 (P : Params) : BT := (.node (q41 P) (.node (q42 P) (.node (q121 P) (.node q48 (.node q48 (.node q72 (.node q48 .nil .nil) .nil) (.node q49 (.node q132 .nil .nil) .nil)) (.node q64 (.node q48 (.node q49 .nil .nil) .nil) (.node q100 .nil .nil))) (.node (q52 P) (.node q60 (.node q48 (.node (q115 P) .nil .nil) .nil) (.node q96 (.node q47 .nil .nil) .nil)) (.node q68 (.node q88 (.node q128 .nil .nil) .nil) (.node o59 .nil .nil)))) (.node q46 (.node q50 (.node q58 (.node q49 (.node q110 .nil .nil) .nil) (.node q48 (.node q134 .nil .nil) .nil)) (.node q66 (.node q86 (.node q48 .nil .nil) .nil) (.node q102 .nil .nil))) (.node (q54 P) (.node (q62 P) (.node q82 (.node (q117 P) .nil .nil) .nil) (.node q48 (.node q138 .nil .nil) .nil)) (.node q122 (.node o45 (.node q130 .nil .nil) .nil) (.node q49 .nil .nil))))) (.node (q43 P) (.node q45 (.node q49 (.node q57 (.node q48 (.node q109 .nil .nil) .nil) (.node q93 (.node q133 .nil .nil) .nil)) (.node q65 (.node q49 (.node q125 .nil .nil) .nil) (.node q48 .nil .nil))) (.node q53 (.node (q61 P) (.node q81 (.node (q116 P) .nil .nil) .nil) (.node o52 (.node q132 .nil .nil) .nil)) (.node q48 (.node q89 (.node o76 .nil .nil) .nil) (.node q48 .nil .nil)))) (.node q47 (.node q51 (.node q59 (.node q79 (.node o66 .nil .nil) .nil) (.node q95 (.node q135 .nil .nil) .nil)) (.node q67 (.node q48 (.node q127 .nil .nil) .nil) (.node q103 .nil .nil))) (.node q55 (.node q63 (.node o38 (.node q48 .nil .nil) .nil) (.node q49 (.node q139 .nil .nil) .nil)) (.node q71 (.node q48 (.node q47 .nil .nil) .nil) (.node q107 .nil .nil))))))
noncomputable def t268 (P : Params) : BT := (.node (q41 P) (.node (q42 P) (.node (q140 P) (.node q48 (.node q48 (.node q72 (.node q48 (.node o127 .nil .nil) (.node q246 .nil .nil)) (.node q48 (.node q214 .nil .nil) .nil)) (.node q49 (.node q132 (.node q49 .nil .nil) (.node q262 .nil .nil)) (.node q166 (.node q49 .nil .nil) .nil))) (.node q64 (.node q48 (.node q49 (.node q48 .nil .nil) (.node o199 .nil .nil)) (.node q49 (.node q48 .nil .nil) .nil)) (.node q100 (.node q48 (.node q49 .nil .nil) .nil) (.node q48 (.node q238 .nil .nil) .nil)))) (.node (q52 P) (.node q60 (.node q48 (.node (q115 P) (.node q48 .nil .nil) (.node q250 .nil .nil)) (.node q154 (.node q49 .nil .nil) .nil)) (.node q96 (.node q47 (.node q202 .nil .nil) (.node q266 .nil .nil)) (.node o115 (.node q234 .nil .nil) .nil))) (.node q68 (.node q88 (.node q128 (.node q194 .nil .nil) (.node q48 .nil .nil)) (.node q162 (.node q226 .nil .nil) .nil)) (.node o59 (.node q146 (.node q210 .nil .nil) .nil) (.node q48 (.node q49 .nil .nil) .nil))))) (.node q46 (.node q50 (.node q58 (.node q49 (.node q110 (.node q49 .nil .nil) (.node q48 .nil .nil)) (.node q152 (.node o161 .nil .nil) .nil)) (.node q48 (.node q134 (.node q48 .nil .nil) (.node q264 .nil .nil)) (.node q168 (.node q48 .nil .nil) .nil))) (.node q66 (.node q86 (.node q48 (.node q192 .nil .nil) (.node q49 .nil .nil)) (.node q48 (.node q224 .nil .nil) .nil)) (.node q102 (.node (q144 P) (.node q48 .nil .nil) .nil) (.node q176 (.node o185 .nil .nil) .nil)))) (.node (q54 P) (.node (q62 P) (.node q82 (.node (q117 P) (.node q188 .nil .nil) (.node q252 .nil .nil)) (.node o101 (.node q220 .nil .nil) .nil)) (.node q48 (.node q138 (.node q132 .nil .nil) (.node q268 .nil .nil)) (.node q49 (.node q48 .nil .nil) .nil))) (.node q141 (.node o45 (.node q130 (.node o141 .nil .nil) (.node q260 .nil .nil)) (.node q48 (.node o173 .nil .nil) .nil)) (.node q49 (.node q148 (.node q48 .nil .nil) .nil) (.node q180 (.node q48 .nil .nil) .nil)))))) (.node (q43 P) (.node q45 (.node q49 (.node q57 (.node q48 (.node q109 (.node q48 .nil .nil) (.node o192 .nil .nil)) (.node q49 (.node q215 .nil .nil) .nil)) (.node q93 (.node q133 (.node q199 .nil .nil) (.node (q263 P) .nil .nil)) (.node q48 (.node q231 .nil .nil) .nil))) (.node q65 (.node q49 (.node q125 (.node q49 .nil .nil) (.node q48 .nil .nil)) (.node q159 (.node q49 .nil .nil) .nil)) (.node q48 (.node q143 (.node q207 .nil .nil) .nil) (.node q175 (.node q239 .nil .nil) .nil)))) (.node q53 (.node (q61 P) (.node q81 (.node (q116 P) (.node q187 .nil .nil) (.node q48 .nil .nil)) (.node q155 (.node q219 .nil .nil) .nil)) (.node o52 (.node q132 (.node o148 .nil .nil) (.node q267 .nil .nil)) (.node q48 (.node o180 .nil .nil) .nil))) (.node q48 (.node q89 (.node o76 (.node q195 .nil .nil) (.node q259 .nil .nil)) (.node o108 (.node q227 .nil .nil) .nil)) (.node q48 (.node q147 (.node o156 .nil .nil) .nil) (.node q49 (.node q243 .nil .nil) .nil))))) (.node q47 (.node q51 (.node q59 (.node q79 (.node o66 (.node q185 .nil .nil) (.node q49 .nil .nil)) (.node q48 (.node q48 .nil .nil) .nil)) (.node q95 (.node q135 (.node q201 .nil .nil) (.node q265 .nil .nil)) (.node q169 (.node q233 .nil .nil) .nil))) (.node q67 (.node q48 (.node q127 (.node q48 .nil .nil) (.node q257 .nil .nil)) (.node q161 (.node q48 .nil .nil) .nil)) (.node q103 (.node q48 (.node q209 .nil .nil) .nil) (.node o122 (.node q48 .nil .nil) .nil)))) (.node q55 (.node q63 (.node o38 (.node q48 (.node o134 .nil .nil) (.node q253 .nil .nil)) (.node q48 (.node o166 .nil .nil) .nil)) (.node q49 (.node q139 (.node q48 .nil .nil) .nil) (.node q173 (.node q49 .nil .nil) .nil))) (.node q71 (.node q48 (.node q47 (.node q48 .nil .nil) (.node o206 .nil .nil)) (.node q49 (.node q48 .nil .nil) .nil)) (.node q107 (.node q132 (.node q49 .nil .nil) .nil) (.node q181 (.node q245 .nil .nil) .nil)))))))
noncomputable def t404 (P : Params) : BT := (.node (q41 P) (.node (q42 P) (.node (q353 P) (.node q48 (.node q48 (.node q72 (.node q48 (.node o127 (.node q48 .nil .nil) .nil) (.node q246 .nil .nil)) (.node q48 (.node q214 .nil .nil) (.node q364 .nil .nil))) (.node q49 (.node q132 (.node q49 .nil .nil) (.node q262 .nil .nil)) (.node q166 (.node q49 .nil .nil) (.node o239 .nil .nil)))) (.node q64 (.node q48 (.node q49 (.node q48 (.node o263 .nil .nil) .nil) (.node o199 .nil .nil)) (.node q49 (.node q48 .nil .nil) (.node q372 .nil .nil))) (.node q100 (.node q48 (.node q49 .nil .nil) (.node q49 .nil .nil)) (.node q48 (.node q238 .nil .nil) (.node q48 .nil .nil))))) (.node (q52 P) (.node q60 (.node q48 (.node (q115 P) (.node q48 (.node q48 .nil .nil) .nil) (.node q250 .nil .nil)) (.node q154 (.node q49 .nil .nil) (.node q49 .nil .nil))) (.node q96 (.node q47 (.node q202 .nil .nil) (.node q266 .nil .nil)) (.node o115 (.node q234 .nil .nil) (.node q48 .nil .nil)))) (.node q68 (.node q88 (.node q128 (.node q194 .nil .nil) (.node q48 .nil .nil)) (.node q162 (.node q226 .nil .nil) (.node q376 .nil .nil))) (.node o59 (.node q146 (.node q210 .nil .nil) (.node q360 .nil .nil)) (.node q48 (.node q49 .nil .nil) (.node o251 .nil .nil)))))) (.node q46 (.node q50 (.node q58 (.node q49 (.node q110 (.node q49 (.node q398 .nil .nil) .nil) (.node q48 .nil .nil)) (.node q152 (.node o161 .nil .nil) (.node o225 .nil .nil))) (.node q48 (.node q134 (.node q48 .nil .nil) (.node q264 .nil .nil)) (.node q168 (.node q48 .nil .nil) (.node q49 .nil .nil)))) (.node q66 (.node q86 (.node q48 (.node q192 .nil .nil) (.node q49 .nil .nil)) (.node q48 (.node q224 .nil .nil) (.node q48 .nil .nil))) (.node q102 (.node (q144 P) (.node q48 .nil .nil) (.node q48 .nil .nil)) (.node q176 (.node o185 .nil .nil) (.node q390 .nil .nil))))) (.node (q54 P) (.node (q62 P) (.node q82 (.node (q117 P) (.node q188 (.node q402 .nil .nil) .nil) (.node q252 .nil .nil)) (.node o101 (.node q220 .nil .nil) (.node q48 .nil .nil))) (.node q48 (.node q138 (.node q132 .nil .nil) (.node q268 .nil .nil)) (.node q49 (.node q48 .nil .nil) (.node q386 .nil .nil)))) (.node q354 (.node o45 (.node q130 (.node o141 .nil .nil) (.node q260 .nil .nil)) (.node q48 (.node o173 .nil .nil) (.node q378 .nil .nil))) (.node q49 (.node q148 (.node q48 .nil .nil) (.node q48 .nil .nil)) (.node q180 (.node q48 .nil .nil) (.node q49 .nil .nil))))))) (.node (q43 P) (.node q45 (.node q49 (.node q57 (.node q48 (.node q109 (.node q48 (.node q397 .nil .nil) .nil) (.node o192 .nil .nil)) (.node q49 (.node q215 .nil .nil) (.node q365 .nil .nil))) (.node q93 (.node q133 (.node q199 .nil .nil) (.node (q263 P) .nil .nil)) (.node q48 (.node q231 .nil .nil) (.node q48 .nil .nil)))) (.node q65 (.node q49 (.node q125 (.node q49 .nil .nil) (.node q48 .nil .nil)) (.node q159 (.node q49 .nil .nil) (.node o232 .nil .nil))) (.node q48 (.node q143 (.node q207 .nil .nil) (.node q357 .nil .nil)) (.node q175 (.node q239 .nil .nil) (.node q49 .nil .nil))))) (.node q53 (.node (q61 P) (.node q81 (.node (q116 P) (.node q187 (.node q49 .nil .nil) .nil) (.node q48 .nil .nil)) (.node q155 (.node q219 .nil .nil) (.node q369 .nil .nil))) (.node o52 (.node q132 (.node o148 .nil .nil) (.node q267 .nil .nil)) (.node q48 (.node o180 .nil .nil) (.node q385 .nil .nil)))) (.node q48 (.node q89 (.node o76 (.node q195 .nil .nil) (.node q259 .nil .nil)) (.node o108 (.node q227 .nil .nil) (.node q48 .nil .nil))) (.node q48 (.node q147 (.node o156 .nil .nil) (.node o220 .nil .nil)) (.node q49 (.node q243 .nil .nil) (.node q48 .nil .nil)))))) (.node q47 (.node q51 (.node q59 (.node q79 (.node o66 (.node q185 (.node o258 .nil .nil) .nil) (.node q49 .nil .nil)) (.node q48 (.node q48 .nil .nil) (.node q48 .nil .nil))) (.node q95 (.node q135 (.node q201 .nil .nil) (.node q265 .nil .nil)) (.node q169 (.node q233 .nil .nil) (.node q383 .nil .nil)))) (.node q67 (.node q48 (.node q127 (.node q48 .nil .nil) (.node q257 .nil .nil)) (.node q161 (.node q48 .nil .nil) (.node q49 .nil .nil))) (.node q103 (.node q48 (.node q209 .nil .nil) (.node q359 .nil .nil)) (.node o122 (.node q48 .nil .nil) (.node q391 .nil .nil))))) (.node q55 (.node q63 (.node o38 (.node q48 (.node o134 (.node q403 .nil .nil) .nil) (.node q253 .nil .nil)) (.node q48 (.node o166 .nil .nil) (.node q371 .nil .nil))) (.node q49 (.node q139 (.node q48 .nil .nil) (.node q48 .nil .nil)) (.node q173 (.node q49 .nil .nil) (.node o246 .nil .nil)))) (.node q71 (.node q48 (.node q47 (.node q48 .nil .nil) (.node o206 .nil .nil)) (.node q49 (.node q48 .nil .nil) (.node q379 .nil .nil))) (.node q107 (.node q132 (.node q49 .nil .nil) (.node q49 .nil .nil)) (.node q181 (.node q245 .nil .nil) (.node q395 .nil .nil))))))))
noncomputable def H68 (P : Params) : Heap := ⟨(q41 P :: q42 P :: q43 P :: q44 P :: q45 :: q46 :: q47 :: q48 :: q49 :: q50 :: q51 :: q52 P :: q53 :: q54 P :: q55 :: q48 :: q57 :: q58 :: q59 :: q60 :: q61 P :: q62 P :: q63 :: q64 :: q65 :: q66 :: q67 :: q68 :: []).toArray, {}⟩
noncomputable def H72 (P : Params) : Heap := ⟨(q41 P :: q42 P :: q43 P :: q44 P :: q45 :: q46 :: q47 :: q48 :: q49 :: q50 :: q51 :: q52 P :: q53 :: q54 P :: q55 :: q48 :: q57 :: q58 :: q59 :: q60 :: q61 P :: q62 P :: q63 :: q64 :: q65 :: q66 :: q67 :: q68 :: q48 :: q49 :: q71 :: q72 :: []).toArray, {}⟩
noncomputable def H405 (P : Params) : Heap := ⟨(q41 P :: q42 P :: q43 P :: q353 P :: q45 :: q46 :: q47 :: q48 :: q49 :: q50 :: q51 :: q52 P :: q53 :: q54 P :: q55 :: q48 :: q57 :: q58 :: q59 :: q60 :: q61 P :: q62 P :: q63 :: q64 :: q65 :: q66 :: q67 :: q68 :: q48 :: q354 :: q71 :: q72 :: q48 :: q49 :: q79 :: q48 :: q81 :: q82 :: o38 :: q48 :: q49 :: q86 :: q48 :: q88 :: q89 :: o45 :: q48 :: q49 :: q93 :: q48 :: q95 :: q96 :: o52 :: q48 :: q49 :: q100 :: q48 :: q102 :: q103 :: o59 :: q48 :: q49 :: q107 :: q48 :: q109 :: q110 :: o66 :: q115 P :: q116 P :: q117 P :: q48 :: q49 :: q125 :: q48 :: q127 :: q128 :: o76 :: q130 :: q47 :: q132 :: q133 :: q134 :: q135 :: q47 :: q132 :: q138 :: q139 :: q48 :: q143 :: q144 P :: q48 :: q146 :: q147 :: q148 :: q132 :: q48 :: q49 :: q152 :: q48 :: q154 :: q155 :: o101 :: q48 :: q49 :: q159 :: q48 :: q161 :: q162 :: o108 :: q48 :: q49 :: q166 :: q48 :: q168 :: q169 :: o115 :: q48 :: q49 :: q173 :: q48 :: q175 :: q176 :: o122 :: q48 :: q49 :: q180 :: q181 :: o127 :: q48 :: q49 :: q185 :: q48 :: q187 :: q188 :: o134 :: q48 :: q49 :: q192 :: q48 :: q194 :: q195 :: o141 :: q48 :: q49 :: q199 :: q48 :: q201 :: q202 :: o148 :: q132 :: q48 :: q49 :: q207 :: q48 :: q209 :: q210 :: o156 :: q48 :: q49 :: q214 :: q215 :: o161 :: q48 :: q49 :: q219 :: q220 :: o166 :: q48 :: q49 :: q224 :: q48 :: q226 :: q227 :: o173 :: q48 :: q49 :: q231 :: q48 :: q233 :: q234 :: o180 :: q48 :: q49 :: q238 :: q239 :: o185 :: q48 :: q49 :: q243 :: q48 :: q245 :: q246 :: o192 :: q48 :: q49 :: q250 :: q48 :: q252 :: q253 :: o199 :: q48 :: q49 :: q257 :: q48 :: q259 :: q260 :: o206 :: q262 :: q263 P :: q264 :: q265 :: q266 :: q267 :: q268 :: q48 :: q49 :: q357 :: q48 :: q359 :: q360 :: o220 :: q48 :: q49 :: q364 :: q365 :: o225 :: q48 :: q49 :: q369 :: q48 :: q371 :: q372 :: o232 :: q48 :: q49 :: q376 :: q48 :: q378 :: q379 :: o239 :: q48 :: q49 :: q383 :: q48 :: q385 :: q386 :: o246 :: q48 :: q49 :: q390 :: q391 :: o251 :: q48 :: q49 :: q395 :: q48 :: q397 :: q398 :: o258 :: q48 :: q49 :: q402 :: q403 :: o263 :: []).toArray, {}⟩
noncomputable def envT : Env := { scope := PySem.Challenge.pw_sh0066_01.main.scope, locals := mainNs, globals := mainNs, cells := [], code := Value.ref 30, frame := some 31 }
noncomputable abbrev bT : List Stmt := behindTheImports PySem.Challenge.pw_sh0066_01
noncomputable abbrev cT : Code := .body bT envT
noncomputable abbrev p0 : Pos := ⟨0, 0, 0, 0⟩
noncomputable abbrev sT (t : Params → BT) (n toks : Nat) (w : World) (os : OsState) : SharedT := ⟨t w.params, n, {}, #[], {}, toks, os⟩


-- PART Left
theorem lnLeft : True := by
  k_with_none
  trivial
/-! NOLINES the top by the kernel, in pieces -/
theorem said : PySem.Challenge.rw_sh0066_01.wellSaid = true := by
  rw [PySem.W.Fast.te9446332074065402090]
  kernel_rfl
theorem top_go (w : World) (os : OsState) : topGo treeTable PySem.Challenge.pw_sh0066_01 w 28 (some (Value.ref 6)) 12 ⟨H68 w.params, #[], {}, 276, os⟩ (topStub PySem.Challenge.pw_sh0066_01) = some (⟨H72 w.params, #[], {}, 282, os⟩, ⟨denote treeTable cT, cT, p0, [topFrame p0]⟩) := by
  rw [PySem.W.Fast.te15667345088766844465, PySem.W.Fast.te11892475500146522536, PySem.W.Fast.te14364793385576792824]
  kernel_rfl
theorem top_block (w : World) (os : OsState) : segRun treeTable PySem.Challenge.pw_sh0066_01 w 28 (some (Value.ref 6)) 1 1 ⟨H72 w.params, #[], {}, 282, os⟩ (blockOf bT envT cT p0 [topFrame p0]) = some (.next, (sT t73 32 282 w os).abs, cT, p0) := by
  unfold blockOf
  rw [PySem.W.Fast.te14374325043358763698, PySem.W.Fast.te14364793385576792824, PySem.W.Fast.te1066825118222455980]
  kernel_rfl
theorem g1 (w : World) (os : OsState) : segRunT treeTable PySem.Challenge.pw_sh0066_01 w 28 (some (Value.ref 6)) 1 393 (sT t73 32 282 w os) (piecesOf (bT.take 30) envT cT p0 [topFrame p0]) = some (.next, sT t111 67 389 w os, cT, ⟨104, 0, 104, 6⟩) := by
  unfold piecesOf
  rw [PySem.W.Fast.te10110043849684766642, PySem.W.Fast.te14364793385576792824, PySem.W.Fast.te12563942051412417395]
  kernel_rfl
theorem g2 (w : World) (os : OsState) : segRunT treeTable PySem.Challenge.pw_sh0066_01 w 28 (some (Value.ref 6)) 1 271 (sT t111 67 389 w os) (piecesOf ((bT.drop 30).take 30) envT cT ⟨104, 0, 104, 6⟩ [topFrame p0]) = some (.next, sT t112 67 449 w os, cT, ⟨134, 0, 134, 9⟩) := by
  unfold piecesOf
  rw [PySem.W.Fast.te10110043849684766642, PySem.W.Fast.te14364793385576792824, PySem.W.Fast.te12563942051412417395]
  kernel_rfl
theorem g3_f (w : World) (os : OsState) : segRunT treeTable PySem.Challenge.pw_sh0066_01 (w.withFollow "special-get-raises" false) 28 (some (Value.ref 6)) 1 979 (sT t112 67 449 (w.withFollow "special-get-raises" false) os) (piecesOf ((bT.drop 60).take 1) envT cT ⟨134, 0, 134, 9⟩ [topFrame p0]) = some (.next, sT t117 70 546 (w.withFollow "special-get-raises" false) os, cT, ⟨135, 0, 135, 17⟩) := by
  unfold piecesOf
  rw [PySem.W.Fast.te10110043849684766642, PySem.W.Fast.te14364793385576792824, PySem.W.Fast.te12563942051412417395]
  kernel_rfl
theorem g3_t (w : World) (os : OsState) : segRunT treeTable PySem.Challenge.pw_sh0066_01 (w.withFollow "special-get-raises" true) 28 (some (Value.ref 6)) 1 979 (sT t112 67 449 (w.withFollow "special-get-raises" true) os) (piecesOf ((bT.drop 60).take 1) envT cT ⟨134, 0, 134, 9⟩ [topFrame p0]) = some (.next, sT t117 70 546 (w.withFollow "special-get-raises" true) os, cT, ⟨135, 0, 135, 17⟩) := by
  unfold piecesOf
  rw [PySem.W.Fast.te10110043849684766642, PySem.W.Fast.te14364793385576792824, PySem.W.Fast.te12563942051412417395]
  kernel_rfl
theorem g3 (w : World) (os : OsState) : segRunT treeTable PySem.Challenge.pw_sh0066_01 w 28 (some (Value.ref 6)) 1 979 (sT t112 67 449 w os) (piecesOf ((bT.drop 60).take 1) envT cT ⟨134, 0, 134, 9⟩ [topFrame p0]) = some (.next, sT t117 70 546 w os, cT, ⟨135, 0, 135, 17⟩) :=
  byRow2 "special-get-raises" (P := fun w => segRunT treeTable PySem.Challenge.pw_sh0066_01 w 28 (some (Value.ref 6)) 1 979 (sT t112 67 449 w os) (piecesOf ((bT.drop 60).take 1) envT cT ⟨134, 0, 134, 9⟩ [topFrame p0]) = some (.next, sT t117 70 546 w os, cT, ⟨135, 0, 135, 17⟩)) (fun w => g3_f w os) (fun w => g3_t w os) w
theorem g4 (w : World) (os : OsState) : segRunT treeTable PySem.Challenge.pw_sh0066_01 w 28 (some (Value.ref 6)) 1 185 (sT t117 70 546 w os) (piecesOf ((bT.drop 61).take 4) envT cT ⟨135, 0, 135, 17⟩ [topFrame p0]) = some (.next, sT t139 87 615 w os, cT, ⟨140, 0, 140, 20⟩) := by
  unfold piecesOf
  rw [PySem.W.Fast.te10110043849684766642, PySem.W.Fast.te14364793385576792824, PySem.W.Fast.te12563942051412417395]
  kernel_rfl
theorem g5 (w : World) (os : OsState) : segRunT treeTable PySem.Challenge.pw_sh0066_01 w 28 (some (Value.ref 6)) 1 729 (sT t139 87 615 w os) (piecesOf ((bT.drop 65).take 1) envT cT ⟨140, 0, 140, 20⟩ [topFrame p0]) = some (.next, sT t268 214 772 w os, cT, ⟨141, 0, 215, 16⟩) := by
  unfold piecesOf
  rw [PySem.W.Fast.te10110043849684766642, PySem.W.Fast.te14364793385576792824, PySem.W.Fast.te12563942051412417395]
  kernel_rfl
theorem g6 (w : World) (os : OsState) : segRunT treeTable PySem.Challenge.pw_sh0066_01 w 28 (some (Value.ref 6)) 1 263 (sT t268 214 772 w os) (piecesOf (bT.drop 66) envT cT ⟨141, 0, 215, 16⟩ [topFrame p0]) = some (.next, sT t404 264 857 w os, cT, ⟨288, 0, 300, 69⟩) := by
  unfold piecesOf
  rw [PySem.W.Fast.te10110043849684766642, PySem.W.Fast.te14364793385576792824, PySem.W.Fast.te12563942051412417395]
  kernel_rfl
theorem top_fin (w : World) (os : OsState) : topRun treeTable PySem.Challenge.pw_sh0066_01 w 28 (some (Value.ref 6)) 2 (sT t404 264 857 w os).abs ⟨doneF .next, cT, ⟨288, 0, 300, 69⟩, [topFrame p0]⟩ = some ⟨H405 w.params, #[], {}, 857, os⟩ := by
  rw [PySem.W.Fast.te14082659384304107361, PySem.W.Fast.te14364793385576792824]
  kernel_rfl
theorem body_cut : bT = bT.take 30 ++ ((bT.drop 30).take 30 ++ ((bT.drop 60).take 1 ++ ((bT.drop 61).take 4 ++ ((bT.drop 65).take 1 ++ (bT.drop 66 ++ []))))) := by kernel_rfl
theorem top_rest (w : World) (os : OsState) : topRun treeTable PySem.Challenge.pw_sh0066_01 w 28 (some (Value.ref 6)) (393 + (271 + (979 + (185 + (729 + (263 + 2)))))) (sT t73 32 282 w os).abs (restOf (bT.take 30 ++ ((bT.drop 30).take 30 ++ ((bT.drop 60).take 1 ++ ((bT.drop 61).take 4 ++ ((bT.drop 65).take 1 ++ (bT.drop 66 ++ [])))))) envT cT p0 [topFrame p0]) = some ⟨H405 w.params, #[], {}, 857, os⟩ :=
  piece_app (segRun_of (g1 w os)) (piece_app (segRun_of (g2 w os)) (piece_app (segRun_of (g3 w os)) (piece_app (segRun_of (g4 w os)) (piece_app (segRun_of (g5 w os)) (piece_app (segRun_of (g6 w os)) (piece_nil (top_fin w os)))))))
theorem top_run (w : World) (os : OsState) : topRun treeTable PySem.Challenge.pw_sh0066_01 w 28 (some (Value.ref 6)) (12 + (1 + (393 + (271 + (979 + (185 + (729 + (263 + 2)))))))) ⟨H68 w.params, #[], {}, 276, os⟩ (topStub PySem.Challenge.pw_sh0066_01) = some ⟨H405 w.params, #[], {}, 857, os⟩ :=
  go_top (top_go w os) (piece_block (top_block w os) (by rw [body_cut]; exact top_rest w os))
theorem top_open (w : World) : (fencedOpening treeTable PySem.Challenge.pw_sh0066_01 w 5754).map (fun s => (s.heap, s.gens, s.drawn, s.toks)) = some (H68 w.params, #[], {}, 276) := by
  unfold fencedOpening
  rw [PySem.W.Fast.te10274390034422433532, PySem.W.Fast.te14289696077712309145, PySem.W.Fast.te14364793385576792824, PySem.W.Fast.te1435165496053646825]
  kernel_rfl
theorem top_size (w : World) : ((H68 w.params).isNs mainGlobals && (#[] : Array GenState).size == 0, (H68 w.params).objs.size, (H68 w.params).nsMap mainGlobals "__annotations__") = (true, 28, some (Value.ref 6)) := by kernel_rfl
theorem top_kept (w : World) (os : OsState) : (staticsOk (importedModules PySem.Challenge.pw_sh0066_01.main.body) (H68 w.params) (H405 w.params) && namesBound PySem.Challenge.pw_sh0066_01 (H405 w.params) && gensDone ⟨H405 w.params, #[], {}, 857, os⟩ && laidKept (H68 w.params) (H405 w.params)) = true := by
  rw [PySem.W.Fast.te5923862056798008813]
  kernel_rfl
theorem top_seen (w : World) (os : OsState) : openSeen QQ LS (importedModules PySem.Challenge.pw_sh0066_01.main.body) XT true ⟨H405 w.params, #[], {}, 857, os⟩ = openGood QQ LS := by
  rw [PySem.W.Fast.te5923862056798008813, PySem.W.Fast.te4187177175401517315]
  kernel_rfl
theorem top_obs (w : World) (os : OsState) : HK.obs ⟨H405 w.params, #[], {}, 857, os⟩ = HK.val w := by kernel_rfl
theorem left : LeftO PySem.Challenge.pw_sh0066_01 QQ LS XT HK.obs HK.val 5754 :=
  LeftO.of_pieces top_open top_size top_run (by decide) fun w => funext fun os => Prod.ext (top_kept w os) (Prod.ext (top_seen w os) (top_obs w os))


-- PART Txts
theorem lnTxts : True := by
  k_with_none
  trivial
/-! NOLINES texts as lists of codes -/
noncomputable abbrev cl (x : Str) : List Nat := x.cps.toList
theorem len_cl (x : Str) : x.length = x.cps.toList.length := by simp [Str.length]
theorem str_ext {x y : Str} (h : cl x = cl y) : x = y := by
  obtain ⟨⟨x⟩⟩ := x; obtain ⟨⟨y⟩⟩ := y
  exact congrArg (fun l => Str.mk (Array.mk l)) h
theorem cl_mk (l : List Nat) : cl ⟨l.toArray⟩ = l := by simp
theorem sl_from {x : Str} {k : Nat} (h : k ≤ x.length) : cl (Txt.slice x (some (k : Int)) none) = (cl x).drop k := by
  rw [PyProof.Rows.slice_from_eq (b := (x.length : Int)) (by omega) (by omega) rfl, cl_mk]
  have e1 : ((k : Int)).toNat = k := by omega
  rw [e1]
  rw [List.take_of_length_le]
  rw [List.length_drop]
  have := len_cl x
  omega
theorem sl_to {x : Str} {k : Nat} (h : k ≤ x.length) : cl (Txt.slice x none (some (k : Int))) = (cl x).take k := by
  have := len_cl x
  have e := beq_iff_eq.mp (PyProof.Rows.slice_closes_to (x := x) (j := (k : Int)) ⟨by omega, by rw [← this]; omega⟩)
  rw [e, cl_mk]
  have e1 : ((k : Int) - 0).toNat = k := by omega
  rw [e1]; simp
theorem sl_toneg {x : Str} {k : Nat} (h0 : 0 < k) (h : k ≤ x.length) : cl (Txt.slice x none (some (-(k : Int)))) = (cl x).take (x.length - k) := by
  have e := StrLaws.sliceText_to_neg (x := x) (j := -(k : Int)) (by omega) (by omega)
  have e2 : Txt.slice x none (some (-(k : Int))) = StrLaws.sliceText x none (some (-(k : Int))) := rfl
  rw [e2, e, cl_mk]
  have e1 : (-(k : Int) + (x.length : Int) - 0).toNat = x.length - k := by omega
  rw [e1]; simp
theorem sl_all (x : Str) : Txt.slice x none none = x := by
  unfold Txt.slice
  have : (Builtin.Str.strSliceIndices none none 1 x.length).length = x.length := by
    simp only [Builtin.Str.strSliceIndices, sliceRange, show (1 : Int) > 0 by decide, if_true, List.length_map, List.length_range, Int.ediv_one]
    split <;> omega
  rw [this]; simp
theorem it_pos {x : Str} {k : Nat} (h : k < x.length) : Txt.item x (k : Int) = ⟨#[(cl x).getD k 0]⟩ := by
  unfold Txt.item Txt.charAt
  rw [StrLaws.seqIndex_nonneg (by omega) (by omega)]
  simp
theorem it_neg {x : Str} {k : Nat} (h0 : 0 < k) (h : k ≤ x.length) : Txt.item x (-(k : Int)) = ⟨#[(cl x).getD (x.length - k) 0]⟩ := by
  unfold Txt.item Txt.charAt
  rw [StrLaws.seqIndex_neg (by omega) (by omega)]
  have e1 : (-(k : Int) + (x.length : Int)).toNat = x.length - k := by omega
  simp [e1]
theorem one_beq (c d : Nat) : ((⟨#[c]⟩ : Str) == ⟨#[d]⟩) = (c == d) := by
  by_cases h : c = d
  · subst h; simp
  · have : (⟨#[c]⟩ : Str) ≠ ⟨#[d]⟩ := fun e => h (by injection e with e; injection e with e; injection e)
    rw [beq_eq_false_iff_ne.mpr this, beq_eq_false_iff_ne.mpr h]
noncomputable def lcp : List Nat → List Nat → Nat
  | x :: xs, y :: ys => if x = y then lcp xs ys + 1 else 0
  | _, _ => 0
theorem lcp_step {la lb : List Nat} {k : Nat} (ha : k < la.length) (hb : k < lb.length) (h : la.getD k 0 = lb.getD k 0) : lcp (la.drop k) (lb.drop k) = lcp (la.drop (k + 1)) (lb.drop (k + 1)) + 1 := by
  rw [List.drop_eq_getElem_cons ha, List.drop_eq_getElem_cons hb]
  have : la[k] = lb[k] := by simpa [List.getD, ha, hb] using h
  simp [lcp, this]
theorem lcp_stop {la lb : List Nat} {k : Nat} (h : la.length ≤ k ∨ lb.length ≤ k ∨ la.getD k 0 ≠ lb.getD k 0) : lcp (la.drop k) (lb.drop k) = 0 := by
  by_cases ha : k < la.length
  · by_cases hb : k < lb.length
    · rw [List.drop_eq_getElem_cons ha, List.drop_eq_getElem_cons hb]
      have : la[k] ≠ lb[k] := by
        rcases h with h | h | h
        · omega
        · omega
        · simpa [List.getD, ha, hb] using h
      simp [lcp, this]
    · rw [List.drop_of_length_le (l := lb) (by omega)]
      cases la.drop k <;> rfl
  · rw [List.drop_of_length_le (l := la) (by omega)]
    rfl
theorem lcp_le : ∀ (a b : List Nat), lcp a b ≤ a.length ∧ lcp a b ≤ b.length
  | [], _ => ⟨Nat.zero_le _, Nat.zero_le _⟩
  | _ :: _, [] => ⟨Nat.zero_le _, Nat.zero_le _⟩
  | x :: xs, y :: ys => by
    unfold lcp
    split
    · have := lcp_le xs ys
      simp only [List.length_cons]; omega
    · exact ⟨Nat.zero_le _, Nat.zero_le _⟩
noncomputable def substF (a b : Str) : Int := if a == b then 0 else if Txt.lower a == Txt.lower b then 1 else 2
noncomputable def subN (x y : Nat) : Int := substF ⟨#[x]⟩ ⟨#[y]⟩
noncomputable def innerL (bc : Nat) : List Nat → List Int → Int → Int → Int → List Int × Int × Int
  | x :: xs, w :: ws, d, r, m =>
    let r' := min (min r w + 2) (d + subN bc x)
    let t := innerL bc xs ws w r' (if r' < m then r' else m)
    (r' :: t.1, t.2)
  | _, ws, _, r, m => (ws, r, m)
noncomputable def outerL (as : List Nat) (c : Int) : List Nat → Int → List Int → Int → Int
  | [], _, _, r => r
  | b :: bs, i, row, _ =>
    let t := innerL b as row (i * 2) (i * 2) 9223372036854775807
    if t.2.2 > c then c + 1 else outerL as c bs (i + 1) t.1 t.2.1
noncomputable def row0 (n : Nat) : List Int := (List.range n).map fun (k : Nat) => 2 * ((k : Int) + 1)
noncomputable def levT (a b : List Nat) (c : Int) : Int :=
  if a = [] ∨ b = [] then 2 * ((a.length : Int) + b.length)
  else
    let p := if b.length < a.length then (b, a) else (a, b)
    if ((p.2.length : Int) - p.1.length) * 2 > c then c + 1 else outerL p.1 c p.2 0 (row0 p.1.length) 0
noncomputable def levL (a b : List Nat) (c : Int) : Int :=
  if a = b then 0 else
    let a1 := a.drop (lcp a b)
    let b1 := b.drop (lcp a b)
    let q := lcp a1.reverse b1.reverse
    levT (a1.take (a1.length - q)) (b1.take (b1.length - q)) c
noncomputable def levF (a b : Str) (c : Int) : Int := levL (cl a) (cl b) c
theorem pre_go {a b : Str} {k T : Nat} (ha : k < a.length) (hb : k < b.length) (e : (Txt.item a (k : Int) == Txt.item b (k : Int)) = true) (hl : lcp (a.cps.toList.drop k) (b.cps.toList.drop k) + k = T) : lcp (a.cps.toList.drop (k + 1)) (b.cps.toList.drop (k + 1)) + (k + 1) = T := by
  rw [it_pos ha, it_pos hb, one_beq] at e
  rw [len_cl] at ha hb
  rw [lcp_step ha hb (by simpa using e)] at hl
  omega
theorem pre_end {a b : Str} {k T : Nat} (h : a.length ≤ k ∨ b.length ≤ k ∨ (k < a.length ∧ k < b.length ∧ (Txt.item a (k : Int) == Txt.item b (k : Int)) = false)) (hl : lcp (a.cps.toList.drop k) (b.cps.toList.drop k) + k = T) : k = T := by
  rw [lcp_stop] at hl
  · omega
  · rcases h with h | h | ⟨ha, hb, e⟩
    · exact .inl (by rw [← len_cl]; exact h)
    · exact .inr (.inl (by rw [← len_cl]; exact h))
    · rw [it_pos ha, it_pos hb, one_beq] at e
      exact .inr (.inr (by simpa using e))
theorem levF_same {a b : Str} (h : (a == b) = true) (c : Int) : levF a b c = 0 := by
  have : a = b := by simpa using h
  subst this
  simp [levF, levL]
theorem lcp_le' (a b : Str) : lcp a.cps.toList b.cps.toList ≤ a.length ∧ lcp a.cps.toList b.cps.toList ≤ b.length := by
  have := lcp_le a.cps.toList b.cps.toList
  have h1 := len_cl a
  have h2 := len_cl b
  omega
theorem sl_toneg_len {x : Str} {k : Nat} (h0 : 0 < k) (h : k ≤ x.length) : (Txt.slice x none (some (-(k : Int)))).length = x.length - k := by
  have e := sl_toneg h0 h
  have h1 := len_cl (Txt.slice x none (some (-(k : Int))))
  have h2 := len_cl x
  simp only [cl] at e
  rw [e, List.length_take] at h1
  omega
theorem rev_getD (l : List Nat) {j : Nat} (h : j < l.length) : l.reverse.getD j 0 = l.getD (l.length - (j + 1)) 0 := by
  have h2 : l.length - (j + 1) < l.length := by omega
  simp only [List.getD_eq_getElem?_getD, List.getElem?_reverse h]
  congr 2
  omega
theorem it_back {x : Str} {j : Nat} {i : Int} (hi : i = -(j : Int) - 1) (h : j < x.length) : Txt.item x i = ⟨#[x.cps.toList.reverse.getD j 0]⟩ := by
  have e : i = -((j + 1 : Nat) : Int) := by omega
  rw [e, it_neg (by omega) (by omega), rev_getD _ (by rw [← len_cl]; exact h), len_cl x]
theorem post_go {a b : Str} {k T : Nat} {i : Int} (hi : i = -(k : Int) - 1) (ha : k < a.length) (hb : k < b.length) (e : (Txt.item a i == Txt.item b i) = true) (hl : lcp (a.cps.toList.reverse.drop k) (b.cps.toList.reverse.drop k) + k = T) : lcp (a.cps.toList.reverse.drop (k + 1)) (b.cps.toList.reverse.drop (k + 1)) + (k + 1) = T := by
  rw [it_back hi ha, it_back hi hb, one_beq] at e
  rw [len_cl, ← List.length_reverse] at ha hb
  rw [lcp_step ha hb (by simpa using e)] at hl
  omega
theorem post_end {a b : Str} {k T : Nat} {i : Int} (hi : i = -(k : Int) - 1) (h : a.length ≤ k ∨ b.length ≤ k ∨ (k < a.length ∧ k < b.length ∧ (Txt.item a i == Txt.item b i) = false)) (hl : lcp (a.cps.toList.reverse.drop k) (b.cps.toList.reverse.drop k) + k = T) : k = T := by
  rw [lcp_stop] at hl
  · omega
  · rcases h with h | h | ⟨ha, hb, e⟩
    · exact .inl (by rw [List.length_reverse, ← len_cl]; exact h)
    · exact .inr (.inl (by rw [List.length_reverse, ← len_cl]; exact h))
    · rw [it_back hi ha, it_back hi hb, one_beq] at e
      exact .inr (.inr (by simpa using e))
/-- the text in front of the last k signs, as the law's slices say it -/
theorem sl_all_take (x : Str) : cl (Txt.slice x none none) = (cl x).take (x.length - 0) := by
  rw [sl_all, Nat.sub_zero, len_cl, List.take_length]
theorem levT_nil {a b : Str} {c : Int} (h : (a.length : Int) = 0 ∨ (b.length : Int) = 0) : levT (cl a) (cl b) c = 2 * ((a.length : Int) + b.length) := by
  have ha := len_cl a
  have hb := len_cl b
  have : cl a = [] ∨ cl b = [] := by
    rcases h with h | h
    · exact .inl (List.length_eq_zero_iff.mp (by show a.cps.toList.length = 0; omega))
    · exact .inr (List.length_eq_zero_iff.mp (by show b.cps.toList.length = 0; omega))
  unfold levT
  rw [if_pos this, ← ha, ← hb]
theorem levT_two {a b : Str} {c : Int} (ha0 : (a.length : Int) ≠ 0) (hb0 : (b.length : Int) ≠ 0) : levT (cl a) (cl b) c =
    (if (((if b.length < a.length then (cl b, cl a) else (cl a, cl b)).2.length : Int) - (if b.length < a.length then (cl b, cl a) else (cl a, cl b)).1.length) * 2 > c then c + 1 else outerL (if b.length < a.length then (cl b, cl a) else (cl a, cl b)).1 c (if b.length < a.length then (cl b, cl a) else (cl a, cl b)).2 0 (row0 (if b.length < a.length then (cl b, cl a) else (cl a, cl b)).1.length) 0) := by
  have ha := len_cl a
  have hb := len_cl b
  have : ¬ (cl a = [] ∨ cl b = []) := by
    rintro (h | h)
    · have : (cl a).length = 0 := by rw [h]; rfl
      exact ha0 (by simp only [cl] at this; omega)
    · have : (cl b).length = 0 := by rw [h]; rfl
      exact hb0 (by simp only [cl] at this; omega)
  unfold levT
  rw [if_neg this]
  simp only [cl, ← ha, ← hb]
theorem levT_big1 {a b : Str} {c : Int} (ha0 : (a.length : Int) ≠ 0) (hb0 : (b.length : Int) ≠ 0) (h : (b.length : Int) < a.length) (hc : c < ((a.length : Int) - b.length) * 2) : levT (cl a) (cl b) c = c + 1 := by
  rw [levT_two ha0 hb0]
  have h' : b.length < a.length := by omega
  simp only [if_pos h', cl, ← len_cl]
  rw [if_pos hc]
theorem levT_big2 {a b : Str} {c : Int} (ha0 : (a.length : Int) ≠ 0) (hb0 : (b.length : Int) ≠ 0) (h : ¬ (b.length : Int) < a.length) (hc : c < ((b.length : Int) - a.length) * 2) : levT (cl a) (cl b) c = c + 1 := by
  rw [levT_two ha0 hb0]
  have h' : ¬ b.length < a.length := by omega
  simp only [if_neg h', cl, ← len_cl]
  rw [if_pos hc]
theorem levT_go1 {a b : Str} {c : Int} (ha0 : (a.length : Int) ≠ 0) (hb0 : (b.length : Int) ≠ 0) (h : (b.length : Int) < a.length) (hc : ¬ c < ((a.length : Int) - b.length) * 2) : levT (cl a) (cl b) c = outerL (cl b) c (cl a) 0 (row0 b.length) 0 := by
  rw [levT_two ha0 hb0]
  have h' : b.length < a.length := by omega
  simp only [if_pos h', cl, ← len_cl]
  rw [if_neg hc]
theorem levT_go2 {a b : Str} {c : Int} (ha0 : (a.length : Int) ≠ 0) (hb0 : (b.length : Int) ≠ 0) (h : ¬ (b.length : Int) < a.length) (hc : ¬ c < ((b.length : Int) - a.length) * 2) : levT (cl a) (cl b) c = outerL (cl a) c (cl b) 0 (row0 a.length) 0 := by
  rw [levT_two ha0 hb0]
  have h' : ¬ b.length < a.length := by omega
  simp only [if_neg h', cl, ← len_cl]
  rw [if_neg hc]
theorem range2_small : ∀ n : Nat, n < 31 → Builtin.Range.small 2 (2 * ((n : Int) + 1)) 2 = true := by decide
theorem range2_size : ∀ n : Nat, n < 31 → Builtin.Range.rangeSize 2 (2 * ((n : Int) + 1)) 2 = (n : Int) := by decide
theorem row0_eq (n : Nat) : rangeInts 2 2 n = row0 n := by
  unfold rangeInts row0
  refine List.map_congr_left fun i _ => ?_
  omega
theorem outer_end {as : List Nat} {c : Int} {bs : List Nat} {i : Int} {row : List Int} {r V : Int} (h : outerL as c [] i row r = V) : r = V := h
/-- the state of the outer loop after some turns -/
noncomputable def OutP (as bs : List Nat) (c V : Int) (k : Nat) (ns : List Int) (res : Int) : Prop := ns.length = as.length ∧ k ≤ bs.length ∧ outerL as c (bs.drop k) (k : Int) ns res = V
noncomputable def InP (bc : Nat) (as : List Nat) (T : List Int × Int × Int) (k : Nat) (ns : List Int) (d r m : Int) : Prop :=
  ns.length = as.length ∧ k ≤ as.length ∧ ((ns.take k ++ (innerL bc (as.drop k) (ns.drop k) d r m).1, (innerL bc (as.drop k) (ns.drop k) d r m).2) : List Int × Int × Int) = T
theorem row0_len (n : Nat) : (row0 n).length = n := by simp [row0]
theorem InP_start {bc : Nat} {as : List Nat} {ns : List Int} {d r m : Int} (h : ns.length = as.length) : InP bc as (innerL bc as ns d r m) 0 ns d r m := ⟨h, Nat.zero_le _, by simp⟩
theorem InP_step {bc : Nat} {as : List Nat} {T : List Int × Int × Int} {k : Nat} {ns : List Int} {d r m r' m' w : Int} (h : InP bc as T k ns d r m) (hk : k < as.length) (hw : w = ns.getD k 0)
    (hr : r' = min (min r w + 2) (d + subN bc (as.getD k 0))) (hm : m' = if r' < m then r' else m) : InP bc as T (k + 1) (ns.set k r') w r' m' := by
  obtain ⟨h1, h2, h3⟩ := h
  have hkn : k < ns.length := by omega
  refine ⟨by rw [List.length_set]; exact h1, hk, ?_⟩
  rw [List.drop_eq_getElem_cons hk, List.drop_eq_getElem_cons hkn] at h3
  have e1 : as.getD k 0 = as[k] := by simp [List.getD, hk]
  have e2 : w = ns[k] := by rw [hw]; simp [List.getD, hkn]
  rw [e1] at hr
  simp only [innerL] at h3
  rw [← e2] at h3
  rw [← hr] at h3
  rw [← hm] at h3
  rw [← h3]
  have e3 : (ns.set k r').drop (k + 1) = ns.drop (k + 1) := by
    rw [List.drop_set_of_lt (by omega)]
  have e4 : (ns.set k r').take (k + 1) = ns.take k ++ [r'] := by
    rw [List.take_add_one, List.take_set_of_le (Nat.le_refl k)]
    simp [hkn]
  rw [e3, e4]
  simp
theorem InP_end {bc : Nat} {as : List Nat} {T : List Int × Int × Int} {ns : List Int} {d r m : Int} (h : InP bc as T as.length ns d r m) : (ns, r, m) = T := by
  obtain ⟨h1, h2, h3⟩ := h
  rw [← h3, ← h1]
  simp [innerL]
theorem OutP_step {as bs : List Nat} {c V : Int} {k : Nat} {ns : List Int} {res : Int} (h : OutP as bs c V k ns res) (hk : k < bs.length) {T : List Int × Int × Int} (hT : innerL (bs.getD k 0) as ns ((k : Int) * 2) ((k : Int) * 2) 9223372036854775807 = T) :
    (T.2.2 > c → V = c + 1) ∧ (¬ T.2.2 > c → T.1.length = as.length → OutP as bs c V (k + 1) T.1 T.2.1) := by
  obtain ⟨h1, h2, h3⟩ := h
  rw [List.drop_eq_getElem_cons hk] at h3
  have e1 : bs.getD k 0 = bs[k] := by simp [List.getD, hk]
  rw [e1] at hT
  simp only [outerL, hT] at h3
  refine ⟨fun hc => ?_, fun hc hl => ⟨hl, hk, ?_⟩⟩
  · rw [if_pos hc] at h3; exact h3.symm
  · rw [if_neg hc] at h3; exact h3


-- PART Kit
theorem lnKit : True := by
  k_with_none
  k_with "call builtin:str.lower" => ((k_here; (with_reducible show wpAny _ _ (call (Value.builtin "str.lower") [Value.str _ _]) _ _ _); (refine SCL.lower (by omega) ?_); intro _))
  k_with "subscriptTail Name Slice str ref" => (((with_reducible show wpAny _ _ (subscriptTail _ (Expr.Slice none (some (Expr.BoolOp _ _ _)) none _) _ _) _ _ _); (with_reducible rename Fr _ _ _ _ => F'); (with_reducible rename News _ _ _ _ => N'); (first | refine slice_strN_nn_len (s := ⟨_, _, _, _, _⟩) F' N' ?_ | refine slice_strN_ns_len (s := ⟨_, _, _, _, _⟩) F' N' ?_); intro _ _ _ _ _ _))
  k_with "tb_start" => (((try (show wpAny _ _ _ _ _ _)); (try k_fold); (repeat' ((fail_if_success (with_reducible show InvEndN _ _ _ _ _ _ _)); first | (k_unfold; (try dsimp only)) | (k_end; wrow_close) | walk1 | (dsimp only; walk1) | (dsimp only; k_unfold; (try dsimp only)) | (leave1; walk_say "STEP leave1"; try dsimp only) | fail "no step")); (all_goals (try dsimp only))))
  k_with "ktr_unf" => (repeat' ((fail_if_success (with_reducible show InvEndN _ _ _ _ _ _ _)); (fail_if_success (with_reducible show wpAny _ _ (exec (Stmt.While _ _ _ _) _) _ _ _)); (fail_if_success (with_reducible show wpAny _ _ (exec (Stmt.For _ _ _ _ _) _) _ _ _)); (fail_if_success (with_reducible show wpAny _ _ (pyIter _) _ _ _)); first | (k_unfold; (try dsimp only)) | (k_end; wrow_close) | walk1 | (dsimp only; walk1) | (dsimp only; k_unfold; (try dsimp only)) | (leave1; walk_say "STEP leave1"; try dsimp only) | fail "no step"))
  k_with "tb_nf" => (((repeat' ((fail_if_success (with_reducible show InvEndN _ _ _ _ _ _ _)); first | (k_unfold; (try dsimp only)) | (k_end; wrow_close) | walk1 | (dsimp only; walk1) | (dsimp only; k_unfold; (try dsimp only)) | (leave1; walk_say "STEP leave1"; try dsimp only) | fail "no step")); (all_goals (try dsimp only))))
  trivial
noncomputable def Hold (P : Prop) : Prop := P
theorem Hold.mk {P : Prop} (h : P) : Hold P := h
theorem Hold.out {P : Prop} (h : Hold P) : P := h
/-! the frame's map as a list of stored names over a base map -/
noncomputable def ov (m : Str → Option Value) : List (Str × Value) → Str → Option Value
  | [] => m
  | p :: r => fun z => if z = p.1 then some p.2 else ov m r z
noncomputable def setp (x : Str) (v : Value) : List (Str × Value) → List (Str × Value)
  | [] => [(x, v)]
  | p :: r => if p.1 = x then (p.1, v) :: r else p :: setp x v r
theorem ov_set (m : Str → Option Value) (x : Str) (v : Value) (ps : List (Str × Value)) : (fun y => if y = x then some v else ov m ps y) = ov m (setp x v ps) := by
  induction ps with
  | nil => rfl
  | cons p r ih =>
    funext y
    unfold setp
    by_cases hp : p.1 = x
    · rw [if_pos hp]
      by_cases hy : y = x
      · simp [ov, hy, hp]
      · simp [ov, hy, hp]
    · rw [if_neg hp]
      have e := congrFun ih y
      by_cases hy : y = p.1
      · have hyx : y ≠ x := fun q => hp (hy ▸ q)
        subst hy
        simp [ov, hyx]
      · simp only [ov, if_neg hy] at e ⊢
        exact e
theorem ov_app (m : Str → Option Value) (x : Str) (v : Value) (ps : List (Str × Value)) (y : Str) : (if y = x then some v else ov m ps y) = ov m (setp x v ps) y := congrFun (ov_set m x v ps) y
theorem fr_fix {g h : Heap} {L : Addr} {m : Str → Option Value} {ps ps' : List (Str × Value)} (F : Fr g L h (fun y => ov m ps y)) (e : ps = ps') : Fr g L h (ov m ps') := e ▸ F
theorem fr_ov {g h : Heap} {L : Addr} {m : Str → Option Value} {x : Str} {v : Value} {ps ps' : List (Str × Value)} (F : Fr g L h (fun y => if y = x then some v else ov m ps y)) (e : setp x v ps = ps') : Fr g L h (ov m ps') := by
  rw [ov_set, e] at F; exact F
theorem fr_ov2 {g h : Heap} {L : Addr} {m : Str → Option Value} {x1 x2 : Str} {v1 v2 : Value} {ps ps' : List (Str × Value)} (F : Fr g L h (fun y => if y = x1 then some v1 else if y = x2 then some v2 else ov m ps y)) (e : setp x1 v1 (setp x2 v2 ps) = ps') : Fr g L h (ov m ps') :=
  fr_ov (ps := (setp x2 v2 ps)) (by simpa only [ov_app] using F) e
theorem fr_ov3 {g h : Heap} {L : Addr} {m : Str → Option Value} {x1 x2 x3 : Str} {v1 v2 v3 : Value} {ps ps' : List (Str × Value)} (F : Fr g L h (fun y => if y = x1 then some v1 else if y = x2 then some v2 else if y = x3 then some v3 else ov m ps y)) (e : setp x1 v1 (setp x2 v2 (setp x3 v3 ps)) = ps') : Fr g L h (ov m ps') :=
  fr_ov2 (ps := (setp x3 v3 ps)) (by simpa only [ov_app] using F) e
theorem fr_ov4 {g h : Heap} {L : Addr} {m : Str → Option Value} {x1 x2 x3 x4 : Str} {v1 v2 v3 v4 : Value} {ps ps' : List (Str × Value)} (F : Fr g L h (fun y => if y = x1 then some v1 else if y = x2 then some v2 else if y = x3 then some v3 else if y = x4 then some v4 else ov m ps y)) (e : setp x1 v1 (setp x2 v2 (setp x3 v3 (setp x4 v4 ps))) = ps') : Fr g L h (ov m ps') :=
  fr_ov3 (ps := (setp x4 v4 ps)) (by simpa only [ov_app] using F) e
theorem fr_ov5 {g h : Heap} {L : Addr} {m : Str → Option Value} {x1 x2 x3 x4 x5 : Str} {v1 v2 v3 v4 v5 : Value} {ps ps' : List (Str × Value)} (F : Fr g L h (fun y => if y = x1 then some v1 else if y = x2 then some v2 else if y = x3 then some v3 else if y = x4 then some v4 else if y = x5 then some v5 else ov m ps y)) (e : setp x1 v1 (setp x2 v2 (setp x3 v3 (setp x4 v4 (setp x5 v5 ps)))) = ps') : Fr g L h (ov m ps') :=
  fr_ov4 (ps := (setp x5 v5 ps)) (by simpa only [ov_app] using F) e
theorem fr_ov6 {g h : Heap} {L : Addr} {m : Str → Option Value} {x1 x2 x3 x4 x5 x6 : Str} {v1 v2 v3 v4 v5 v6 : Value} {ps ps' : List (Str × Value)} (F : Fr g L h (fun y => if y = x1 then some v1 else if y = x2 then some v2 else if y = x3 then some v3 else if y = x4 then some v4 else if y = x5 then some v5 else if y = x6 then some v6 else ov m ps y)) (e : setp x1 v1 (setp x2 v2 (setp x3 v3 (setp x4 v4 (setp x5 v5 (setp x6 v6 ps))))) = ps') : Fr g L h (ov m ps') :=
  fr_ov5 (ps := (setp x6 v6 ps)) (by simpa only [ov_app] using F) e
theorem fr_eq {g h : Heap} {L : Addr} {m m' : Str → Option Value} (F : Fr g L h m) (e : m = m') : Fr g L h m' := e ▸ F
theorem lookup_ov (l : List (Str × Value)) : (fun y => List.lookup y l) = ov (fun _ => none) l := by
  induction l with
  | nil => rfl
  | cons p r ih =>
    obtain ⟨k, v⟩ := p
    funext y
    have e := congrFun ih y
    by_cases hy : y = k
    · subst hy; simp [ov]
    · have hb : (y == k) = false := beq_eq_false_iff_ne.mpr hy
      simp only [List.lookup_cons, hb, ov, if_neg hy]
      exact e
theorem fr_bind {g h : Heap} {L : Addr} {l l' : List (Str × Value)} (F : Fr g L h (fun y => List.lookup y l)) (e : l = l') : Fr g L h (ov (fun _ => none) l') := by
  subst e; rw [← lookup_ov]; exact F
theorem fr_top {g h : Heap} {L : Addr} {m : Str → Option Value} (F : Fr g L h m) : Fr g L h (ov m []) := F

section
variable {M : Model} {A : Around} {E : Value → Shared → Prop} {s : Shared} {env : Env}
theorem wp_execs_app {Γ : PySem.Ctx} {r : List Stmt} {Q : Flow → Pos → Shared → Prop} {E : Value → Pos → Shared → Prop} : ∀ (l : List Stmt) {p : Pos} {s : Shared},
    Sem.wp M Γ (execs l env) (fun f p' s' => match f with | .next => Sem.wp M Γ (execs r env) Q E p' s' | f => Q f p' s') E p s → Sem.wp M Γ (execs (l ++ r) env) Q E p s
  | [], _, _, h => by simpa [execs_nil] using h
  | st :: l, p, s, h => by
    rw [List.cons_append, execs_cons, Sem.wp_bind']
    rw [execs_cons, Sem.wp_bind'] at h
    refine Sem.wp_mono M Γ _ (fun f p' s' h' => ?_) (fun _ _ _ e => e) p s h
    cases f with
    | next => exact wp_execs_app l h'
    | brk => simpa using h'
    | cont => simpa using h'
    | ret v => simpa using h'
/-- the first statements by themselves, the rest behind them -/
theorem execs_app {l r : List Stmt} {Q : Flow → Shared → Prop} (h : wpAny M A (execs l env) (fun f s' => match f with | .next => wpAny M A (execs r env) Q E s' | f => Q f s') E s) : wpAny M A (execs (l ++ r) env) Q E s := fun Γ p hΓ => by
  refine wp_execs_app l (Sem.wp_mono M Γ _ (fun f p' s' h' => ?_) (fun _ _ _ e => e) p s (h Γ p hΓ))
  cases f with
  | next => exact h' Γ p' hΓ
  | brk => exact h'
  | cont => exact h'
  | ret v => exact h'
/-- the first k statements end in a state that J tells of, or leave -/
theorem execs_cut (k : Nat) {l : List Stmt} {Q : Flow → Shared → Prop} (J : Shared → Prop) (h1 : wpAny M A (execs (l.take k) env) (fun f s' => match f with | .next => J s' | f => Q f s') E s)
    (h2 : ∀ s', J s' → wpAny M A (execs (l.drop k) env) Q E s') : wpAny M A (execs l env) Q E s := by
  have e : l = l.take k ++ l.drop k := (List.take_append_drop k l).symm
  rw [e]
  refine execs_app (wpAny_mono h1 (fun f s' h' => ?_) fun _ _ e => e)
  cases f with
  | next => exact h2 s' h'
  | brk => exact h'
  | cont => exact h'
  | ret v => exact h'
end
section
variable {prog : Program} {w : World} {A : Around} {E : Value → Shared → Prop} {s : Shared} {env : Env}
theorem my_while {test : Expr} {body : List Stmt} {pos : Pos} {Q : Flow → Shared → Prop} (I : Nat → Shared → Prop) (n : Nat) (h : I n s)
    (turn : ∀ n s, I n s → wpAny (model prog w) A (isTrue test env (eval test env)) (fun b s₂ =>
      if b then wpAny (model prog w) A (execs body env) (fun f s₃ => match f with
          | .next | .cont => Hold (∃ m, m < n ∧ I m s₃)
          | .brk => Q .next s₃
          | .ret v => Q (.ret v) s₃) (fun _ _ => False) s₂
      else Q .next s₂) (fun _ _ => False) s) : wpAny (model prog w) A (exec (.While test body [] pos) env) Q E s := by
  refine wpAny_While (codeAny_whileLoop I (fun n s hI => ?_) n h)
  refine wpAny_mono (turn n s hI) (fun b s₂ h₂ => ?_) fun _ _ e => e.elim
  cases b with
  | false => exact wpAny_execs_nil (by simpa using h₂)
  | true =>
    simp only [if_true] at h₂ ⊢
    refine wpAny_mono h₂ (fun f s₃ h₃ => ?_) fun _ _ e => e.elim
    cases f <;> exact h₃
theorem my_for {target iter : Expr} {body : List Stmt} {pos : Pos} {Q : Flow → Shared → Prop} 
    (h : wpAny (model prog w) A (eval iter env) (fun x s₁ => wpAny (model prog w) A (pyIter x) (fun it s₂ => ∃ (I : Nat → Shared → Prop) (n : Nat), I n s₂ ∧
      ∀ n s, I n s → wpAny (model prog w) A (pyNext it) (fun r s₁ => match r with
        | none => Q .next s₁
        | some v => wpAny (model prog w) A (letOwnedTupleGo target it v) (fun _ s₁' => wpAny (model prog w) A (assign target env v) (fun _ s₂ => wpAny (model prog w) A (execs body env) (fun f s₃ => match f with
            | .next | .cont => Hold (∃ m, m < n ∧ I m s₃)
            | .brk => Q .next s₃
            | .ret v => Q (.ret v) s₃) (fun _ _ => False) s₂) (fun _ _ => False) s₁') (fun _ _ => False) s₁) (fun _ _ => False) s) E s₁) E s)
    (hs : ∀ x, foldedSetIterable iter env x = pure x := by intro _; rfl) : wpAny (model prog w) A (exec (.For target iter body [] pos) env) Q E s := by
  refine wpAny_For (wpAny_mono h (fun xv s₁ h₁ => wpAny_mono h₁ (fun it s₂ h₂ => ?_) fun _ _ e => e) fun _ _ e => e) hs
  obtain ⟨I, n, hI, turn⟩ := h₂
  refine codeAny_forLoop_any I (fun n s hI => ?_) n hI
  refine wpAny_mono (turn n s hI) (fun r s₁ h₁ => ?_) fun _ _ e => e.elim
  cases r with
  | none => exact wpAny_execs_nil h₁
  | some v =>
    refine wpAny_mono h₁ (fun _ s₁' h₁' => ?_) fun _ _ e => e.elim
    refine wpAny_mono h₁' (fun _ s₂ h₂ => ?_) fun _ _ e => e.elim
    refine wpAny_mono h₂ (fun f s₃ h₃ => ?_) fun _ _ e => e.elim
    cases f <;> exact h₃
end

section
variable {prog : Program} {w : World} {A : Around} {E : Value → Shared → Prop} {s : Shared} {h₀ : Heap} {L : Addr} {m : Str → Option Value} {news : List (Addr × Obj)}
theorem min_op {a b : Int} {t u : Tok} {Q : Value → Shared → Prop} (hh : A.handled = none) (F : Fr h₀ L s.heap m) (N : News h₀ L s.heap news)
    (h : ∀ x t' h' tk, x = min a b → Fr h₀ L h' m → News h₀ L h' news → Q (.int x t') { s with heap := h', toks := tk }) :
    wpAny (model prog w) A (call (.builtin "min") [.int a t, .int b u]) Q E s :=
  min_two_N hh F N fun h' tk F' N' => h _ _ h' tk (by split <;> omega) F' N'
theorem max_op {a b : Int} {t u : Tok} {Q : Value → Shared → Prop} (hh : A.handled = none) (F : Fr h₀ L s.heap m) (N : News h₀ L s.heap news)
    (h : ∀ x t' h' tk, x = max a b → Fr h₀ L h' m → News h₀ L h' news → Q (.int x t') { s with heap := h', toks := tk }) :
    wpAny (model prog w) A (call (.builtin "max") [.int a t, .int b u]) Q E s :=
  max_two_N hh F N fun h' tk F' N' => h _ _ h' tk (by split <;> omega) F' N'
end
theorem execs_cutC {M : Model} {A : Around} {E : Value → Shared → Prop} {s : Shared} {env : Env} (k : Nat) {l : List Stmt} {Q : Flow → Shared → Prop} (R : (Shared → Prop) → Prop)
    (h1 : ∀ J : Shared → Prop, R J → wpAny M A (execs (l.take k) env) (fun f s' => match f with | .next => J s' | f => Q f s') E s) (h2 : R fun s' => wpAny M A (execs (l.drop k) env) Q E s') : wpAny M A (execs l env) Q E s := by
  have e : l = l.take k ++ l.drop k := (List.take_append_drop k l).symm
  rw [e]
  refine execs_app (wpAny_mono (h1 _ h2) (fun f s' h' => ?_) fun _ _ e => e)
  cases f <;> exact h'
theorem news_add {g h : Heap} {L a : Addr} {o : Obj} {led : List (Addr × Obj)} (N : News g L h led) (hm : (a, o) ∈ led) : News g L h ((a, o) :: led) := List.forall_mem_cons.mpr ⟨N _ hm, N⟩


-- PART Kit2
theorem lnKit2 : True := by
  k_with_none
  trivial
/-! NOLINES loops whose ends stay named -/
section
variable {prog : Program} {w : World} {A : Around} {E : Value → Shared → Prop} {s : Shared} {env : Env}
/-- a while: what a turn's end, a break and a return want stays one name, B -/
theorem my_whileQ {test : Expr} {body : List Stmt} {pos : Pos} {Q : Flow → Shared → Prop} (I : Nat → Shared → Prop) (n : Nat) (h : I n s)
    (turn : ∀ n s, I n s → ∀ B : Flow → Shared → Prop, (∀ m s, I m s → m < n → B .next s) → (∀ m s, I m s → m < n → B .cont s) → (∀ s, Q .next s → B .brk s) → (∀ v s, Q (.ret v) s → B (.ret v) s) →
      wpAny (model prog w) A (isTrue test env (eval test env)) (fun b s₂ => if b then wpAny (model prog w) A (execs body env) B (fun _ _ => False) s₂ else B .brk s₂) (fun _ _ => False) s) :
    wpAny (model prog w) A (exec (.While test body [] pos) env) Q E s :=
  my_while I n h fun n s hI => by
    refine wpAny_mono (turn n s hI (fun f s₃ => match f with | .next | .cont => Hold (∃ m, m < n ∧ I m s₃) | .brk => Q .next s₃ | .ret v => Q (.ret v) s₃) (fun m _ h hm => ⟨m, hm, h⟩) (fun m _ h hm => ⟨m, hm, h⟩) (fun _ h => h) (fun _ _ h => h)) (fun b s₂ h₂ => ?_) fun _ _ e => e
    cases b <;> exact h₂
end


-- PART Sub
theorem lnSub : True := by
  k_with_none
  k_with "call builtin:str.lower" => ((k_here; (with_reducible show wpAny _ _ (call (Value.builtin "str.lower") [Value.str _ _]) _ _ _); (refine SCL.lower (by omega) ?_); intro _))
  k_with "subscriptTail Name Slice str ref" => (((with_reducible show wpAny _ _ (subscriptTail _ (Expr.Slice none (some (Expr.BoolOp _ _ _)) none _) _ _) _ _ _); (with_reducible rename Fr _ _ _ _ => F'); (with_reducible rename News _ _ _ _ => N'); (first | refine slice_strN_nn_len (s := ⟨_, _, _, _, _⟩) F' N' ?_ | refine slice_strN_ns_len (s := ⟨_, _, _, _, _⟩) F' N' ?_); intro _ _ _ _ _ _))
  k_with "tb_start" => (((try (show wpAny _ _ _ _ _ _)); (try k_fold); (repeat' ((fail_if_success (with_reducible show InvEndN _ _ _ _ _ _ _)); first | (k_unfold; (try dsimp only)) | (k_end; wrow_close) | walk1 | (dsimp only; walk1) | (dsimp only; k_unfold; (try dsimp only)) | (leave1; walk_say "STEP leave1"; try dsimp only) | fail "no step")); (all_goals (try dsimp only))))
  k_with "ktr_unf" => (repeat' ((fail_if_success (with_reducible show InvEndN _ _ _ _ _ _ _)); (fail_if_success (with_reducible show wpAny _ _ (exec (Stmt.While _ _ _ _) _) _ _ _)); (fail_if_success (with_reducible show wpAny _ _ (exec (Stmt.For _ _ _ _ _) _) _ _ _)); (fail_if_success (with_reducible show wpAny _ _ (pyIter _) _ _ _)); first | (k_unfold; (try dsimp only)) | (k_end; wrow_close) | walk1 | (dsimp only; walk1) | (dsimp only; k_unfold; (try dsimp only)) | (leave1; walk_say "STEP leave1"; try dsimp only) | fail "no step"))
  k_with "tb_nf" => (((repeat' ((fail_if_success (with_reducible show InvEndN _ _ _ _ _ _ _)); first | (k_unfold; (try dsimp only)) | (k_end; wrow_close) | walk1 | (dsimp only; walk1) | (dsimp only; k_unfold; (try dsimp only)) | (leave1; walk_say "STEP leave1"; try dsimp only) | fail "no step")); (all_goals (try dsimp only))))
  trivial
theorem subst_con (w : World) (loose : List Str) (mean : ExcName → Option Value) (mg mb : Str → Option Value) (news : List (Addr × Obj)) (a b : Str) (ta tb : Tok) (hla : a.length ≤ 1000) (hlb : b.length ≤ 1000) :
   ∀ (dp un : Nat) (gd : Option (List Code)) (cn : Str) (cs : Scope) (ad : Addr) (ccd : Value) (cl : List (Str × Addr)) (outer : List Env) (A₀ : Around) (base h₀ : Heap) (L : Addr) (m : Str → Option Value) (s : Shared) (Q E : Value → Shared → Prop),
    Below A₀ base outer h₀ → Fr h₀ L s.heap m → (KK w.params).In h₀ → News h₀ L s.heap news → Top QQ loose mean mg mb h₀ → cs.kind = .function →
    dp + 1 < recursionLimit → un + 8 < cLine →
    (∀ (t : Tok) (h' : Heap) (tk' : Nat), Fr h₀ L h' m → News h₀ L h' news → Q (.int (substF a b) t) { s with heap := h', toks := tk' }) →
      wpAny (model PySem.Challenge.rw_sh0066_01.row.prog w) (ktrTop dp un gd cn cs L ad ccd cl outer) (call (.ref 45) [.str a ta, .str b tb]) Q E s := by
  k_fill
  intro dp un gd cn cs ad ccd cl outer A₀ base h₀ L m s Q E B F X N T hk hd hu hret
  refine wpAny_call ?_
  k_dflt cell_enter
  k_steps
  all_goals (refine' cb_retI (Q := Q) hret ?e1 ?e2 ?e3; (case e2 => k_asm); (case e3 => k_asm); (case e1 => simp_all [substF]))


-- PART Lev
theorem lnLev : True := by
  k_with_none
  k_with "call builtin:str.lower" => ((k_here; (with_reducible show wpAny _ _ (call (Value.builtin "str.lower") [Value.str _ _]) _ _ _); (refine SCL.lower (by omega) ?_); intro _))
  k_with "subscriptTail Name Slice str ref" => (((with_reducible show wpAny _ _ (subscriptTail _ (Expr.Slice none (some (Expr.BoolOp _ _ _)) none _) _ _) _ _ _); (with_reducible rename Fr _ _ _ _ => F'); (with_reducible rename News _ _ _ _ => N'); (first | refine slice_strN_nn_len (s := ⟨_, _, _, _, _⟩) F' N' ?_ | refine slice_strN_ns_len (s := ⟨_, _, _, _, _⟩) F' N' ?_); intro _ _ _ _ _ _))
  k_with "tb_start" => (((try (show wpAny _ _ _ _ _ _)); (try k_fold); (repeat' ((fail_if_success (with_reducible show InvEndN _ _ _ _ _ _ _)); first | (k_unfold; (try dsimp only)) | (k_end; wrow_close) | walk1 | (dsimp only; walk1) | (dsimp only; k_unfold; (try dsimp only)) | (leave1; walk_say "STEP leave1"; try dsimp only) | fail "no step")); (all_goals (try dsimp only))))
  k_with "ktr_unf" => (repeat' ((fail_if_success (with_reducible show InvEndN _ _ _ _ _ _ _)); (fail_if_success (with_reducible show wpAny _ _ (exec (Stmt.While _ _ _ _) _) _ _ _)); (fail_if_success (with_reducible show wpAny _ _ (exec (Stmt.For _ _ _ _ _) _) _ _ _)); (fail_if_success (with_reducible show wpAny _ _ (pyIter _) _ _ _)); first | (k_unfold; (try dsimp only)) | (k_end; wrow_close) | walk1 | (dsimp only; walk1) | (dsimp only; k_unfold; (try dsimp only)) | (leave1; walk_say "STEP leave1"; try dsimp only) | fail "no step"))
  k_with "tb_nf" => (((repeat' ((fail_if_success (with_reducible show InvEndN _ _ _ _ _ _ _)); first | (k_unfold; (try dsimp only)) | (k_end; wrow_close) | walk1 | (dsimp only; walk1) | (dsimp only; k_unfold; (try dsimp only)) | (leave1; walk_say "STEP leave1"; try dsimp only) | fail "no step")); (all_goals (try dsimp only))))
  trivial
theorem lnLev_0 : True := by
  k_with "call ref" => ((k_here; (with_reducible show wpAny _ _ (call (Value.ref 45) _) _ _ _); (refine' subst_con _ _ _ _ _ _ _ _ _ _ ?la ?lb _ _ _ _ _ _ _ _ _ _ _ _ _ _ _ _ _ ?B ?F ?X ?N ?T ?kk ?kd ?ku ?_); (case la => omega); (case lb => omega); (case B => k_asm); (case F => k_asm); (case X => k_asm); (case N => k_asm); (case T => k_asm); (case kk => first | exact rfl | assumption); (case kd => ktr_room); (case ku => ktr_units); k_whole; intro t9 h9 tk9 F9 N9; (try dsimp only)))
  k_with "call builtin:min" => ((k_here; (with_reducible show wpAny _ _ (call (Value.builtin _) [Value.int _ _, Value.int _ _]) _ _ _); (refine' min_op ?hh ?F ?N ?_); (case hh => with_unfolding_all rfl); (case F => k_asm); (case N => k_asm); intro x9 t9 h9 tk9 hx9 F9 N9))
  trivial
section
variable {prog : Program} {w : World} {A : Around} {E : Value → Shared → Prop} {s : Shared} {h₀ : Heap} {L : Addr} {m : Str → Option Value} {news : List (Addr × Obj)} {value slice : Expr} {x : Str} {t : Tok} {n : Nat} {Q : Value → Shared → Prop}
theorem slice_nn_l (hF : Fr h₀ L s.heap m) (hN : News h₀ L s.heap news) (hl : (Txt.slice x none none).length = n) (h : ∀ y h' t' k, Fr h₀ L h' m → News h₀ L h' news → y.length = n → Q (.str y t') { s with heap := h', toks := k })
    (hs : subscripted slice false (.str x t) (.ref s.heap.objs.size) = operate [.ref s.heap.objs.size, .str x t] (getItem (.str x t) (.ref s.heap.objs.size)) := by with_unfolding_all rfl)
    (ht : ∀ r, letTemporaryGo value (.str x t) r = pure () := by intro _; with_unfolding_all rfl) (hsz : x.length ≤ sizeLine := by size_fits) :
    wpAny (model prog w) A (subscriptTail value slice (.str x t) (.ref s.heap.objs.size)) Q E { s with heap := s.heap.push { cls := .type "slice", data := .fields #[.none, .none, .none] } } :=
  slice_strN_nn_len hF hN (fun h' t' k F N _ => h _ h' t' k F N hl) hs ht hsz
theorem slice_ns_l {j : Int} {uj : Tok} (hF : Fr h₀ L s.heap m) (hN : News h₀ L s.heap news) (hl : (Txt.slice x none (some j)).length + n = x.length) (h : ∀ y h' t' k, Fr h₀ L h' m → News h₀ L h' news → y.length + n = x.length → Q (.str y t') { s with heap := h', toks := k })
    (hs : subscripted slice false (.str x t) (.ref s.heap.objs.size) = operate [.ref s.heap.objs.size, .str x t] (getItem (.str x t) (.ref s.heap.objs.size)) := by with_unfolding_all rfl)
    (ht : ∀ r, letTemporaryGo value (.str x t) r = pure () := by intro _; with_unfolding_all rfl) (hsz : x.length ≤ sizeLine := by size_fits) :
    wpAny (model prog w) A (subscriptTail value slice (.str x t) (.ref s.heap.objs.size)) Q E { s with heap := s.heap.push { cls := .type "slice", data := .fields #[.none, .int j uj, .none] } } :=
  slice_strN_ns_len hF hN (fun h' t' k F N _ => h _ h' t' k F N hl) hs ht hsz
theorem slice_sn_l {i : Int} {ui : Tok} (hF : Fr h₀ L s.heap m) (hN : News h₀ L s.heap news) (hl : (Txt.slice x (some i) none).length + n = x.length) (h : ∀ y h' t' k, Fr h₀ L h' m → News h₀ L h' news → y.length + n = x.length → Q (.str y t') { s with heap := h', toks := k })
    (hs : subscripted slice false (.str x t) (.ref s.heap.objs.size) = operate [.ref s.heap.objs.size, .str x t] (getItem (.str x t) (.ref s.heap.objs.size)) := by with_unfolding_all rfl)
    (ht : ∀ r, letTemporaryGo value (.str x t) r = pure () := by intro _; with_unfolding_all rfl) (hsz : x.length ≤ sizeLine := by size_fits) :
    wpAny (model prog w) A (subscriptTail value slice (.str x t) (.ref s.heap.objs.size)) Q E { s with heap := s.heap.push { cls := .type "slice", data := .fields #[.int i ui, .none, .none] } } :=
  slice_strN_sn_len hF hN (fun h' t' k F N _ => h _ h' t' k F N hl) hs ht hsz
end
theorem sl_from_len {x : Str} {k : Nat} (h : k ≤ x.length) : (Txt.slice x (some (k : Int)) none).length + k = x.length := by
  have e := sl_from h
  have h1 := len_cl (Txt.slice x (some (k : Int)) none)
  have h2 := len_cl x
  have h3 : (cl (Txt.slice x (some (k : Int)) none)).length = (cl x).length - k := by rw [e, List.length_drop]
  change _ = (cl (Txt.slice x (some (k : Int)) none)).length at h1
  change _ = (cl x).length at h2
  omega
theorem sl_toneg_len' {x : Str} {k : Nat} (h0 : 0 < k) (h : k ≤ x.length) : (Txt.slice x none (some (-(k : Int)))).length + k = x.length := by
  rw [sl_toneg_len h0 h]; exact Nat.sub_add_cancel h
theorem lnLev_1 : True := by
  k_with "subscriptTail Name Slice str ref" => (((with_reducible show wpAny _ _ (subscriptTail _ (Expr.Slice none (some (Expr.BoolOp _ _ _)) none _) _ _) _ _ _); (with_reducible rename Fr _ _ _ _ => F'); (with_reducible rename News _ _ _ _ => N'); (first | refine slice_ns_l (s := ⟨_, _, _, _, _⟩) F' N' (by with_reducible assumption) ?_ | refine slice_nn_l (s := ⟨_, _, _, _, _⟩) F' N' (by with_reducible assumption) ?_); intro _ _ _ _ _ _ _))
  k_with "subscriptTail Name Slice str ref" => (((with_reducible show wpAny _ _ (subscriptTail _ (Expr.Slice (some _) none none _) _ _) _ _ _); (with_reducible rename Fr _ _ _ _ => F'); (with_reducible rename News _ _ _ _ => N'); refine slice_sn_l (s := ⟨_, _, _, _, _⟩) F' N' (by with_reducible assumption) ?_; intro _ _ _ _ _ _ _))
  trivial
theorem all5 {α β γ δ ε : Type} {P : α × β × γ × δ × ε → Prop} (h : ∀ a b c d e, P (a, b, c, d, e)) : ∀ x, P x := fun x => h x.1 x.2.1 x.2.2.1 x.2.2.2.1 x.2.2.2.2
theorem all9 {α β γ δ ε ζ η θ ι : Type} {P : α × β × γ × δ × ε × ζ × η × θ × ι → Prop} (h : ∀ a b c d e f g i j, P (a, b, c, d, e, f, g, i, j)) : ∀ x, P x := fun x => h x.1 x.2.1 x.2.2.1 x.2.2.2.1 x.2.2.2.2.1 x.2.2.2.2.2.1 x.2.2.2.2.2.2.1 x.2.2.2.2.2.2.2.1 x.2.2.2.2.2.2.2.2
inductive LevI1 (s : Shared) (g1 : Heap) (L1 : Addr) (c : Int) (tc : Tok) (a b : Str) (ta tb : Tok) (news : List (Addr × Obj)) : Nat → Shared → Prop
  | mk {n : Nat} (k : Nat) (h : Heap) (tk : Nat) (t : Tok) (hk : k + n = a.length + 1) (F : Fr g1 L1 h (ov (fun _ => none) [(Str.ofString "max_cost", Value.int c tc), (Str.ofString "b", Value.str b tb), (Str.ofString "a", Value.str a ta), (Str.ofString "pre", Value.int (k : Nat) t)])) (N : News g1 L1 h news) (ha : k ≤ a.length) (hb : k ≤ b.length)
    (hl : lcp (a.cps.toList.drop k) (b.cps.toList.drop k) + k = lcp a.cps.toList b.cps.toList) : LevI1 s g1 L1 c tc a b ta tb news n ⟨h, s.gens, s.drawn, tk, s.os⟩
inductive LevI2 (s : Shared) (g1 : Heap) (L1 : Addr) (c : Int) (tc : Tok) (a1 b1 : Str) (ta1 tb1 : Tok) (p : Nat) (t2 : Tok) (news : List (Addr × Obj)) : Nat → Shared → Prop
  | mk {n : Nat} (j : Nat) (h : Heap) (tk : Nat) (t : Tok) (hk : j + n = a1.length + 1) (F : Fr g1 L1 h (ov (fun _ => none) [(Str.ofString "max_cost", Value.int c tc), (Str.ofString "b", Value.str b1 tb1), (Str.ofString "a", Value.str a1 ta1), (Str.ofString "pre", Value.int (p : Nat) t2), (Str.ofString "post", Value.int (-((j : Nat) : Int)) t)])) (N : News g1 L1 h news) (ha : j ≤ a1.length) (hb : j ≤ b1.length)
    (hl : lcp (a1.cps.toList.reverse.drop j) (b1.cps.toList.reverse.drop j) + j = lcp a1.cps.toList.reverse b1.cps.toList.reverse) : LevI2 s g1 L1 c tc a1 b1 ta1 tb1 p t2 news n ⟨h, s.gens, s.drawn, tk, s.os⟩
theorem fr_fix0 {g h : Heap} {L : Addr} {a b c d : Str × Value} {z : Str} {t : Tok} {j : Nat} (hj : j = 0) (F : Fr g L h (ov (fun _ => none) [a, b, c, d, (z, Value.int 0 t)])) : Fr g L h (ov (fun _ => none) [a, b, c, d, (z, Value.int (-((j : Nat) : Int)) t)]) := by
  subst hj; exact F
theorem fr_ovI {g h : Heap} {L : Addr} {p : Nat} {c i k : Int} {tc ta tb t2 t t' : Tok} {a b : Str} (F : Fr g L h (fun y => if y = Str.ofString "post" then some (Value.int i t') else ov (fun _ => none) [(Str.ofString "max_cost", Value.int c tc), (Str.ofString "b", Value.str b tb), (Str.ofString "a", Value.str a ta), (Str.ofString "pre", Value.int (p : Nat) t2), (Str.ofString "post", Value.int k t)] y)) {i' : Int} (e : i = i') :
    Fr g L h (ov (fun _ => none) [(Str.ofString "max_cost", Value.int c tc), (Str.ofString "b", Value.str b tb), (Str.ofString "a", Value.str a ta), (Str.ofString "pre", Value.int (p : Nat) t2), (Str.ofString "post", Value.int i' t')]) := by
  subst e; exact fr_ov F rfl
theorem lev_con (w : World) (loose : List Str) (mean : ExcName → Option Value) (mg mb : Str → Option Value) (news : List (Addr × Obj)) (a b : Str) (ta tb tc : Tok) (c : Int) (hla : a.length ≤ 30) (hlb : b.length ≤ 30) :
   ∀ (dp un : Nat) (gd : Option (List Code)) (cn : Str) (cs : Scope) (ad : Addr) (ccd : Value) (cls : List (Str × Addr)) (outer : List Env) (A₀ : Around) (base h₀ : Heap) (L : Addr) (m : Str → Option Value) (s : Shared) (Q E : Value → Shared → Prop),
    Below A₀ base outer h₀ → Fr h₀ L s.heap m → (KK w.params).In h₀ → News h₀ L s.heap news → Top QQ loose mean mg mb h₀ → cs.kind = .function →
    dp + 3 < recursionLimit → un + 20 < cLine →
    (∀ (t : Tok) (h' : Heap) (tk' : Nat), Fr h₀ L h' m → News h₀ L h' news → Q (.int (levF a b c) t) { s with heap := h', toks := tk' }) →
      wpAny (model PySem.Challenge.rw_sh0066_01.row.prog w) (ktrTop dp un gd cn cs L ad ccd cls outer) (call (.ref 52) [.str a ta, .str b tb, .int c tc]) Q E s := by
  k_fill
  intro dp un gd cn cs ad ccd cls outer A₀ base h₀ L m s Q E B F X N T hk hdp hu hret
  refine wpAny_call ?_
  k_dflt cell_enter
  rename_i g1 L1 h1 FG1 F1 N1 B1 X1 T1
  replace F1 := fr_bind F1 (l' := [(Str.ofString "max_cost", Value.int c tc), (Str.ofString "b", Value.str b tb), (Str.ofString "a", Value.str a ta)]) rfl
  refine execs_cutC 2 (fun J => ∀ h tk t, Fr g1 L1 h (ov (fun _ => none) [(Str.ofString "max_cost", Value.int c tc), (Str.ofString "b", Value.str b tb), (Str.ofString "a", Value.str a ta), (Str.ofString "pre", Value.int 0 t)]) → News g1 L1 h news → (a == b) = false → J ⟨h, s.gens, s.drawn, tk, s.os⟩) (fun J hJ => ?_) ?_
  · dsimp only [List.take, List.drop]
    k_fold
    tb_start
    · rw [← levF_same (by assumption) c]
      exact hret _ _ _ (by assumption) (by assumption)
    · with_reducible rename Fr g1 L1 _ _ => F'
      with_reducible rename News g1 L1 _ _ => N'
      exact hJ _ _ _ (fr_ov F' rfl) N' (by first | assumption | (rename ¬ _ => e; simpa using e) | (rename (_ == _) = false => e; simpa using e))
  · clear F1 N1
    intro h2 tk2 t2 F2 N2 hab
    dsimp only [List.take, List.drop]
    refine execs_cutC 1 (fun J => ∀ h tk t p, lcp a.cps.toList b.cps.toList = p → Fr g1 L1 h (ov (fun _ => none) [(Str.ofString "max_cost", Value.int c tc), (Str.ofString "b", Value.str b tb), (Str.ofString "a", Value.str a ta), (Str.ofString "pre", Value.int (p : Nat) t)]) → News g1 L1 h news → J ⟨h, s.gens, s.drawn, tk, s.os⟩) (fun J hJ => ?_) ?_
    · dsimp only [List.take, List.drop]
      refine wpAny_execs_cons (my_whileQ (LevI1 s g1 L1 c tc a b ta tb news) (a.length + 1) (.mk 0 h2 tk2 t2 (Nat.zero_add _) F2 N2 (Nat.zero_le _) (Nat.zero_le _) rfl) ?_)
      clear F2 N2
      intro n s' hI K hK1 hK2 hK3 hK4
      obtain ⟨k, h, tk, t, hk, F, N, hka, hkb, hl⟩ := hI
      clear hK2 hK4
      have ga := sl_from_len hka
      have gb := sl_from_len hkb
      show wpAny _ _ _ _ _ _
      k_fold
      tb_start
      · with_reducible rename Fr g1 L1 _ _ => F'
        with_reducible rename News g1 L1 _ _ => N'
        exact hK1 (n - 1) _ (.mk (k + 1) _ _ _ (by omega) (fr_ov F' rfl) N' (by omega) (by omega) (pre_go (by omega) (by omega) (by assumption) hl)) (by omega)
      · exact hK3 _ (wpAny_execs_nil (hJ _ _ _ _ (pre_end (.inr (.inr ⟨by omega, by omega, by assumption⟩)) hl).symm (by assumption) (by assumption)))
      · exact hK3 _ (wpAny_execs_nil (hJ _ _ _ _ (pre_end (.inr (.inl (by omega))) hl).symm (by assumption) (by assumption)))
      · exact hK3 _ (wpAny_execs_nil (hJ _ _ _ _ (pre_end (.inl (by omega)) hl).symm (by assumption) (by assumption)))
    · clear F2 N2
      intro h2 tk2 t2 p hp F2 N2
      have hpa := lcp_le' a b
      rw [hp] at hpa
      have hpb := hpa.2
      replace hpa := hpa.1
      dsimp only [List.take, List.drop]
      refine execs_cutC 3 (fun J => ∀ h tk ta1 tb1 t, Fr g1 L1 h (ov (fun _ => none) [(Str.ofString "max_cost", Value.int c tc), (Str.ofString "b", Value.str (Txt.slice b (some (p : Int)) none) tb1), (Str.ofString "a", Value.str (Txt.slice a (some (p : Int)) none) ta1), (Str.ofString "pre", Value.int (p : Nat) t2), (Str.ofString "post", Value.int (-((0 : Nat) : Int)) t)]) → News g1 L1 h news → J ⟨h, s.gens, s.drawn, tk, s.os⟩) (fun J hJ => ?_) ?_
      · dsimp only [List.take, List.drop]
        k_fold
        tb_start
        with_reducible rename Fr g1 L1 _ _ => FF
        exact hJ _ _ _ _ _ (fr_ov3 FF rfl) (by assumption)
      · clear F2 N2
        intro h3 tk3 ta1 tb1 t3 F3 N3
        have ca : cl (Txt.slice a (some (p : Int)) none) = (cl a).drop p := sl_from hpa
        have cb : cl (Txt.slice b (some (p : Int)) none) = (cl b).drop p := sl_from hpb
        have la1 : (Txt.slice a (some (p : Int)) none).length ≤ 30 := Nat.le_trans (Txt.slice_le _ _ _) hla
        have lb1 : (Txt.slice b (some (p : Int)) none).length ≤ 30 := Nat.le_trans (Txt.slice_le _ _ _) hlb
        generalize Txt.slice a (some (p : Int)) none = a1 at ca la1 F3
        generalize Txt.slice b (some (p : Int)) none = b1 at cb lb1 F3
        refine execs_cutC 1 (fun J => ∀ h tk t q, lcp a1.cps.toList.reverse b1.cps.toList.reverse = q → Fr g1 L1 h (ov (fun _ => none) [(Str.ofString "max_cost", Value.int c tc), (Str.ofString "b", Value.str b1 tb1), (Str.ofString "a", Value.str a1 ta1), (Str.ofString "pre", Value.int (p : Nat) t2), (Str.ofString "post", Value.int (-((q : Nat) : Int)) t)]) → News g1 L1 h news → J ⟨h, s.gens, s.drawn, tk, s.os⟩) (fun J hJ => ?_) ?_
        · dsimp only [List.take, List.drop]
          refine wpAny_execs_cons (my_whileQ (LevI2 s g1 L1 c tc a1 b1 ta1 tb1 p t2 news) (a1.length + 1) (.mk 0 h3 tk3 t3 (Nat.zero_add _) F3 N3 (Nat.zero_le _) (Nat.zero_le _) rfl) ?_)
          clear F3 N3
          intro n s' hI K hK1 hK2 hK3 hK4
          obtain ⟨j, h, tk, t, hk, F, N, hka, hkb, hl⟩ := hI
          clear hK2 hK4
          rcases Nat.eq_zero_or_pos j with hj | hj
          · have F' : Fr g1 L1 h (ov (fun _ => none) [(Str.ofString "max_cost", Value.int c tc), (Str.ofString "b", Value.str b1 tb1), (Str.ofString "a", Value.str a1 ta1), (Str.ofString "pre", Value.int (p : Nat) t2), (Str.ofString "post", Value.int 0 t)]) := by
              rw [hj] at F; exact F
            clear F
            have ga : (Txt.slice a1 none none).length = a1.length := by rw [sl_all]
            have gb : (Txt.slice b1 none none).length = b1.length := by rw [sl_all]
            have ei : (0 : Int) - 1 = -(j : Int) - 1 := by rw [hj]; rfl
            tb_start
            all_goals first
              | (exfalso; omega)
              | (with_reducible rename Fr g1 L1 _ _ => FF
                 exact hK1 (n - 1) _ (.mk (j + 1) _ _ _ (by omega) (fr_ov FF (by rw [hj]; rfl)) (by assumption) (by omega) (by omega) (post_go ei (by omega) (by omega) (by assumption) hl)) (by omega))
              | (exact hK3 _ (wpAny_execs_nil (hJ _ _ _ _ (post_end ei (.inr (.inr ⟨by omega, by omega, by assumption⟩)) hl).symm (fr_fix0 hj (by assumption)) (by assumption))))
              | (exact hK3 _ (wpAny_execs_nil (hJ _ _ _ _ (post_end ei (.inl (by omega)) hl).symm (fr_fix0 hj (by assumption)) (by assumption))))
              | (exact hK3 _ (wpAny_execs_nil (hJ _ _ _ _ (post_end ei (.inr (.inl (by omega))) hl).symm (fr_fix0 hj (by assumption)) (by assumption))))
          · have ga := sl_toneg_len' hj hka
            have gb := sl_toneg_len' hj hkb
            tb_start
            all_goals first
              | (exfalso; omega)
              | (with_reducible rename Fr g1 L1 _ _ => FF
                 exact hK1 (n - 1) _ (.mk (j + 1) _ _ _ (by omega) (fr_ovI FF (by omega : (-(j : Int) - 1) = -((j + 1 : Nat) : Int))) (by assumption) (by omega) (by omega) (post_go rfl (by omega) (by omega) (by assumption) hl)) (by omega))
              | (exact hK3 _ (wpAny_execs_nil (hJ _ _ _ _ (post_end rfl (.inr (.inr ⟨by omega, by omega, by assumption⟩)) hl).symm (by assumption) (by assumption))))
              | (exact hK3 _ (wpAny_execs_nil (hJ _ _ _ _ (post_end rfl (.inl (by omega)) hl).symm (by assumption) (by assumption))))
              | (exact hK3 _ (wpAny_execs_nil (hJ _ _ _ _ (post_end rfl (.inr (.inl (by omega))) hl).symm (by assumption) (by assumption))))
        · clear F3 N3
          intro h4 tk4 t4 q hq F4 N4
          have hqa := (lcp_le a1.cps.toList.reverse b1.cps.toList.reverse).1
          have hqb := (lcp_le a1.cps.toList.reverse b1.cps.toList.reverse).2
          rw [List.length_reverse, ← len_cl, hq] at hqa hqb
          have hlev : levF a b c = levT ((cl a1).take (a1.length - q)) ((cl b1).take (b1.length - q)) c := by
            have hne : ¬ (cl a = cl b) := fun e => by rw [str_ext e] at hab; simp at hab
            unfold levF levL
            rw [if_neg hne]
            simp only [hp, ← ca, ← cb]
            rw [← hq, len_cl a1, len_cl b1]
          refine execs_cutC 2 (fun J => ∀ h tk a2 b2 ta2 tb2, Fr g1 L1 h (ov (fun _ => none) [(Str.ofString "max_cost", Value.int c tc), (Str.ofString "b", Value.str b2 tb2), (Str.ofString "a", Value.str a2 ta2), (Str.ofString "pre", Value.int (p : Nat) t2), (Str.ofString "post", Value.int (-((q : Nat) : Int)) t4)]) →
          News g1 L1 h news →
          cl a2 = (cl a1).take (a1.length - q) →
          cl b2 = (cl b1).take (b1.length - q) → J ⟨h, s.gens, s.drawn, tk, s.os⟩) (fun J hJ => ?_) ?_
          · dsimp only [List.take, List.drop]
            rcases Nat.eq_zero_or_pos q with rfl | hj
            · simp only [show (-((0 : Nat) : Int)) = 0 from rfl] at F4
              k_fold
              tb_start
              with_reducible rename Fr g1 L1 _ _ => FF
              exact hJ _ _ _ _ _ _ (fr_ov2 FF rfl) (by assumption) (sl_all_take a1) (sl_all_take b1)
            · k_fold
              tb_start
              all_goals first
                | (exfalso; omega)
                | (with_reducible rename Fr g1 L1 _ _ => FF
                   exact hJ _ _ _ _ _ _ (fr_ov2 FF rfl) (by assumption) (sl_toneg hj hqa) (sl_toneg hj hqb))
          · clear F4 N4
            intro h5 tk5 a2 b2 ta2 tb2 F5 N5 ca2 cb2
            rw [← ca2, ← cb2] at hlev
            have la2 : a2.length ≤ 30 := by
              have := len_cl a2
              have h2 := len_cl a1
              simp only [cl] at ca2
              rw [ca2, List.length_take] at this
              omega
            have lb2 : b2.length ≤ 30 := by
              have := len_cl b2
              have h2 := len_cl b1
              simp only [cl] at cb2
              rw [cb2, List.length_take] at this
              omega
            refine execs_cutC 4 (fun J => ∀ h tk a3 b3 ta3 tb3, Fr g1 L1 h (ov (fun _ => none) [(Str.ofString "max_cost", Value.int c tc), (Str.ofString "b", Value.str b3 tb3), (Str.ofString "a", Value.str a3 ta3), (Str.ofString "pre", Value.int (p : Nat) t2), (Str.ofString "post", Value.int (-((q : Nat) : Int)) t4)]) →
          News g1 L1 h news →
          levT (cl a2) (cl b2) c = outerL (cl a3) c (cl b3) 0 (row0 a3.length) 0 →
          0 < a3.length →
          a3.length ≤ 30 →
          b3.length ≤ 30 → J ⟨h, s.gens, s.drawn, tk, s.os⟩) (fun J hJ => ?_) ?_
            · dsimp only [List.take, List.drop]
              k_fold
              tb_start
              all_goals first
                | (rw [← levT_nil (a := a2) (b := b2) (c := c) (.inl (by assumption)), ← hlev]; exact hret _ _ _ (by assumption) (by assumption))
                | (rw [← levT_nil (a := a2) (b := b2) (c := c) (.inr (by assumption)), ← hlev]; exact hret _ _ _ (by assumption) (by assumption))
                | (rw [← levT_big1 (a := a2) (b := b2) (by assumption) (by assumption) (by assumption) (by assumption), ← hlev]; exact hret _ _ _ (by assumption) (kst_newsOf (by assumption) fun _ hp => List.mem_cons_of_mem _ hp))
                | (rw [← levT_big2 (a := a2) (b := b2) (by assumption) (by assumption) (by assumption) (by assumption), ← hlev]; exact hret _ _ _ (by assumption) (by assumption))
                | (have hg := levT_go1 (a := a2) (b := b2) (by assumption) (by assumption) (by assumption) (by assumption)
                   with_reducible rename Fr g1 L1 _ _ => FF
                   exact hJ _ _ _ _ _ _ (fr_ov2 FF rfl) (kst_newsOf (by assumption) fun _ hp => List.mem_cons_of_mem _ hp) hg (by omega) (by omega) (by omega))
                | (have hg := levT_go2 (a := a2) (b := b2) (by assumption) (by assumption) (by assumption) (by assumption)
                   exact hJ _ _ _ _ _ _ (by assumption) (by assumption) hg (by omega) (by omega) (by omega))
            · clear F5 N5
              intro h6 tk6 a3 b3 ta3 tb3 F6 N6 hgo h03 la3 lb3
              rw [hgo] at hlev
              clear hgo ca2 cb2 la2 lb2 ca cb la1 lb1 hp hq hqa hqb hpa hpb hab
              refine execs_cutC 2 (fun J => ∀ h tk R ys nn t, Fr g1 L1 h (ov (fun _ => none) [(Str.ofString "max_cost", Value.int c tc), (Str.ofString "b", Value.str b3 tb3), (Str.ofString "a", Value.str a3 ta3), (Str.ofString "pre", Value.int (p : Nat) t2), (Str.ofString "post", Value.int (-((q : Nat) : Int)) t4), (Str.ofString "row", Value.ref R), (Str.ofString "result", Value.int 0 t)]) →
          News g1 L1 h ((R, listOf ys.toArray nn) :: news) →
          (∀ p ∈ news, p.1 < R) →
          IntsAre ys (row0 a3.length) → J ⟨h, s.gens, s.drawn, tk, s.os⟩) (fun J hJ => ?_) ?_
              · dsimp only [List.take, List.drop]
                k_fold
                tb_start
                have hRlt := fun (p : Addr × Obj) (hp : p ∈ news) => Heap.lt_size ((show News g1 L1 _ news from by assumption) p hp).1
                refine' list_rangeD (n := a3.length) rfl (by assumption) (by assumption) (by assumption) ?small ?size ?len ?_
                (case small => exact range2_small _ (by omega))
                (case size => exact range2_size _ (by omega))
                (case len => omega)
                intro h7 tk7 ys F7 N7 hk7 hn7 hl7 P7 hc7
                obtain ⟨nn, N8, -⟩ := gn_enter P7 F7 N7 hn7
                have hI : IntsAre ys (row0 a3.length) := by
                  rw [← row0_eq]
                  have := CarriedAll.intsOf (f := fun a : Int => a) hc7
                  simpa using this
                tb_start
                with_reducible rename Fr g1 L1 _ _ => FF
                exact hJ _ _ _ _ _ _ (fr_ov2 FF rfl) (by assumption) hRlt hI
              · clear F6 N6
                intro h7 tk7 R ys nn t7 F7 N7 hRlt hI
                have hMk := kstMark
                dsimp only [List.take, List.drop]
                refine wpAny_execs_cons ?_
                refine For_invVF F7 rfl rfl ?_
                ktr_unf
                generalize hV : outerL (cl a3) c (cl b3) 0 (row0 a3.length) 0 = V at hlev
                refine' kst_range (σ := List Value × List Int × Nat × Int × Tok) (n := b3.length) (fun x => (R, listOf x.1.toArray x.2.2.1) :: news) (fun x => [(Str.ofString "result", Value.int x.2.2.2.1 x.2.2.2.2)]) (fun x => IntsAre x.1 x.2.1)
                  [Str.ofString "bchar", Str.ofString "distance", Str.ofString "minimum", Str.ofString "index", Str.ofString "substitute", Str.ofString "insert_delete"]
                  (fun pre x => OutP (cl a3) (cl b3) c V pre.length x.2.1 x.2.2.2.1) (ys, row0 a3.length, nn, 0, t7) rfl (by assumption) ?small ?size (by assumption) (by assumption) hI ?hk ?hp ?turn ?done
                (case small => exact small_one (by omega) (by omega) (by omega) (by omega))
                (case size => rw [rangeSize_nat]; omega)
                (case hk => intro p hp; simp only [List.mem_singleton] at hp; subst hp; rfl)
                (case hp => exact ⟨(row0_len _).trans (len_cl a3), Nat.zero_le _, hV⟩)
                case done =>
                  refine all5 fun vs ns n1 res t8 => ?_
                  intro u h8 tk8 hf hp F8 N8
                  replace hp := hp.2.2
                  rw [rangeKs_length, len_cl b3, List.drop_length] at hp
                  have hp2 : res = V := hp
                  dsimp only
                  tb_start
                  rw [hp2, ← hlev]
                  exact hret _ _ _ (by assumption) (kst_newsOf (by assumption) fun _ hp => List.mem_cons_of_mem _ hp)
                case turn =>
                  refine all5 fun vs ns n1 res t8 => ?_
                  intro pre k tk9 u h8 tk8 own hk hlt hoff hf hp F8 N8
                  dsimp only at hf hp F8 N8 hoff ⊢
                  obtain rfl : k = (pre.length : Int) := by omega
                  ktr_unf
                  refine For_invVF (by assumption) rfl rfl ?_
                  ktr_unf
                  have hln := hp.1
                  refine' kst_range (σ := List Value × List Int × Nat × Int × Tok × Int × Tok × Int × Tok) (n := a3.length) (fun x => (R, listOf x.1.toArray x.2.2.1) :: (news ++ own))
                    (fun x => [(Str.ofString "distance", Value.int x.2.2.2.1 x.2.2.2.2.1), (Str.ofString "result", Value.int x.2.2.2.2.2.1 x.2.2.2.2.2.2.1), (Str.ofString "minimum", Value.int x.2.2.2.2.2.2.2.1 x.2.2.2.2.2.2.2.2)]) (fun x => IntsAre x.1 x.2.1)
                    [Str.ofString "substitute", Str.ofString "insert_delete"]
                    (fun pre' x => InP ((cl b3).getD pre.length 0) (cl a3) (innerL ((cl b3).getD pre.length 0) (cl a3) ns ((pre.length : Int) * 2) ((pre.length : Int) * 2) 9223372036854775807) pre'.length x.2.1 x.2.2.2.1 x.2.2.2.2.2.1 x.2.2.2.2.2.2.2.1) (vs, ns, n1, (pre.length : Int) * 2, _, (pre.length : Int) * 2, _, 9223372036854775807, _) rfl (by assumption) ?small ?size (by assumption) (by assumption) hf ?hk ?hp ?turn ?done
                  (case hk =>
                    intro p hp
                    simp only [List.mem_cons, List.not_mem_nil, or_false] at hp
                    rcases hp with rfl | rfl | rfl
                    · rfl
                    · rfl
                    · rfl)
                  (case small => exact small_one (by omega) (by omega) (by omega) (by omega))
                  (case size => rw [rangeSize_nat]; omega)
                  (case hp => exact InP_start hln)
                  case done =>
                    refine all9 fun vs2 ns2 n2 d2 td2 r2 tr2 m2 tm2 => ?_
                    intro u2 h9 tk9 hf2 hp2 F9 N9
                    rw [rangeKs_length, len_cl a3] at hp2
                    have hT := InP_end hp2
                    have hO := OutP_step hp (by rw [← len_cl]; exact hlt) hT.symm
                    have hl2 := hp2.1
                    dsimp only at hf2 hO hl2 F9 N9 ⊢
                    tb_start
                    · rw [← hO.1 (by assumption), ← hlev]
                      exact hret _ _ _ (by assumption) (kst_newsOf (by assumption) fun _ hp => List.mem_cons_of_mem _ (List.mem_append_left _ hp))
                    · refine' kst_end (vs2, ns2, n2, r2, tr2) F9 N9 ?hn ?ho ?ha ?hf ?hk ?hr ?hp
                      (case hf => exact hf2)
                      (case hk =>
                        intro p hp
                        simp only [List.mem_cons, List.not_mem_nil, or_false] at hp
                        rcases hp with rfl
                        rfl)
                      (case hn => exact List.forall_mem_cons.mpr ⟨List.mem_cons_self .., fun p hp => List.mem_cons_of_mem _ (List.mem_append_left _ hp)⟩)
                      (case ho => exact fun p hp => List.mem_cons_of_mem _ (List.mem_append_right _ hp))
                      (case ha => rfl)
                      (case hr =>
                        intro z h1 h2 h3
                        simp only [List.forall_mem_cons, List.not_mem_nil, false_implies, implies_true, and_true, ne_eq] at h2
                        simp only [List.contains_cons, List.contains_nil, Bool.or_false, Bool.or_eq_false_iff, beq_eq_false_iff_ne, ne_eq] at h3
                        simp [kstB, h1, h2, h3])
                      (case hp =>
                        rw [show (pre ++ [(pre.length : Int)]).length = pre.length + 1 by simp]
                        exact hO.2 (by assumption) hl2)
                  case turn =>
                    refine all9 fun vs2 ns2 n2 d2 td2 r2 tr2 m2 tm2 => ?_
                    intro pre2 k2 tk9 u2 h9 tk2 own2 hk2 hlt2 hoff2 hf2 hp2 F9 N9
                    dsimp only at hf2 hp2 F9 hoff2 ⊢
                    obtain rfl : k2 = (pre2.length : Int) := by omega
                    have hl2 : ns2.length = a3.length := hp2.1.trans (len_cl a3).symm
                    have hl3 : vs2.length = a3.length := (IntsAre.length hf2).trans hl2
                    have hne : ∀ p ∈ (news ++ own) ++ own2, p.1 ≠ R := by
                      intro p hp
                      rcases List.mem_append.mp hp with hp | hp
                      · rcases List.mem_append.mp hp with hp | hp
                        · exact Nat.ne_of_lt (hRlt p hp)
                        · exact hoff p hp R (List.mem_cons_self ..)
                      · exact hoff2 p hp R (List.mem_cons_self ..)
                    replace N9 : News g1 L1 h9 ((R, listOf vs2.toArray n2) :: ((news ++ own) ++ own2)) := N9
                    have eb := it_pos (x := b3) hlt
                    have ea := it_pos (x := a3) hlt2
                    have hl4 : pre2.length < (cl a3).length := by rw [← len_cl]; exact hlt2
                    have el : (pre2 ++ [(pre2.length : Int)]).length = pre2.length + 1 := by simp
                    tb_start
                    all_goals (
                      rename _ = min r2 _ => hx1
                      rename _ = min (_ + 2) _ => hx2
                      rename IntsAre (List.set _ _ _) _ => hf3
                      rename Fr _ _ _ _ => FF
                      rename News _ _ _ _ => NN
                      refine' kst_end (_, _, n2, _, _, _, _, _, _) FF NN ?hn ?ho ?ha ?hf ?hk ?hr ?hp
                      (case hf => exact hf3)
                      (case hk =>
                        intro p hp
                        simp only [List.mem_cons, List.not_mem_nil, or_false] at hp
                        rcases hp with rfl | rfl | rfl
                        · rfl
                        · rfl
                        · rfl)
                      (case hn => exact List.forall_mem_cons.mpr ⟨List.mem_cons_self .., fun p hp => List.mem_cons_of_mem _ (List.mem_append_left _ hp)⟩)
                      (case ho => exact fun p hp => List.mem_cons_of_mem _ (List.mem_append_right _ hp))
                      (case ha => rfl)
                      (case hr =>
                        intro z h1 h2 h3
                        simp only [List.forall_mem_cons, List.not_mem_nil, false_implies, implies_true, and_true, ne_eq] at h2
                        simp only [List.contains_cons, List.contains_nil, Bool.or_false, Bool.or_eq_false_iff, beq_eq_false_iff_ne, ne_eq] at h3
                        simp [kstB, h1, h2, h3])
                      (case hp =>
                        rw [el]
                        rw [eb, ea, hx1] at hx2
                        first
                          | exact InP_step hp2 hl4 rfl hx2 (if_pos (by assumption)).symm
                          | exact InP_step hp2 hl4 rfl hx2 (if_neg (by assumption)).symm))


-- PART Gen
theorem lnGen : True := by
  k_with_none
  trivial
/-! NOLINES a generator's own for, its if; the walk of a generator function -/
section
variable {M : Model} {A : Around} {R : GenEnd} {Y : Protocol} {n : Nat} {s₀ : Shared} {c : Code} {fs : List Frame} {s : Shared} {env : Env}
  {K : Flow → Sem Fin} {H : Value → Sem Fin} {gd : Bool → Bool} {lv : List Value → List Value}
theorem seg_stmt {st : Stmt} {rest : List Stmt} (h : wpAny M (A.over c fs) (exec st env) (fun f s' => Hold (f = .next ∧ Seg M A R Y n s₀ c ((execs rest env).wrap K H gd lv) fs s')) (fun _ _ => False) s) :
    Seg M A R Y n s₀ c ((execs (st :: rest) env).wrap K H gd lv) fs s :=
  seg_execs_cons (seg_wrap (wpAny_mono h (fun f s' x => by obtain ⟨rfl, x⟩ := x; exact x) fun _ _ e => e.elim))
theorem seg_if {test : Expr} {body orelse : List Stmt} {pos : Pos} (h : wpAny M (A.over c fs) (isTrue test env (eval test env)) (fun b s' =>
      Hold ((b = true → Seg M A R Y n s₀ c ((execs body env).wrap K H gd lv) fs s') ∧ (b = false → Seg M A R Y n s₀ c ((execs orelse env).wrap K H gd lv) fs s'))) (fun _ _ => False) s) :
    Seg M A R Y n s₀ c ((exec (.If test body orelse pos) env).wrap K H gd lv) fs s := by
  rw [exec_If]
  refine seg_bind_wrap (wpAny_standAt ?_)
  refine seg_bind_wrap (wpAny_mono h (fun b s' x => ?_) fun _ _ e => e.elim)
  cases b with
  | true => exact x.1 rfl
  | false => exact x.2 rfl
theorem seg_for {target iter : Expr} {body orelse : List Stmt} {pos : Pos} (h : wpAny M (A.over c fs) (eval iter env) (fun xv s₁ => wpAny M (A.over c fs) (pyIter xv) (fun it s₂ => ∀ p,
      Seg M A R Y n s₀ (.forLoop target it body orelse env) (M.den (.forLoop target it body orelse env))
      (.ret (fun r => ((match r with | .ok f => (.pure f : Sem Flow) | .error e => .raise e).onRaise fun (x : Value) => do
        if (← field x 1) == Value.none then unsupported "frame.own-activation:exception-without-traceback"
        setFlight x env.frame).wrap K H gd lv) none (gd false) (lv []) c p [] :: fs) s₂) (fun _ _ => False) s₁) (fun _ _ => False) s)
    (hs : ∀ x, foldedSetIterable iter env x = pure x := by intro _; rfl) :
    Seg M A R Y n s₀ c ((exec (.For target iter body orelse pos) env).wrap K H gd lv) fs s := by
  rw [exec_For]
  refine seg_bind_wrap (wpAny_standAt ?_)
  refine seg_bind_wrap (wpAny_mono h (fun xv s₁ h₁ => ?_) fun _ _ e => e.elim)
  rw [hs xv]
  refine seg_bind_wrap (wpAny_pure ?_)
  refine seg_bind_wrap (wpAny_standAt ?_)
  refine seg_bind_wrap (wpAny_holding (wpAny_mono h₁ (fun it s₂ h₂ => ?_) fun _ _ e => e.elim))
  exact seg_call h₂
end
section
variable {prog : Program} {w : World} {A : Around} {R : GenEnd} {Y : Protocol} {n : Nat} {s₀ : Shared} {fs : List Frame} {s : Shared} {env : Env}
theorem seg_forLoop {target : Expr} {it : Value} {body : List Stmt}
    (h : wpAny (model prog w) (A.over (.forLoop target it body [] env) fs) (pyNext it) (fun r s₁ => match r with
      | none => Hold (Seg (model prog w) A R Y n s₀ (.block [] env) ((model prog w).den (.block [] env)) fs s₁)
      | some v => wpAny (model prog w) (A.over (.forLoop target it body [] env) fs) (letOwnedTupleGo target it v) (fun _ s₂ =>
          wpAny (model prog w) (A.over (.forLoop target it body [] env) fs) (assign target env v) (fun _ s₃ => Hold (Seg (model prog w) A R Y n s₀ (.forLoop target it body [] env)
            ((execs body env).wrap (fun f => match f with
              | .next | .cont => .pure (.again (.forLoop target it body [] env))
              | .brk => .pure (.done .next)
              | .ret v => .pure (.done (.ret v))) (fun e => (do noteFrame e env; theTreesLotGoes e : Sem Unit).wrap (fun _ => .raise e) .raise id id) id id) fs s₃)) (fun _ _ => False) s₂) (fun _ _ => False) s₁) (fun _ _ => False) s) :
    Seg (model prog w) A R Y n s₀ (.forLoop target it body [] env) ((model prog w).den (.forLoop target it body [] env)) fs s := by
  show Seg _ A R Y n s₀ _ ((forTurn target it body [] env).onRaise (fun x => do noteFrame x env; theTreesLotGoes x)) fs s
  unfold forTurn
  rw [Sem.onRaise_eq_wrap]
  refine seg_bind_wrap (wpAny_standAt ?_)
  refine seg_bind_wrap (wpAny_onRaise (wpAny_mono h (fun r s₁ h₁ => ?_) fun _ _ e => e.elim))
  cases r with
  | none => exact seg_again rfl h₁
  | some v =>
    refine seg_bind_wrap (wpAny_mono h₁ (fun _ s₂ h₂ => ?_) fun _ _ e => e.elim)
    refine seg_bind_wrap (wpAny_mono h₂ (fun _ s₃ h₃ => ?_) fun _ _ e => e.elim)
    rw [Sem.bind_eq_wrap', Sem.wrap_wrap]
    rw [Sem.wrap_congr (execs body env) _ _ (K' := fun f => match f with
            | .next | .cont => .pure (.again (.forLoop target it body [] env))
            | .brk => .pure (.done .next)
            | .ret v => .pure (.done (.ret v))) (H' := (fun e => (do noteFrame e env; theTreesLotGoes e : Sem Unit).wrap (fun _ => .raise e) .raise id id))
        (fun f => by cases f <;> rfl)
        (fun e => by first | exact Sem.bind_eq_wrap _ _ | (show (do noteFrame e env; theTreesLotGoes e : Sem Unit).bind (fun _ => .raise e) = _; rw [Sem.bind_eq_wrap]))]
    exact h₃
theorem seg_block_nil {k : Result → Sem Fin} {hd : Option Value} {g : Bool} {l : List Value} {c₁ : Code} {p₁ : Pos} {kp} (h : Seg (model prog w) A R Y n s₀ c₁ (k (.ok .next)) fs s) :
    Seg (model prog w) A R Y n s₀ (.block [] env) ((model prog w).den (.block [] env)) (.ret k hd g l c₁ p₁ kp :: fs) s :=
  seg_leaf (.ok .next) h
end


-- PART GenP
theorem lnGenP : True := by
  k_with_none
  trivial
/-! NOLINES what the generator hands out, and how a for takes it -/
theorem gn_1 {n j : Nat} (h : j < n) : ∃ m, n - j = m + 1 := ⟨n - j - 1, by omega⟩
theorem gn_2 {n j m : Nat} (hm : n - j = m + 1) (h : j < n) : n - 1 - (m + 1 - 1) = j := by omega
theorem gn_3 {n j m : Nat} (hm : n - j = m + 1) : n - (j + 1) = m := by omega
noncomputable def escs : Nat → Bool → List Nat → List (Nat × List Nat)
  | _, _, [] => []
  | i, true, c :: r => (i, [92, c]) :: escs (i + 1) false r
  | i, false, c :: r => if c = 92 then escs (i + 1) true r else (i, [c]) :: escs (i + 1) false r
noncomputable def escEnd : Bool → List Nat → Bool
  | b, [] => b
  | true, _ :: r => escEnd false r
  | false, c :: r => escEnd (c == 92) r
noncomputable abbrev tupOf (p : Nat) (tk : Tok) (c : List Nat) (tu : Tok) : Obj := { cls := .type "tuple", data := .seq #[.int (p : Int) tk, .str ⟨c.toArray⟩ tu] }
noncomputable def NSq (h : Heap) (b : Addr) : Prop := ∃ o, h.get? b = some o ∧ ∀ x y, o.data ≠ .seq x y
theorem NSq.at {h h' : Heap} {b : Addr} (x : NSq h b) (hk : ∀ o, h.get? b = some o → h'.get? b = some o) : NSq h' b := let ⟨o, e, r⟩ := x; ⟨o, hk o e, r⟩
theorem NSq.of_ns {h : Heap} {b : Addr} {m : Str → Option Value} (x : h.Ns b m) : NSq h b := let ⟨o, es, ep, e, hd, _⟩ := x; ⟨o, e, fun x y q => nomatch hd.symm.trans q⟩
theorem NSq.of_fields {h : Heap} {b : Addr} {o : Obj} {vs : Array Value} (e : h.get? b = some o) (hd : o.data = .fields vs) : NSq h b := ⟨o, e, fun x y q => nomatch hd.symm.trans q⟩
noncomputable def GSince (C a : Addr) (s₀ s : Shared) : Prop := ∃ h' tk, s = { s₀ with heap := h', toks := tk } ∧ ∀ b o, b ≠ C → b ≠ a + 1 → b ≠ a + 2 → s₀.heap.get? b = some o → h'.get? b = some o
theorem GSince.refl (C a : Addr) (s : Shared) : GSince C a s s := ⟨s.heap, s.toks, rfl, fun _ _ _ _ _ e => e⟩
theorem GSince.step {C a : Addr} {s₀ s : Shared} (x : GSince C a s₀ s) {h' : Heap} {tk : Nat} (hk : ∀ b o, b ≠ C → b ≠ a + 1 → b ≠ a + 2 → s.heap.get? b = some o → h'.get? b = some o) : GSince C a s₀ { s with heap := h', toks := tk } := by
  obtain ⟨h₁, tk₁, rfl, hk₁⟩ := x
  exact ⟨h', tk, rfl, fun b o h1 h2 h3 e => hk b o h1 h2 h3 (hk₁ b o h1 h2 h3 e)⟩
noncomputable def gR (C a : Addr) : GenEnd := fun n s₀ r s₁ => r = .ok (.ret .none) ∧ (n = 0 ∧ GSince C a s₀ s₁)
noncomputable def gProto (C a : Addr) (its : List (Nat × List Nat)) : Protocol := fun m s₀ v s kap =>
  (∃ T p tk c tu, its[its.length - 1 - m]? = some (p, c) ∧ v = .ref T ∧ s.heap.get? T = some (tupOf p tk c tu)) ∧ GSince C a s₀ s ∧
    (NSq s.heap C ∧ NSq s.heap (a + 1) ∧ NSq s.heap (a + 2)) ∧
    ∀ s'' : Shared, (∀ b ∈ [C, a + 1, a + 2], ∀ o, s.heap.get? b = some o → s''.heap.get? b = some o) → kap (.send .none) s''
noncomputable def GAt (prog : Program) (w : World) (A : Around) (hB : Heap) (a : Addr) (G0 : Array GenState) (C : Addr) (its : List (Nat × List Nat)) (j : Nat) (s : Shared) : Prop :=
  s.heap.IsGen a G0.size ∧ s.heap.NoLimit ∧ NSq s.heap C ∧ (j ≠ 0 → NSq s.heap (a + 1) ∧ NSq s.heap (a + 2)) ∧ (j = 0 → s.heap.objs.size = a + 1 ∧ ∀ b o, hB.get? b = some o → s.heap.get? b = some o) ∧
    ∃ gs, s.gens = G0.push gs ∧ ∀ s'' : Shared, (∀ b ∈ [C, a + 1, a + 2], ∀ o, s.heap.get? b = some o → s''.heap.get? b = some o) → (j = 0 → s''.heap.objs.size = a + 1 ∧ ∀ b o, hB.get? b = some o → s''.heap.get? b = some o) →
      gs.Goes (model prog w) A.in1 (gR C a) (gProto C a its) (its.length - j) (.send .none) s''
theorem set_push (G0 : Array GenState) (x y : GenState) : (G0.push x).setIfInBounds G0.size y = G0.push y := by
  apply Array.toList_inj.mp; simp
section
variable {prog : Program} {w : World} {A : Around} {hB : Heap} {E : Value → Shared → Prop} {s : Shared} {a C : Addr} {G0 : Array GenState} {its : List (Nat × List Nat)} {j : Nat}
theorem noLimit_at {h h' : Heap} (hl : h.NoLimit) (hk : ∀ o, h.get? cStatics = some o → h'.get? cStatics = some o) : h'.NoLimit := let ⟨mc, hns, hnn⟩ := hl; ⟨mc, hns.at' fun o e => hk o e, hnn⟩
theorem isGen_at {h h' : Heap} {g : Nat} (x : h.IsGen a g) (hk : ∀ o, h.get? a = some o → h'.get? a = some o) : h'.IsGen a g := let ⟨o, nm, qn, ho, r⟩ := x; ⟨o, nm, qn, hk o ho, r⟩
/-- the consumer's turns leave the generator as it stands -/
theorem GAt.frame {h' : Heap} {tk : Nat} (hj : j ≠ 0) (G : GAt prog w A hB a G0 C its j s) (hk : ∀ b ∈ [cStatics, a, C, a + 1, a + 2], ∀ o, s.heap.get? b = some o → h'.get? b = some o) : GAt prog w A hB a G0 C its j { s with heap := h', toks := tk } := by
  obtain ⟨h1, h2, h3, h4, h5, gs, h6, h7⟩ := G
  obtain ⟨h41, h42⟩ := h4 hj
  refine ⟨isGen_at h1 (hk a (by simp)), noLimit_at h2 (hk cStatics (by simp)), h3.at (hk C (by simp)), fun _ => ⟨h41.at (hk _ (by simp)), h42.at (hk _ (by simp))⟩, fun e => absurd e hj, gs, h6, fun s'' hal h0 => h7 s'' (fun b hb o e => hal b hb o (hk b ?_ o e)) h0⟩
  simp only [List.mem_cons, List.not_mem_nil, or_false] at hb ⊢
  exact .inr (.inr hb)
theorem GAt.next {Q : Option Value → Shared → Prop} (hh : A.handled = none) (hroom : A.depth < recursionLimit) (hC : cStatics < C) (hCa : C < a) (G : GAt prog w A hB a G0 C its j s) (hj : j < its.length)
    (hQ : ∀ T p tk c tu h' tk' gs', its[j]? = some (p, c) → h'.get? T = some (tupOf p tk c tu) → (∀ b o, b ≠ C → b ≠ a + 1 → b ≠ a + 2 → s.heap.get? b = some o → h'.get? b = some o) →
      GAt prog w A hB a G0 C its (j + 1) ⟨h', G0.push gs', s.drawn, tk', s.os⟩ → Q (some (.ref T)) ⟨h', G0.push gs', s.drawn, tk', s.os⟩) : wpAny (model prog w) A (pyNext (.ref a)) Q E s := by
  obtain ⟨h1, h2, h3, h4, h5, gs, h6, h7⟩ := G
  obtain ⟨m, hm⟩ := gn_1 hj
  rw [hm] at h7
  obtain ⟨hp0, gens, d, tk, os⟩ := s
  replace h6 : gens = G0.push gs := h6
  subst h6
  have hgs : (Shared.gens ⟨hp0, G0.push gs, d, tk, os⟩)[G0.size]? = some gs := by simp
  refine wpAny_pyNext_gen (P := fun n s₀ s₁ => n = 0 ∧ GSince C a s₀ s₁) hh h2 hroom h1 hgs (h7 _ (fun _ _ _ e => e) h5) (fun v s₁ gs' hv => ?_) (fun s₁ hp h' hk => ?_)
  · obtain ⟨⟨T, p, tk1, c, tu, hit, rfl, hT⟩, ⟨h₁, tk₁, rfl, hk₁⟩, ⟨e1, e2, e3⟩, hkap⟩ := hv
    have hidx : its.length - 1 - (m + 1 - 1) = j := gn_2 hm hj
    rw [hidx] at hit
    have hset : (Shared.setGen { (Shared.setGen ⟨hp0, G0.push gs, d, tk, os⟩ G0.size .running) with heap := h₁, toks := tk₁ } G0.size gs') = ⟨h₁, G0.push gs', d, tk₁, os⟩ := by
      simp only [Shared.setGen]
      rw [set_push, set_push]
    rw [hset]
    refine hQ T p tk1 c tu h₁ tk₁ gs' hit hT hk₁ ⟨isGen_at h1 fun o e => hk₁ a o (Nat.ne_of_gt hCa) (Nat.ne_of_lt (Nat.lt_succ_self _)) (Nat.ne_of_lt (Nat.lt_add_of_pos_right (by decide))) e, noLimit_at h2 fun o e => hk₁ cStatics o (Nat.ne_of_lt hC) (Nat.ne_of_lt (Nat.lt_succ_of_lt (Nat.lt_trans hC hCa))) (Nat.ne_of_lt (Nat.lt_succ_of_lt (Nat.lt_succ_of_lt (Nat.lt_trans hC hCa)))) e, e1, fun _ => ⟨e2, e3⟩, fun e => absurd e (Nat.succ_ne_zero _), gs', rfl, fun s'' hal _ => ?_⟩
    have e : its.length - (j + 1) = m := gn_3 hm
    rw [e]
    exact hkap s'' hal
  · exact absurd hp.1 (Nat.succ_ne_zero m)
theorem GAt.last {Q : Option Value → Shared → Prop} (hh : A.handled = none) (hroom : A.depth < recursionLimit) (G : GAt prog w A hB a G0 C its its.length s)
    (hQ : ∀ h' tk', (∀ b o, b ≠ C → b ≠ a + 1 → b ≠ a + 2 → s.heap.get? b = some o → h'.get? b = some o) → Q none ⟨h', G0.push .finished, s.drawn, tk', s.os⟩) : wpAny (model prog w) A (pyNext (.ref a)) Q E s := by
  obtain ⟨h1, h2, h3, h4, h5, gs, h6, h7⟩ := G
  rw [Nat.sub_self] at h7
  obtain ⟨hp0, gens, d, tk, os⟩ := s
  replace h6 : gens = G0.push gs := h6
  subst h6
  have hgs : (Shared.gens ⟨hp0, G0.push gs, d, tk, os⟩)[G0.size]? = some gs := by simp
  refine wpAny_pyNext_gen (P := fun n s₀ s₁ => n = 0 ∧ GSince C a s₀ s₁) hh h2 hroom h1 hgs (h7 _ (fun _ _ _ e => e) h5) (fun v s₁ gs' hv => ?_) (fun s₁ hp h' hk => ?_)
  · obtain ⟨_, _, _, hkap⟩ := hv
    exact False.elim (hkap s₁ fun _ _ _ e => e)
  · obtain ⟨_, h₁, tk₁, rfl, hk₁⟩ := hp
    have hset : ({ (Shared.setGen { (Shared.setGen ⟨hp0, G0.push gs, d, tk, os⟩ G0.size .running) with heap := h₁, toks := tk₁ } G0.size .finished) with heap := h' } : Shared) = ⟨h', G0.push .finished, d, tk₁, os⟩ := by
      simp only [Shared.setGen]
      rw [set_push, set_push]
    rw [hset]
    exact hQ h' tk₁ fun b o e1 e2 e3 e => hk b o (hk₁ b o e1 e2 e3 e)
end
noncomputable def emptyLike (h : Heap) : Heap := { h with objs := #[] }
theorem gen_call {prog : Program} {w : World} {A : Around} {s : Shared} {R : Result → Shared → Prop} {K : Frag} {name qual : Str} {params : Arguments} {body : List Stmt} {scope : Scope} {dV kV doc pm cdv ct oc : Value} {an od : Option Addr} {osl : Array (Option Value)} {f : Addr} {args : Args} {binds : List (Str × Value)}
    (X : K.In s.heap) (hlim : s.heap.NoLimit) (hroom : A.depth < recursionLimit) (ho : K.lookup f = some ⟨oc, od, .func (fnOf name qual params body scope dV kV doc pm an cdv ct), osl⟩) (hcd : codeIn K cdv qual = true)
    (hbind : BindsTo s (fnOf name qual params body scope dV kV doc pm an cdv ct) args binds) (hloc : ∀ y ∈ binds, scope.names.lookup y.1 = some .local) (hcell : ∀ x ∈ scope.names, x.2 ≠ .cell)
    (hco : scope.isCoroutine = false) (hgen : scope.isGenerator = true) (hk : scope.kind = .function)
    (h : ∀ h₁ : Heap, h₁.Ns s.heap.objs.size (fun x => binds.reverse.lookup x) → h₁.NoLimit → h₁.objs.size = s.heap.objs.size + 1 → (∀ b o, s.heap.get? b = some o → h₁.get? b = some o) →
      R (.ok (.ret (.ref (s.heap.objs.size + 1)))) ⟨h₁.push { cls := .type "generator", data := .fields #[.int s.gens.size 0, .str name (s.toks + binds.length), .str qual (s.toks + binds.length + 1)] }, s.gens.push (.fresh (.func body (envOf qual scope s.heap.objs.size f cdv))), s.drawn, s.toks + binds.length + 1 + 1, s.os⟩) :
    codeAny (model prog w) A (.call (.ref f) args) R s := by
  refine codeAny_call_generator (fd := fnOf name qual params body scope dV kV doc pm an cdv ct) (body := body) hroom (X _ _ ho) rfl hco hgen rfl (codeRec_of X hcd) ?_
  refine hbind _ _ _ _ ?_
  refine wpAny_newFunctionEnv hcell hloc (fun h₁ hns hsb => ⟨hlim.fresh _ hsb, ?_⟩) hk
  have hz : h₁.objs.size = s.heap.objs.size + 1 := by rw [hsb.1, Heap.size_push]
  have h' := h h₁ hns (hlim.fresh _ hsb) hz (fun b o e => hsb.extBut b o (Nat.ne_of_lt (Heap.lt_size e)) (Heap.get?_push_of_some _ e))
  dsimp only
  rw [hz]
  exact h'

/-- every object of a heap but a few, as a ledger -/
noncomputable def allBut (h : Heap) (ex : List Addr) : List (Addr × Obj) := (List.range h.objs.size).filterMap fun b => if b ∈ ex then none else (h.get? b).map fun o => (b, o)
theorem mem_allBut {h : Heap} {ex : List Addr} {b : Addr} {o : Obj} (hb : b ∉ ex) (e : h.get? b = some o) : (b, o) ∈ allBut h ex := by
  unfold allBut
  refine List.mem_filterMap.mpr ⟨b, List.mem_range.mpr (Heap.lt_size e), ?_⟩
  rw [if_neg hb, e]; rfl
theorem of_allBut {h : Heap} {ex : List Addr} {p : Addr × Obj} (hp : p ∈ allBut h ex) : h.get? p.1 = some p.2 ∧ p.1 ∉ ex := by
  obtain ⟨b, _, e⟩ := List.mem_filterMap.mp hp
  by_cases hb : b ∈ ex
  · rw [if_pos hb] at e; cases e
  · rw [if_neg hb] at e
    cases ho : h.get? b with
    | none => rw [ho] at e; cases e
    | some o => rw [ho] at e; cases e; exact ⟨ho, hb⟩
noncomputable def noHeap : Heap := emptyLike default
theorem noHeap_get (b : Addr) : noHeap.get? b = none := by simp [noHeap, emptyLike, Heap.get?]
theorem fr_no {h : Heap} {L : Addr} {m : Str → Option Value} (hn : h.Ns L m) : Fr noHeap L h m :=
  ⟨hn, fun b o e => absurd ((noHeap_get b).symm.trans e) (by intro q; cases q), Nat.zero_le _⟩
theorem news_allBut {h : Heap} {L : Addr} {ex : List Addr} (hL : L ∈ ex) : News noHeap L h (allBut h ex) := fun p hp =>
  ⟨(of_allBut hp).1, fun e => (of_allBut hp).2 (e ▸ hL), noHeap_get _⟩

theorem drawsStr {prog : Program} {w : World} {A : Around} (hh : A.handled = none) (it : Addr) (x : Str) (t : Tok) :
    Draws prog w A it [it] x.cps.size (fun i v => ∃ c u, x.cps[i]? = some c ∧ v = .str ⟨#[c]⟩ u) (fun i h => h.IsStrIter it (strIterType x) x t i) := by
  unfold strIterType
  split
  · exact Draws.strAscii hh it x t
  · exact Draws.strWide hh it x t
theorem seg_ind {M : Model} {A : Around} {R : GenEnd} {Y : Protocol} {c : Code} {t : Sem Fin} {fs : List Frame} (P : List Nat → Nat → Bool → Shared → Shared → Prop)
    (step : ∀ l, (∀ l' i b s₀ s, l'.length < l.length → P l' i b s₀ s → Seg M A R Y (escs i b l').length s₀ c t fs s) → ∀ i b s₀ s, P l i b s₀ s → Seg M A R Y (escs i b l).length s₀ c t fs s) :
    ∀ l i b s₀ s, P l i b s₀ s → Seg M A R Y (escs i b l).length s₀ c t fs s := by
  have all : ∀ n (l : List Nat), l.length < n → ∀ i b s₀ s, P l i b s₀ s → Seg M A R Y (escs i b l).length s₀ c t fs s := by
    intro n
    induction n with
    | zero => intro l h; exact absurd h (Nat.not_lt_zero _)
    | succ n ihn => exact fun l h => step l fun l' i b s₀ s h' => ihn l' (Nat.lt_of_lt_of_le h' (Nat.le_of_lt_succ h)) i b s₀ s
  exact fun l => all _ l (Nat.lt_succ_self _)
noncomputable def GInv (x : Str) (tx : Tok) (C a : Addr) (its : List (Nat × List Nat)) (l : List Nat) (i : Nat) (b : Bool) (s₀ s : Shared) : Prop :=
  (cl x).drop i = l ∧ i ≤ (cl x).length ∧ escEnd b l = false ∧ (∃ old, IsEnum s.heap (a + 2) (a + 1) i old) ∧ s.heap.IsStrIter (a + 1) (strIterType x) x tx i ∧
    (∃ vp rest, s.heap.Ns C (ov (fun _ => none) ((Str.ofString "addr", Value.str x tx) :: (Str.ofString "pos", vp) :: (Str.ofString "escape", Value.bool b) :: rest)) ∧ (rest = [] ∨ ∃ vc, rest = [(Str.ofString "ch", vc)])) ∧
    GSince C a s₀ s ∧ ∃ done, its = done ++ escs i b l
theorem seg_yieldH {M : Model} {A : Around} {R : GenEnd} {Y : Protocol} {n : Nat} {s₀ : Shared} {c : Code} {fs : List Frame} {s : Shared} {env : Env} {K : Flow → Sem Fin} {H : Value → Sem Fin} {gd : Bool → Bool} {lv : List Value → List Value} {e : Expr} {ypos pos : Pos} (hfs : splitAtGen fs = none) (hgd : gd false = false) (hfg : fs.any Frame.guarded = false)
    (h : wpAny M (A.over c fs) (eval e env) (fun v s' => Hold (∀ kap : Resume → Shared → Prop,
        (∀ s'', Seg M A R Y n s'' c (K .next) fs s'' → kap (.send .none) s'') → Y n s₀ v s' kap))
      (fun _ _ => False) s) (hco : env.scope.isCoroutine = false := by rfl) (hi : interactive env = false := by rfl) :
    Seg M A R Y (n + 1) s₀ c ((exec (.Expr (.Yield (some e) ypos) pos) env).wrap K H gd lv) fs s :=
  seg_Expr_Yield hfs hgd hfg (wpAny_mono h (fun v s' x kap hk => x kap fun s'' y => hk _ s'' y) fun _ _ x => x.elim) hco hi
theorem one_eq (c : Nat) : ((⟨#[c]⟩ : Str) == Str.ofString "\\") = (c == 92) := by
  have e : Str.ofString "\\" = ⟨#[92]⟩ := by decide +kernel
  rw [e]
  by_cases h : c = 92
  · subst h; decide
  · rw [beq_eq_false_iff_ne.mpr h]
    refine beq_eq_false_iff_ne.mpr fun q => h ?_
    simpa using q


-- PART Iter
theorem lnIter : True := by
  k_with_none
  k_with "call builtin:str.lower" => ((k_here; (with_reducible show wpAny _ _ (call (Value.builtin "str.lower") [Value.str _ _]) _ _ _); (refine SCL.lower (by omega) ?_); intro _))
  k_with "subscriptTail Name Slice str ref" => (((with_reducible show wpAny _ _ (subscriptTail _ (Expr.Slice none (some (Expr.BoolOp _ _ _)) none _) _ _) _ _ _); (with_reducible rename Fr _ _ _ _ => F'); (with_reducible rename News _ _ _ _ => N'); (first | refine slice_strN_nn_len (s := ⟨_, _, _, _, _⟩) F' N' ?_ | refine slice_strN_ns_len (s := ⟨_, _, _, _, _⟩) F' N' ?_); intro _ _ _ _ _ _))
  k_with "tb_start" => (((try (show wpAny _ _ _ _ _ _)); (try k_fold); (repeat' ((fail_if_success (with_reducible show InvEndN _ _ _ _ _ _ _)); first | (k_unfold; (try dsimp only)) | (k_end; wrow_close) | walk1 | (dsimp only; walk1) | (dsimp only; k_unfold; (try dsimp only)) | (leave1; walk_say "STEP leave1"; try dsimp only) | fail "no step")); (all_goals (try dsimp only))))
  k_with "ktr_unf" => (repeat' ((fail_if_success (with_reducible show InvEndN _ _ _ _ _ _ _)); (fail_if_success (with_reducible show wpAny _ _ (exec (Stmt.While _ _ _ _) _) _ _ _)); (fail_if_success (with_reducible show wpAny _ _ (exec (Stmt.For _ _ _ _ _) _) _ _ _)); (fail_if_success (with_reducible show wpAny _ _ (pyIter _) _ _ _)); first | (k_unfold; (try dsimp only)) | (k_end; wrow_close) | walk1 | (dsimp only; walk1) | (dsimp only; k_unfold; (try dsimp only)) | (leave1; walk_say "STEP leave1"; try dsimp only) | fail "no step"))
  k_with "tb_nf" => (((repeat' ((fail_if_success (with_reducible show InvEndN _ _ _ _ _ _ _)); first | (k_unfold; (try dsimp only)) | (k_end; wrow_close) | walk1 | (dsimp only; walk1) | (dsimp only; k_unfold; (try dsimp only)) | (leave1; walk_say "STEP leave1"; try dsimp only) | fail "no step")); (all_goals (try dsimp only))))
  trivial
theorem lnIter_0 : True := by
  k_with "call type:enumerate" => (((with_reducible show wpAny _ _ (call (Value.type "enumerate") [Value.str _ _]) _ _ _); refine call_enumerate_str ?_; intro h9 he9 hi9 hz9 hk9))
  trivial
theorem iter_con (w : World) (loose : List Str) (mean : ExcName → Option Value) (mg mb : Str → Option Value) (x : Str) (tx : Tok) (hlx : x.length ≤ 1000) (hend : escEnd false (cl x) = false) (A : Around) (s : Shared) (Q E : Value → Shared → Prop) (hh : A.handled = none) (hroom : A.depth < recursionLimit)
    (h₀ : Heap) (L : Addr) (m : Str → Option Value) (F : Fr h₀ L s.heap m) (X : (KK w.params).In h₀) (T : Top QQ loose mean mg mb h₀)
    (hQ : ∀ h' tk' gs, (∀ b o, s.heap.get? b = some o → h'.get? b = some o) → h'.objs.size = s.heap.objs.size + 1 + 1 →
      GAt PySem.Challenge.rw_sh0066_01.row.prog w A h₀ (s.heap.objs.size + 1) s.gens s.heap.objs.size (escs 0 false (cl x)) 0 ⟨h', s.gens.push gs, s.drawn, tk', s.os⟩ → Q (.ref (s.heap.objs.size + 1)) ⟨h', s.gens.push gs, s.drawn, tk', s.os⟩) :
    wpAny (model PySem.Challenge.rw_sh0066_01.row.prog w) A (call (.ref 59) [.str x tx]) Q E s := by
  have hlim : s.heap.NoLimit := T.nolimit.keeps F.keep
  have Xs := X.keeps F.keep
  have hab : h₀.objs.size ≤ s.heap.objs.size := Nat.le_of_lt (Nat.lt_of_le_of_lt F.above F.ns.lt)
  have hkB := F.keep
  clear F
  revert hQ X
  k_fill
  intro X hQ
  refine wpAny_call ?_
  refine' gen_call Xs hlim hroom ?e59 ?hcd ?hb ?hl ?hc ?hco ?hgen ?hk ?_
  (case e59 => k_is)
  (case hcd => k_is)
  (case hb => exact BindsTo.of_eq rfl)
  (case hl => exact locs rfl)
  (case hc => decide)
  (case hco => exact rfl)
  (case hgen => exact rfl)
  (case hk => exact rfl)
  intro h₁ hns hlim1 hz hk1
  refine hQ _ _ _ (fun b o e => Heap.get?_push_of_some _ (hk1 b o e)) (by rw [Heap.size_push, hz]) ?_
  have hn2 := hns.push { cls := .type "generator", data := .fields #[.int s.gens.size 0, .str (Str.ofString "_iter_escaped_chars") (s.toks + 1), .str (Str.ofString "_iter_escaped_chars") (s.toks + 1 + 1)] }
  refine ⟨⟨_, _, _, by rw [← hz]; exact Heap.get?_push_size _ rfl, rfl, rfl, rfl⟩, hlim1.push _, NSq.of_ns hn2, fun e => absurd rfl e, fun _ => ⟨by rw [Heap.size_push, hz], fun b o e => Heap.get?_push_of_some _ (hk1 b o (hkB b o e))⟩, _, rfl, fun s'' hal h0 => ⟨rfl, seg_func ?_⟩⟩
  have hn3 : s''.heap.Ns s.heap.objs.size _ := hn2.at' fun o e => hal _ (by simp) o e
  obtain ⟨h0, hkB2⟩ := h0 rfl
  replace hn3 := (lookup_ov [(Str.ofString "addr", Value.str x tx)]) ▸ hn3
  clear hn2 hns
  generalize hC : s.heap.objs.size = C at *
  refine seg_stmt (wpAny_Assign_Name (wpAny_Constant_int (wpAny_storeName_local rfl hn3 (fun h3 hn4 hs4 => Hold.mk ⟨rfl, ?_⟩))))
  refine seg_stmt (wpAny_Assign_Name (wpAny_Constant_bool (wpAny_storeName_local rfl hn4 (fun h4 hn5 hs5 => Hold.mk ⟨rfl, ?_⟩))))
  have F5 : Fr h₀ C h4 _ := ⟨hn5, fun b o e => hs5.extBut b o (fun q => Nat.lt_irrefl _ (q ▸ Nat.lt_of_lt_of_le (Heap.lt_size e) hab)) (hs4.extBut b o (fun q => Nat.lt_irrefl _ (q ▸ Nat.lt_of_lt_of_le (Heap.lt_size e) hab)) (hkB2 b o e)), hab⟩
  have hz4 : h4.objs.size = C + 1 + 1 := by rw [hs5.1]; show h3.objs.size = _; rw [hs4.1]; exact h0
  refine seg_execs_cons (seg_for ?_)
  simp only [ov_app] at F5
  replace F5 := fr_fix (ps' := [(Str.ofString "addr", Value.str x tx), (Str.ofString "pos", Value.int 0 s''.toks), (Str.ofString "escape", Value.bool false)]) F5 rfl
  ktr_unf
  dsimp only at he9 hi9 hz9 hk9 ⊢
  rw [hz4] at he9 hi9 ⊢
  refine wpAny_pyIter_enum he9 ?_
  intro p
  refine seg_ind (GInv x tx C (C + 1) (escs 0 false (cl x))) ?step (cl x) 0 false _ _ ?init
  case init =>
    refine ⟨rfl, Nat.zero_le _, hend, ⟨.none, he9⟩, hi9, ⟨_, [], F5.ns.keeps hk9, .inl rfl⟩, ?_, [], rfl⟩
    · refine ⟨_, _, rfl, fun b o h1 h2 h3 e => hk9 b o (hs5.extBut b o h1 (hs4.extBut b o h1 e))⟩
  case step =>
    intro l ih i b s₀ s2 hI
    obtain ⟨q1, q1', q2, ⟨old, q3⟩, q4, ⟨vp, rest, q5, q6⟩, q7, done, q8⟩ := hI
    refine seg_forLoop ?_
    have D := fun (A' : Around) (hA : A'.handled = none) => WalksT.enumerateD (prog := PySem.Challenge.rw_sh0066_01.row.prog) (w := w) (A := A') (drawsStr (prog := PySem.Challenge.rw_sh0066_01.row.prog) (w := w) (A := A'.in1) hA (C + 1 + 1) x tx) (C + 1 + 2) (Nat.ne_of_gt (Nat.lt_succ_self (C + 1 + 1))) (by simp) (by simp)
    have hC1 : C ∉ [C + 1 + 2, C + 1 + 1] := by
      intro e
      rcases List.mem_cons.mp e with e | e
      · exact absurd e (Nat.ne_of_lt (Nat.lt_succ_of_lt (Nat.lt_succ_of_lt (Nat.lt_succ_self _))))
      · exact absurd (List.mem_singleton.mp e) (Nat.ne_of_lt (Nat.lt_succ_of_lt (Nat.lt_succ_self _)))
    cases l with
    | nil =>
      have hi : i = x.cps.size := by
        have e := List.drop_eq_nil_iff.mp q1
        have e2 : (cl x).length = x.cps.size := by simp [cl]
        omega
      subst hi
      refine (D _ ?hA).done _ _ _ ⟨⟨_, q3⟩, q4⟩ fun h' tk' hk' => ?_
      case hA => exact hh
      have hb : b = false := q2
      subst hb
      dsimp only
      refine Hold.mk (seg_block_nil ?_)
      have q5' : h'.Ns C _ := q5.at' fun o e => hk' _ o hC1 e
      have F6 := fr_no q5'
      have N6 : News noHeap C h' (allBut h' [C]) := news_allBut (by simp)
      refine seg_execs_cons (seg_if ?_)
      tb_start
      rename News _ _ _ _ => N7
      exact Hold.mk ⟨fun e => (nomatch e), fun _ => seg_execs_nil (seg_execs_nil (seg_end (.ok (.ret .none)) ⟨rfl, rfl, q7.step fun b o e1 e2 e3 e => (N7 _ (mem_allBut (by simpa using e1) (hk' b o (by simp [e2, e3]) e))).1⟩))⟩
    | cons c l =>
      have hi : i < x.cps.size := by
        have e2 : (cl x).length = x.cps.size := by simp [cl]
        have e := congrArg List.length q1
        simp at e
        omega
      have hq : (cl x).drop (i + 1) = l := by rw [← List.drop_drop, q1]; rfl
      have hci : x.cps[i]? = some c := by
        have e := congrArg List.head? q1
        simpa [cl] using e
      refine (D _ ?hA).item i _ _ _ hi ⟨⟨_, q3⟩, q4⟩ fun T vals h' tk' hv hTz hT hm hk' => ?_
      case hA => exact hh
      obtain ⟨t, xv, ⟨c', u, hc', rfl⟩, rfl⟩ := hv
      rw [hci] at hc'
      cases hc'
      dsimp only
      have hTC : T ≠ C := by
        exact Nat.ne_of_gt (Nat.lt_of_lt_of_le q5.lt hTz)
      refine (D _ ?hA2).go _ _ _ i T _ _ _ hm fun h2 r1 hk2 => ?_
      case hA2 => exact hh
      obtain ⟨⟨old2, r3⟩, r4⟩ := r1
      have hTw : T ∉ [C + 1 + 2, C + 1 + 1] := by
        intro e
        rcases List.mem_cons.mp e with e | e
        · exact hm.2.2.1 e
        · exact hm.2.2.2 (List.mem_singleton.mp e)
      refine kcp_assign hh (let ⟨o, e, r⟩ := hT; ⟨o, hk2 _ o hTw e, r⟩) rfl rfl rfl (q5.at' fun o e => hk2 _ o hC1 (hk' _ o hC1 e)) fun h3 tk3 hn3 hk3 => ?_
      refine Hold.mk ?_
      have r5 : IsEnum h3 (C + 1 + 2) (C + 1 + 1) (i + 1) old2 := hk3 _ _ (Nat.ne_of_gt (Nat.lt_succ_of_lt (Nat.lt_succ_of_lt (Nat.lt_succ_self _)))) r3
      have r6 : h3.IsStrIter (C + 1 + 1) (strIterType x) x tx (i + 1) := let ⟨o, e, r⟩ := r4; ⟨o, hk3 _ o (Nat.ne_of_gt (Nat.lt_succ_of_lt (Nat.lt_succ_self _))) e, r⟩
      have q9 : GSince C (C + 1) s₀ ⟨h3, s2.gens, s2.drawn, tk3, s2.os⟩ := q7.step fun b o e1 e2 e3 e => hk3 _ o e1 (hk2 _ o (by simp [e2, e3]) (hk' _ o (by simp [e2, e3]) e))
      simp only [ov_app] at hn3
      have hn6 : ∃ (tp : Tok), h3.Ns C (ov (fun _ => none) [(Str.ofString "addr", Value.str x tx), (Str.ofString "pos", Value.int i t), (Str.ofString "escape", Value.bool b), (Str.ofString "ch", .str ⟨#[c]⟩ u)]) := by
        rcases q6 with rfl | ⟨vc, rfl⟩
        · exact ⟨t, hn3⟩
        · exact ⟨t, hn3⟩
      obtain ⟨-, hn6⟩ := hn6
      clear hn3
      have F6 := fr_no hn6
      have N6 : News noHeap C h3 (allBut h3 [C]) := news_allBut (by simp)
      refine seg_execs_cons (seg_if ?_)
      cases b with
      | true =>
        tb_start
        refine Hold.mk ⟨fun _ => ?_, fun e => nomatch e⟩
        change Seg _ _ _ _ ((escs (i + 1) false l).length + 1) _ _ _ _ _
        refine seg_execs_cons (seg_yieldH rfl rfl rfl ?_)
        tb_start
        rename Fr _ _ _ _ => F7
        rename News _ _ _ _ => N7
        refine Hold.mk fun kap hkap => ?_
        have hkk : ∀ b o, b ≠ C → h3.get? b = some o → _ := fun b o e1 e => (N7 _ (.tail _ (mem_allBut (by simpa using e1) e))).1
        refine ⟨⟨_, i, t, [92, c], _, ?_, rfl, (N7 _ (.head _)).1⟩, q9.step fun b o e1 e2 e3 e => hkk b o e1 e, ⟨NSq.of_ns F7.ns, let ⟨o, ho, _, hd⟩ := r6; NSq.of_fields (hkk _ _ (Nat.ne_of_gt (Nat.lt_succ_of_lt (Nat.lt_succ_self _))) ho) hd, NSq.of_fields (hkk _ _ (Nat.ne_of_gt (Nat.lt_succ_of_lt (Nat.lt_succ_of_lt (Nat.lt_succ_self _)))) r5) rfl⟩, fun s9 hal9 => hkap s9 ?_⟩
        · rw [q8]
          show (done ++ (i, [92, c]) :: escs (i + 1) false l)[(done ++ (i, [92, c]) :: escs (i + 1) false l).length - 1 - (escs (i + 1) false l).length]? = _
          have e : (done ++ (i, [92, c]) :: escs (i + 1) false l).length - 1 - (escs (i + 1) false l).length = done.length := by
            rw [List.length_append, List.length_cons]; omega
          rw [e, List.getElem?_append_right (Nat.le_refl _), Nat.sub_self]; rfl
        · have F9 := fr_no (F7.ns.at' fun o e => hal9 C (by simp) o e)
          have N9 : News noHeap C s9.heap (allBut s9.heap [C]) := news_allBut (by simp)
          have r5' := hal9 (C + 1 + 2) (by simp) _ (hkk _ _ (Nat.ne_of_gt (Nat.lt_succ_of_lt (Nat.lt_succ_of_lt (Nat.lt_succ_self _)))) r5)
          have r6' : s9.heap.IsStrIter (C + 1 + 1) (strIterType x) x tx (i + 1) := let ⟨o, ho, hr⟩ := r6; ⟨o, hal9 (C + 1 + 1) (by simp) _ (hkk _ _ (Nat.ne_of_gt (Nat.lt_succ_of_lt (Nat.lt_succ_self _))) ho), hr⟩
          refine seg_stmt ?_
          tb_start
          rename Fr _ _ _ _ => F10
          rename News _ _ _ _ => N10
          simp only [ov_app] at F10
          have hk10 : ∀ b o, b ≠ C → s9.heap.get? b = some o → _ := fun b o e1 e => (N10 _ (mem_allBut (by simpa using e1) e)).1
          refine Hold.mk ⟨rfl, seg_execs_nil (seg_execs_nil (seg_again rfl (ih l (i + 1) false _ _ (Nat.lt_succ_self _) ⟨hq, by simp [cl]; exact hi, q2, ⟨_, hk10 _ _ (Nat.ne_of_gt (Nat.lt_succ_of_lt (Nat.lt_succ_of_lt (Nat.lt_succ_self _)))) r5'⟩, let ⟨o, ho, hr⟩ := r6'; ⟨o, hk10 _ _ (Nat.ne_of_gt (Nat.lt_succ_of_lt (Nat.lt_succ_self _))) ho, hr⟩, ⟨_, [(Str.ofString "ch", _)], F10.ns, .inr ⟨_, rfl⟩⟩, ⟨_, _, rfl, fun b o e1 e2 e3 e => hk10 b o e1 e⟩, done ++ [(i, [92, c])], by rw [q8]; simp [escs]⟩)))⟩
      | false =>
        tb_start
        refine Hold.mk ⟨fun e => (nomatch e), fun _ => ?_⟩
        refine seg_execs_cons (seg_if ?_)
        tb_start
        refine Hold.mk ⟨fun e => ?_, fun e => ?_⟩
        · have hc : c = 92 := by rw [one_eq] at e; simpa using e
          have ee : escs i false (c :: l) = escs (i + 1) true l := by simp [escs, hc]
          rw [ee] at q8 ⊢
          refine seg_stmt ?_
          tb_start
          rename Fr _ _ _ _ => F10
          rename News _ _ _ _ => N10
          simp only [ov_app] at F10
          have hk10 : ∀ b o, b ≠ C → h3.get? b = some o → _ := fun b o e1 e => (N10 _ (mem_allBut (by simpa using e1) e)).1
          refine Hold.mk ⟨rfl, seg_execs_nil (seg_execs_nil (seg_again rfl (ih l (i + 1) true _ _ (Nat.lt_succ_self _) ⟨hq, by simp [cl]; exact hi, by subst hc; exact q2, ⟨_, hk10 _ _ (Nat.ne_of_gt (Nat.lt_succ_of_lt (Nat.lt_succ_of_lt (Nat.lt_succ_self _)))) r5⟩, let ⟨o, ho, hr⟩ := r6; ⟨o, hk10 _ _ (Nat.ne_of_gt (Nat.lt_succ_of_lt (Nat.lt_succ_self _))) ho, hr⟩, ⟨_, [(Str.ofString "ch", _)], F10.ns, .inr ⟨_, rfl⟩⟩, q9.step fun b o e1 e2 e3 e => hk10 b o e1 e, done, q8⟩)))⟩
        · have hc : c ≠ 92 := by rw [one_eq] at e; simpa using e
          have ee : escs i false (c :: l) = (i, [c]) :: escs (i + 1) false l := by simp [escs, hc]
          have q2' : escEnd false l = false := by
            have : escEnd false (c :: l) = escEnd (c == 92) l := rfl
            rw [this, beq_eq_false_iff_ne.mpr hc] at q2
            exact q2
          rw [ee] at q8 ⊢
          change Seg _ _ _ _ ((escs (i + 1) false l).length + 1) _ _ _ _ _
          refine seg_execs_cons (seg_yieldH rfl rfl rfl ?_)
          tb_start
          rename Fr _ _ _ _ => F7
          rename News _ _ _ _ => N7
          refine Hold.mk fun kap hkap => ?_
          have hkk : ∀ b o, b ≠ C → h3.get? b = some o → _ := fun b o e1 e => (N7 _ (.tail _ (mem_allBut (by simpa using e1) e))).1
          refine ⟨⟨_, i, t, [c], _, ?_, rfl, (N7 _ (.head _)).1⟩, q9.step fun b o e1 e2 e3 e => hkk b o e1 e, ⟨NSq.of_ns F7.ns, let ⟨o, ho, _, hd⟩ := r6; NSq.of_fields (hkk _ _ (Nat.ne_of_gt (Nat.lt_succ_of_lt (Nat.lt_succ_self _))) ho) hd, NSq.of_fields (hkk _ _ (Nat.ne_of_gt (Nat.lt_succ_of_lt (Nat.lt_succ_of_lt (Nat.lt_succ_self _)))) r5) rfl⟩, fun s9 hal9 => hkap s9 ?_⟩
          · rw [q8]
            have e : (done ++ (i, [c]) :: escs (i + 1) false l).length - 1 - (escs (i + 1) false l).length = done.length := by
              rw [List.length_append, List.length_cons]; omega
            rw [e, List.getElem?_append_right (Nat.le_refl _), Nat.sub_self]; rfl
          · have r5' := hal9 (C + 1 + 2) (by simp) _ (hkk _ _ (Nat.ne_of_gt (Nat.lt_succ_of_lt (Nat.lt_succ_of_lt (Nat.lt_succ_self _)))) r5)
            have r6' : s9.heap.IsStrIter (C + 1 + 1) (strIterType x) x tx (i + 1) := let ⟨o, ho, hr⟩ := r6; ⟨o, hal9 (C + 1 + 1) (by simp) _ (hkk _ _ (Nat.ne_of_gt (Nat.lt_succ_of_lt (Nat.lt_succ_self _))) ho), hr⟩
            exact seg_execs_nil (seg_execs_nil (seg_execs_nil (seg_again rfl (ih l (i + 1) false _ _ (Nat.lt_succ_self _) ⟨hq, by simp [cl]; exact hi, q2', ⟨_, r5'⟩, r6', ⟨_, [(Str.ofString "ch", _)], F7.ns.at' fun o e => hal9 C (by simp) o e, .inr ⟨_, rfl⟩⟩, GSince.refl _ _ _, done ++ [(i, [c])], by rw [q8]; simp⟩))))


-- PART GenFor
theorem lnGenFor : True := by
  k_with_none
  trivial
/-! NOLINES a for over the generator -/
section
variable {prog : Program} {w : World} {A : Around} {E : Value → Shared → Prop} {s : Shared}
theorem le3_of {k : Nat} (h : k ≤ 3) : k = 0 ∨ k = 1 ∨ k = 2 ∨ k = 3 := by omega
theorem let_gen {elts : List Expr} {k : Nat} {pos : Pos} {a T : Addr} {g : Nat} {Q : Unit → Shared → Prop} (hg : s.heap.IsGen a g) (hQ : Q () s) :
    wpAny (model prog w) A (letOwnedTupleGo (.Tuple elts k pos) (.ref a) (.ref T)) Q E s := by
  obtain ⟨o, nm, qn, ho, hc, hd, _⟩ := hg
  unfold letOwnedTupleGo
  refine wpAny_bind (wpAny_load ho ?_)
  rw [hc, hd]
  show wpAny _ A (if (["enumerate", "zip", "dict_itemiterator", "dict_reverseitemiterator", "odict_iterator", "itertools.zip_longest", "itertools.pairwise"].contains "generator" &&
      (#[.int g 0, nm, qn] : Array Value)[0]? == some (rawInt T)) = true then _ else _) Q E s
  rw [if_neg (by
    have e : (["enumerate", "zip", "dict_itemiterator", "dict_reverseitemiterator", "odict_iterator", "itertools.zip_longest", "itertools.pairwise"].contains "generator") = false := by decide
    rw [e]; simp)]
  exact wpAny_pure hQ
/-- the iterable of a for over the generator -/
inductive GenIn (prog : Program) (w : World) (A : Around) (h₀ : Heap) (L : Addr) (its : List (Nat × List Nat)) (d : Drawn) (os : OsState) (PG : Array GenState → Prop) (J : Nat → (Str → Option Value) → List (Addr × Obj) → Prop) : Value → Shared → Prop
  | mk {s : Shared} (G0 : Array GenState) (C : Addr) (led : List (Addr × Obj)) (m : Str → Option Value) (hPG : PG G0) (hLC : L < C) (hSC : cStatics < C) (G : GAt prog w A h₀ (C + 1) G0 C its 0 s) (F : Fr h₀ L s.heap m) (N : News h₀ L s.heap led) (hled : ∀ p ∈ led, p.1 < C) (hd : s.drawn = d) (hos : s.os = os) (hJ : J 0 m led) :
    GenIn prog w A h₀ L its d os PG J (.ref (C + 1)) s
inductive GenIv (prog : Program) (w : World) (A : Around) (h₀ : Heap) (L : Addr) (its : List (Nat × List Nat)) (d : Drawn) (os : OsState) (G0 : Array GenState) (C : Addr) (J : Nat → (Str → Option Value) → List (Addr × Obj) → Prop) : Nat → Shared → Prop
  | mk {s : Shared} (j : Nat) (m : Str → Option Value) (led : List (Addr × Obj)) (hj : j ≤ its.length) (G : GAt prog w A h₀ (C + 1) G0 C its j s) (F : Fr h₀ L s.heap m) (N : News h₀ L s.heap led) (hled : ∀ p ∈ led, ∀ k ≤ 3, p.1 ≠ C + k) (hd : s.drawn = d) (hos : s.os = os) (hJ : J j m led) :
    GenIv prog w A h₀ L its d os G0 C J (its.length - j) s
theorem gen_for {env : Env} {x y : Str} {px py tp pos : Pos} {kk : Nat} {iter : Expr} {body : List Stmt} {Q : Flow → Shared → Prop} {h₀ : Heap} {L : Addr} {oS : Obj} {its : List (Nat × List Nat)} {d : Drawn} {os : OsState}
    (PG : Array GenState → Prop) (J : Nat → (Str → Option Value) → List (Addr × Obj) → Prop) (hh : A.handled = none) (hroom : A.depth < recursionLimit)
    (hx : env.kindOf x = some .local) (hy : env.kindOf y = some .local) (hp : (env.scope.kind == .class || (env.scope.kind == .module && env.locals != env.globals)) = false) (hL : env.locals = L)
    (hS : h₀.get? cStatics = some oS)
    (h : wpAny (model prog w) A (eval iter env) (GenIn prog w A h₀ L its d os PG J) E s)
    (turn : ∀ (j p : Nat) (c : List Nat) led4 m led G h tk tkp tku, its[j]? = some (p, c) → J j m led → Fr h₀ L h (fun z => if z = y then some (.str ⟨c.toArray⟩ tku) else if z = x then some (.int (p : Int) tkp) else m z) → News h₀ L h (led ++ led4) → (∀ q ∈ led, ∀ p ∈ led4, p.1 ≠ q.1) →
      ∀ B : Flow → Shared → Prop, (∀ h' tk' m' led', Fr h₀ L h' m' → News h₀ L h' (led' ++ led4) → (∀ q ∈ led', (∃ o', (q.1, o') ∈ led) ∨ ∃ x y, q.2.data = .seq x y) → J (j + 1) m' led' → B .next ⟨h', G, d, tk', os⟩) →
        wpAny (model prog w) A (execs body env) B (fun _ _ => False) ⟨h, G, d, tk, os⟩)
    (done : ∀ G0 m led h' tk', PG G0 → J its.length m led → Fr h₀ L h' m → News h₀ L h' led → Q .next ⟨h', G0.push .finished, d, tk', os⟩)
    (hs : ∀ x, foldedSetIterable iter env x = pure x := by intro _; rfl) :
    wpAny (model prog w) A (exec (.For (.Tuple [.Name x px, .Name y py] kk tp) iter body [] pos) env) Q E s := by
  refine my_for (wpAny_mono h (fun v s₁ h₁ => ?_) fun _ _ e => e) hs
  obtain ⟨G0, C, led, m, hPG, hLC, hSC, G, F, N, hled, hd, hos, hJ⟩ := h₁
  refine wpAny_pyIter_gen G.1 ?_
  have hLne : ∀ k, L ≠ C + k := fun k => Nat.ne_of_lt (Nat.lt_of_lt_of_le hLC (Nat.le_add_right _ _))
  have hb0 : ∀ k, h₀.get? (C + k) = none := fun k => by
    cases e : h₀.get? (C + k) with
    | none => rfl
    | some o => exact absurd (Heap.lt_size e) (Nat.not_lt_of_le (Nat.le_trans F.above (Nat.le_trans (Nat.le_of_lt hLC) (Nat.le_add_right _ _))))
  refine ⟨GenIv prog w A h₀ L its d os G0 C J, _, .mk 0 m led (Nat.zero_le _) G F N (fun p hp k _ => Nat.ne_of_lt (Nat.lt_of_lt_of_le (hled p hp) (Nat.le_add_right _ _))) hd hos hJ, ?_⟩
  clear hJ N F G hled hd hos
  intro n s hI
  obtain ⟨j, m, led, hj, G, F, N, hled, hd, hos, hJ⟩ := hI
  by_cases hjl : j = its.length
  · subst hjl
    refine G.last hh hroom fun h' tk' hk => ?_
    rw [hd, hos]
    refine done G0 m led h' tk' hPG hJ ⟨F.ns.at' fun o e => hk L o (hLne 0) (hLne 2) (hLne 3) e, fun b o e => hk b o (fun q => ?_) (fun q => ?_) (fun q => ?_) (F.keep b o e), F.above⟩ fun p hp => ⟨hk p.1 p.2 (hled p hp 0 (by decide)) (hled p hp 2 (by decide)) (hled p hp 3 (by decide)) (N p hp).1, (N p hp).2⟩
    · subst q; exact nomatch (hb0 0).symm.trans e
    · subst q; exact nomatch (hb0 2).symm.trans e
    · subst q; exact nomatch (hb0 3).symm.trans e
  · have hjl : j < its.length := Nat.lt_of_le_of_ne hj hjl
    refine G.next hh hroom hSC (Nat.lt_succ_self _) hjl fun T p tk c tu h' tk' gs' hit hT hk G' => ?_
    dsimp only
    refine let_gen G'.1 ?_
    have F' : Fr h₀ L h' m := ⟨F.ns.at' fun o e => hk L o (hLne 0) (hLne 2) (hLne 3) e, fun b o e => hk b o (fun q => by subst q; exact nomatch (hb0 0).symm.trans e) (fun q => by subst q; exact nomatch (hb0 2).symm.trans e) (fun q => by subst q; exact nomatch (hb0 3).symm.trans e) (F.keep b o e), F.above⟩
    have N' : News h₀ L h' led := fun p hp => ⟨hk p.1 p.2 (hled p hp 0 (by decide)) (hled p hp 2 (by decide)) (hled p hp 3 (by decide)) (N p hp).1, (N p hp).2⟩
    subst hL
    refine kcp_assign hh ⟨_, hT, rfl, _, rfl⟩ hx hy hp F'.ns fun h2 tk2 hn2 hk2 => ?_
    have F2 : Fr h₀ env.locals h2 _ := ⟨hn2, fun b o e => hk2 b o (fun q => by subst q; exact absurd (Heap.lt_size e) (Nat.not_lt_of_le F.above)) (F'.keep b o e), F.above⟩
    have N2 : News h₀ env.locals h2 led := fun p hp => ⟨hk2 p.1 p.2 (N' p hp).2.1 (N' p hp).1, (N' p hp).2⟩
    obtain ⟨⟨o4, nm, qn, ho4, hr4⟩, hl4, ⟨o1, ho1, n1⟩, h23, -, hgs⟩ := id G'
    obtain ⟨⟨o2, ho2, n2⟩, o3, ho3, n3⟩ := h23 (Nat.succ_ne_zero _)
    let led4 : List (Addr × Obj) := [(C, o1), (C + 2, o2), (C + 3, o3), (C + 1, o4)]
    have N4 : News h₀ env.locals h2 led4 := by
      intro p hp
      simp only [led4, List.mem_cons, List.not_mem_nil, or_false] at hp
      rcases hp with rfl | rfl | rfl | rfl
      · exact ⟨hk2 _ _ (hLne 0).symm ho1, (hLne 0).symm, hb0 0⟩
      · exact ⟨hk2 _ _ (hLne 2).symm ho2, (hLne 2).symm, hb0 2⟩
      · exact ⟨hk2 _ _ (hLne 3).symm ho3, (hLne 3).symm, hb0 3⟩
      · exact ⟨hk2 _ _ (hLne 1).symm ho4, (hLne 1).symm, hb0 1⟩
    have N24 : News h₀ env.locals h2 (led ++ led4) := fun p hp => (List.mem_append.mp hp).elim (N2 p) (N4 p)
    have hdisj : ∀ q ∈ led, ∀ p ∈ led4, p.1 ≠ q.1 := by
      intro q hq p hp
      simp only [led4, List.mem_cons, List.not_mem_nil, or_false] at hp
      rcases hp with rfl | rfl | rfl | rfl
      · exact (hled q hq 0 (by decide)).symm
      · exact (hled q hq 2 (by decide)).symm
      · exact (hled q hq 3 (by decide)).symm
      · exact (hled q hq 1 (by decide)).symm
    rw [hd, hos]
    refine wpAny_mono (turn j p c led4 m led (G0.push gs') h2 tk2 tk tu hit hJ F2 N24 hdisj (fun f s₃ => match f with | .next => ∃ m₁, m₁ < its.length - j ∧ GenIv prog w A h₀ env.locals its d os G0 C J m₁ s₃ | _ => False) ?key) (fun f s₃ h₃ => ?_) fun _ _ e => e
    case key =>
      intro h5 tk5 m' led' F3 N3 hfresh hJ3
      have hS3 := F3.keep _ _ hS
      have q4 : ∀ p ∈ led4, h5.get? p.1 = some p.2 := fun p hp => (N3 p (List.mem_append.mpr (.inr hp))).1
      have up : ∀ b ∈ [cStatics, C + 1, C, C + 1 + 1, C + 1 + 2], ∀ o, h'.get? b = some o → h5.get? b = some o := by
        intro b hb o e
        simp only [List.mem_cons, List.not_mem_nil, or_false] at hb
        rcases hb with rfl | rfl | rfl | rfl | rfl
        · rw [F'.keep _ _ hS] at e; cases e; exact hS3
        · rw [ho4] at e; cases e; exact q4 (C + 1, o4) (by simp [led4])
        · rw [ho1] at e; cases e; exact q4 (_, o1) (by simp [led4])
        · rw [ho2] at e; cases e; exact q4 (C + 2, o2) (by simp [led4])
        · rw [ho3] at e; cases e; exact q4 (C + 3, o3) (by simp [led4])
      refine ⟨_, Nat.sub_lt_sub_left hjl (Nat.lt_succ_self j), .mk (j + 1) m' led' hjl ?_ F3 (fun p hp => N3 p (List.mem_append.mpr (.inl hp))) ?_ rfl rfl hJ3⟩
      · have G5 := G'.frame (h' := h5) (tk := tk5) (Nat.succ_ne_zero _) up
        rw [hd, hos] at G5
        exact G5
      · intro p hp k hk3 e
        rcases hfresh p hp with ⟨o', ho'⟩ | hn
        · exact hled _ ho' k hk3 e
        · obtain ⟨xs, ys, hn⟩ := hn
          have e5 := (N3 p (List.mem_append.mpr (.inl hp))).1
          rw [e] at e5
          have e6 : ∀ o, (C + k, o) ∈ led4 → o.data = .seq xs ys := fun o ho => by
            have e7 : some o = some p.2 := (q4 (C + k, o) ho).symm.trans e5
            cases e7; exact hn
          have k4 := le3_of hk3
          clear hk3 e e5
          obtain rfl | rfl | rfl | rfl := k4
          · exact n1 xs ys (e6 o1 (by simp [led4]))
          · exact nomatch hr4.2.1.symm.trans (e6 o4 (by simp [led4]))
          · exact n2 xs ys (e6 o2 (by simp [led4]))
          · exact n3 xs ys (e6 o3 (by simp [led4]))
    cases f with
    | next => exact h₃
    | cont => exact False.elim h₃
    | brk => exact False.elim h₃
    | ret v => exact False.elim h₃
end


-- PART PairFor
theorem lnPairFor : True := by
  k_with_none
  trivial
/-! NOLINES a for over a list of pairs that the ledger holds -/
noncomputable abbrev pairObj (a b : Value) : Obj := { cls := .type "tuple", data := .seq #[a, b] }
section
variable {prog : Program} {w : World} {A : Around} {E : Value → Shared → Prop} {s : Shared}
theorem pair_for {env : Env} {x y : Str} {px py tp pos : Pos} {kk : Nat} {iter : Expr} {body : List Stmt} {Q : Flow → Shared → Prop} {h₀ : Heap} {L R : Addr} {n : Nat} {es : List (Addr × Value × Value)} {led : List (Addr × Obj)} {G : Array GenState} {d : Drawn} {os : OsState}
    (J : Nat → (Str → Option Value) → Prop) (hh : A.handled = none)
    (hR : (R, W.listOf (es.map fun e => Value.ref e.1).toArray n) ∈ led) (hT : ∀ e ∈ es, (e.1, pairObj e.2.1 e.2.2) ∈ led)
    (hx : env.kindOf x = some .local) (hy : env.kindOf y = some .local) (hp : (env.scope.kind == .class || (env.scope.kind == .module && env.locals != env.globals)) = false) (hL : env.locals = L)
    (h : wpAny (model prog w) A (eval iter env) (fun v s₁ => Hold (∃ m h tk, v = .ref R ∧ s₁ = ⟨h, G, d, tk, os⟩ ∧ Fr h₀ L h m ∧ News h₀ L h led ∧ J 0 m)) E s)
    (turn : ∀ (j : Nat) e m I oI h tk, es[j]? = some e → J j m → Fr h₀ L h (fun z => if z = y then some e.2.2 else if z = x then some e.2.1 else m z) → News h₀ L h ((I, oI) :: led) → (∀ p ∈ led, p.1 ≠ I) →
      wpAny (model prog w) A (execs body env) (fun f s₃ => match f with
        | .next | .cont => Hold (∃ h' tk' m', s₃ = ⟨h', G, d, tk', os⟩ ∧ Fr h₀ L h' m' ∧ News h₀ L h' ((I, oI) :: led) ∧ J (j + 1) m')
        | .brk => False
        | .ret v => Q (.ret v) s₃) (fun _ _ => False) ⟨h, G, d, tk, os⟩)
    (done : ∀ m h' tk', J es.length m → Fr h₀ L h' m → News h₀ L h' led → Q .next ⟨h', G, d, tk', os⟩)
    (hs : ∀ x, foldedSetIterable iter env x = pure x := by intro _; rfl) :
    wpAny (model prog w) A (exec (.For (.Tuple [.Name x px, .Name y py] kk tp) iter body [] pos) env) Q E s := by
  refine my_for (wpAny_mono h (fun v s₁ h₁ => ?_) fun _ _ e => e) hs
  obtain ⟨m, h, tk, rfl, rfl, F, N, hJ⟩ := h₁
  have hlist : ∀ {h : Heap}, News h₀ L h led → h.IsList R (es.map fun e => Value.ref e.1).toArray := fun N => News.isList N hR
  refine wpAny_pyIter_list (hlist N) ?_
  generalize hI : h.objs.size = I
  have hIL : I ≠ L := hI ▸ Nat.ne_of_gt F.ns.lt
  have hIl : ∀ p ∈ led, p.1 ≠ I := fun p hp => hI ▸ Nat.ne_of_lt (Heap.lt_size (N p hp).1)
  have hI0 : h₀.get? I = none := Heap.get?_none_of_le (hI ▸ Nat.le_trans F.above (Nat.le_of_lt F.ns.lt))
  subst hL
  refine ⟨fun n s => ∃ j m h tk, n = es.length - j ∧ j ≤ es.length ∧ s = ⟨h, G, d, tk, os⟩ ∧ h.IsListIter I R j ∧ Fr h₀ env.locals h m ∧ News h₀ env.locals h led ∧ J j m, _,
    ⟨0, m, _, tk, rfl, Nat.zero_le _, rfl, ⟨_, hI ▸ Heap.get?_push_size _ rfl, rfl, rfl⟩, F.push _, fun p hp => ⟨Heap.get?_push_of_some _ (N p hp).1, (N p hp).2⟩, hJ⟩, ?_⟩
  clear hJ N F
  rintro n s ⟨j, m, h, tk, rfl, hj, rfl, hit, F, N, hJ⟩
  by_cases hjl : j = es.length
  · subst hjl
    refine wpAny_pyNext_list_end hh hit (hlist N) (by simp) fun h' hk => ?_
    dsimp only
    exact done m h' tk hJ ⟨F.ns.at' fun o e => hk _ o hIL.symm e, fun b o e => hk b o (fun q => by subst q; exact nomatch hI0.symm.trans e) (F.keep b o e), F.above⟩ fun p hp => ⟨hk p.1 p.2 (hIl p hp) (N p hp).1, (N p hp).2⟩
  · have hjl : j < es.length := Nat.lt_of_le_of_ne hj hjl
    obtain ⟨e, he⟩ : ∃ e, es[j]? = some e := ⟨es[j], List.getElem?_eq_getElem hjl⟩
    have heT := hT e (List.mem_of_getElem? he)
    refine wpAny_pyNext_list_item (x := Value.ref e.1) hit (hlist N) (by simp [he]) fun h' hit' hsb => ?_
    dsimp only
    refine wpAny_letOwnedTupleGo_listiter hit' ?_
    have hk : ∀ b o, b ≠ I → h.get? b = some o → h'.get? b = some o := fun b o hb e => (hsb.2 b hb).trans e
    have F' : Fr h₀ env.locals h' m := ⟨F.ns.at' fun o e => hk _ o hIL.symm e, fun b o e => hk b o (fun q => by subst q; exact nomatch hI0.symm.trans e) (F.keep b o e), F.above⟩
    have N' : News h₀ env.locals h' led := fun p hp => ⟨hk p.1 p.2 (hIl p hp) (N p hp).1, (N p hp).2⟩
    refine kcp_assign hh ⟨_, (N' _ heT).1, rfl, _, rfl⟩ hx hy hp F'.ns fun h2 tk2 hn2 hk2 => ?_
    have F2 : Fr h₀ env.locals h2 _ := ⟨hn2, fun b o e => hk2 b o (fun q => by subst q; exact absurd (Heap.lt_size e) (Nat.not_lt_of_le F.above)) (F'.keep b o e), F.above⟩
    have N2 : News h₀ env.locals h2 led := fun p hp => ⟨hk2 p.1 p.2 (N' p hp).2.1 (N' p hp).1, (N' p hp).2⟩
    obtain ⟨oI, hoI, hcI, hdI⟩ := hit'
    have N3 : News h₀ env.locals h2 ((I, oI) :: led) := fun p hp => by
      rcases List.mem_cons.mp hp with rfl | hp
      · exact ⟨hk2 _ _ hIL hoI, hIL, hI0⟩
      · exact N2 p hp
    refine wpAny_mono (turn j e m I oI h2 tk2 he hJ F2 N3 hIl) (fun f s₃ h₃ => ?_) fun _ _ e => e
    have key : Hold (∃ h' tk' m', s₃ = ⟨h', G, d, tk', os⟩ ∧ Fr h₀ env.locals h' m' ∧ News h₀ env.locals h' ((I, oI) :: led) ∧ J (j + 1) m') → Hold (∃ m₁, m₁ < es.length - j ∧ ∃ j m h tk, m₁ = es.length - j ∧ j ≤ es.length ∧ s₃ = ⟨h, G, d, tk, os⟩ ∧ h.IsListIter I R j ∧ Fr h₀ env.locals h m ∧ News h₀ env.locals h led ∧ J j m) := by
      rintro ⟨h5, tk5, m', rfl, F5, N5, hJ5⟩
      exact ⟨_, Nat.sub_lt_sub_left hjl (Nat.lt_succ_self j), j + 1, m', h5, tk5, rfl, hjl, rfl, ⟨oI, (N5 (I, oI) (.head _)).1, hcI, hdI⟩, F5, fun p hp => N5 p (.tail _ hp), hJ5⟩
    cases f with
    | next => exact key h₃
    | cont => exact key h₃
    | brk => exact False.elim h₃
    | ret v => exact h₃
theorem pair_for' {env : Env} {x y : Str} {px py tp pos : Pos} {kk : Nat} {iter : Expr} {body : List Stmt} {Q : Flow → Shared → Prop} {h₀ hb : Heap} {tkb : Nat} {L R : Addr} {n : Nat} {m₀ : Str → Option Value} {es : List (Addr × Value × Value)} {led : List (Addr × Obj)} {G : Array GenState} {d : Drawn} {os : OsState}
    (J : Nat → (Str → Option Value) → Prop) (F : Fr h₀ L hb m₀) (N : News h₀ L hb led) (hh : A.handled = none)
    (hR : (R, W.listOf (es.map fun e => Value.ref e.1).toArray n) ∈ led) (hT : ∀ e ∈ es, (e.1, pairObj e.2.1 e.2.2) ∈ led)
    (hx : env.kindOf x = some .local) (hy : env.kindOf y = some .local) (hp : (env.scope.kind == .class || (env.scope.kind == .module && env.locals != env.globals)) = false) (hL : env.locals = L)
    (h : wpAny (model prog w) A (eval iter env) (fun v s₁ => Hold (∃ m h tk, v = .ref R ∧ s₁ = ⟨h, G, d, tk, os⟩ ∧ Fr h₀ L h m ∧ News h₀ L h led ∧ J 0 m)) E ⟨hb, G, d, tkb, os⟩)
    (turn : ∀ (j : Nat) e m I oI h tk, es[j]? = some e → J j m → Fr h₀ L h (fun z => if z = y then some e.2.2 else if z = x then some e.2.1 else m z) → News h₀ L h ((I, oI) :: led) → (∀ p ∈ led, p.1 ≠ I) →
      wpAny (model prog w) A (execs body env) (fun f s₃ => match f with
        | .next | .cont => Hold (∃ h' tk' m', s₃ = ⟨h', G, d, tk', os⟩ ∧ Fr h₀ L h' m' ∧ News h₀ L h' ((I, oI) :: led) ∧ J (j + 1) m')
        | .brk => False
        | .ret v => Q (.ret v) s₃) (fun _ _ => False) ⟨h, G, d, tk, os⟩)
    (done : ∀ m h' tk', J es.length m → Fr h₀ L h' m → News h₀ L h' led → Q .next ⟨h', G, d, tk', os⟩)
    (hs : ∀ x, foldedSetIterable iter env x = pure x := by intro _; rfl) :
    wpAny (model prog w) A (exec (.For (.Tuple [.Name x px, .Name y py] kk tp) iter body [] pos) env) Q E ⟨hb, G, d, tkb, os⟩ :=
  pair_for J hh hR hT hx hy hp hL h turn done hs
end


-- PART Strip
theorem lnStrip : True := by
  k_with_none
  k_with "call builtin:str.lower" => ((k_here; (with_reducible show wpAny _ _ (call (Value.builtin "str.lower") [Value.str _ _]) _ _ _); (refine SCL.lower (by omega) ?_); intro _))
  k_with "subscriptTail Name Slice str ref" => (((with_reducible show wpAny _ _ (subscriptTail _ (Expr.Slice none (some (Expr.BoolOp _ _ _)) none _) _ _) _ _ _); (with_reducible rename Fr _ _ _ _ => F'); (with_reducible rename News _ _ _ _ => N'); (first | refine slice_strN_nn_len (s := ⟨_, _, _, _, _⟩) F' N' ?_ | refine slice_strN_ns_len (s := ⟨_, _, _, _, _⟩) F' N' ?_); intro _ _ _ _ _ _))
  k_with "tb_start" => (((try (show wpAny _ _ _ _ _ _)); (try k_fold); (repeat' ((fail_if_success (with_reducible show InvEndN _ _ _ _ _ _ _)); first | (k_unfold; (try dsimp only)) | (k_end; wrow_close) | walk1 | (dsimp only; walk1) | (dsimp only; k_unfold; (try dsimp only)) | (leave1; walk_say "STEP leave1"; try dsimp only) | fail "no step")); (all_goals (try dsimp only))))
  k_with "ktr_unf" => (repeat' ((fail_if_success (with_reducible show InvEndN _ _ _ _ _ _ _)); (fail_if_success (with_reducible show wpAny _ _ (exec (Stmt.While _ _ _ _) _) _ _ _)); (fail_if_success (with_reducible show wpAny _ _ (exec (Stmt.For _ _ _ _ _) _) _ _ _)); (fail_if_success (with_reducible show wpAny _ _ (pyIter _) _ _ _)); first | (k_unfold; (try dsimp only)) | (k_end; wrow_close) | walk1 | (dsimp only; walk1) | (dsimp only; k_unfold; (try dsimp only)) | (leave1; walk_say "STEP leave1"; try dsimp only) | fail "no step"))
  k_with "tb_nf" => (((repeat' ((fail_if_success (with_reducible show InvEndN _ _ _ _ _ _ _)); first | (k_unfold; (try dsimp only)) | (k_end; wrow_close) | walk1 | (dsimp only; walk1) | (dsimp only; k_unfold; (try dsimp only)) | (leave1; walk_say "STEP leave1"; try dsimp only) | fail "no step")); (all_goals (try dsimp only))))
  trivial
/-! what strip computes -/
noncomputable def stStep (l : List Nat) (st : Nat × Option Nat × List (List Nat)) (e : Nat × List Nat) : Nat × Option Nat × List (List Nat) :=
  if e.2 = [34] then match st.2.1 with
    | none => (st.1, some e.1, st.2.2)
    | some o => (e.1 + 1, none, if st.1 = o then st.2.2 else st.2.2 ++ [(l.drop st.1).take (o - st.1)])
  else st
noncomputable def stFin (l : List Nat) (st : Nat × Option Nat × List (List Nat)) : List Nat := (if st.1 < l.length then st.2.2 ++ [l.drop st.1] else st.2.2).flatten
noncomputable def stripF (l : List Nat) : List Nat := stFin l ((escs 0 false l).foldl (stStep l) (0, none, []))
noncomputable def opv : Option Nat → Tok → Value
  | none, _ => .none
  | some o, t => .int (o : Int) t
inductive StJ (x : Str) (tx : Tok) (R : Addr) (news : List (Addr × Obj)) (j : Nat) : (Str → Option Value) → List (Addr × Obj) → Prop
  | mk (u : Str → Option Value) (sp : Nat) (op : Option Nat) (vs : List Value) (ys : List Str) (ts top : Tok) (n : Nat)
    (hst : (sp, op, ys.map cl) = ((escs 0 false (cl x)).take j).foldl (stStep (cl x)) (0, none, [])) (hsp : sp ≤ x.length ∧ (∀ o, op = some o → sp ≤ o ∧ o < x.length) ∧ ∀ i p c, j ≤ i → (escs 0 false (cl x))[i]? = some (p, c) → sp ≤ p ∧ ∀ o, op = some o → o < p) (hvs : StrsAre vs ys) (hyl : ys.length ≤ j) (hyb : ∀ y ∈ ys, y.length ≤ 100) :
    StJ x tx R news j (ov u [(Str.ofString "addr", Value.str x tx), (Str.ofString "start", Value.int (sp : Int) ts), (Str.ofString "open_pos", opv op top), (Str.ofString "result", Value.ref R)]) ((R, W.listOf vs.toArray n) :: news)
theorem fr_drop4 {g h : Heap} {L : Addr} {u : Str → Option Value} {a b c d : Str × Value} {r : List (Str × Value)} (F : Fr g L h (ov u (a :: b :: c :: d :: r))) : Fr g L h (ov (ov u r) [a, b, c, d]) := F
theorem escs_mem : ∀ (l : List Nat) (i : Nat) (b : Bool), ∀ e ∈ escs i b l, i ≤ e.1 ∧ e.1 < i + l.length
  | [], _, _, e, h => by simp [escs] at h
  | c :: r, i, true, e, h => by
    simp only [escs, List.mem_cons] at h
    rcases h with rfl | h
    · simp
    · have := escs_mem r (i + 1) false e h
      simp only [List.length_cons]; omega
  | c :: r, i, false, e, h => by
    unfold escs at h
    split at h
    · have := escs_mem r (i + 1) true e h
      simp only [List.length_cons]; omega
    · rcases List.mem_cons.mp h with rfl | h
      · simp
      · have := escs_mem r (i + 1) false e h
        simp only [List.length_cons]; omega
theorem escs_sorted : ∀ (l : List Nat) (i : Nat) (b : Bool), (escs i b l).Pairwise (fun a b => a.1 < b.1)
  | [], _, _ => by simp [escs]
  | c :: r, i, true => by
    simp only [escs]
    refine List.pairwise_cons.mpr ⟨fun e h => ?_, escs_sorted r (i + 1) false⟩
    have := escs_mem r (i + 1) false e h
    show i < e.1
    omega
  | c :: r, i, false => by
    unfold escs
    split
    · exact escs_sorted r (i + 1) true
    · refine List.pairwise_cons.mpr ⟨fun e h => ?_, escs_sorted r (i + 1) false⟩
      have := escs_mem r (i + 1) false e h
      show i < e.1
      omega
theorem escs_lt {l : List Nat} {j i p q : Nat} {c d : List Nat} (hj : (escs 0 false l)[j]? = some (p, c)) (hi : (escs 0 false l)[i]? = some (q, d)) (h : j < i) : p < q := by
  have hs := List.pairwise_iff_getElem.mp (escs_sorted l 0 false)
  obtain ⟨h1, e1⟩ := List.getElem?_eq_some_iff.mp hj
  obtain ⟨h2, e2⟩ := List.getElem?_eq_some_iff.mp hi
  have := hs j i h1 h2 h
  rw [e1, e2] at this
  exact this
theorem escs_in {l : List Nat} {j p : Nat} {c : List Nat} (hj : (escs 0 false l)[j]? = some (p, c)) : p < l.length := by
  have := escs_mem l 0 false _ (List.mem_of_getElem? hj)
  simpa using this.2
theorem quote_eq (c : List Nat) : ((⟨c.toArray⟩ : Str) == Str.ofString "\"") = decide (c = [34]) := by
  have e : Str.ofString "\"" = ⟨[34].toArray⟩ := by decide +kernel
  rw [e]
  by_cases h : c = [34]
  · subst h; decide
  · rw [decide_eq_false h]
    refine beq_eq_false_iff_ne.mpr fun q => h ?_
    have := congrArg (fun s : Str => s.cps.toList) q
    simpa using this
theorem fold_next {α β : Type} {f : β → α → β} {b st : β} {l : List α} {j : Nat} {e : α} (h : st = (l.take j).foldl f b) (hit : l[j]? = some e) : f st e = (l.take (j + 1)).foldl f b := by
  rw [List.take_add_one, hit, List.foldl_append, ← h]; rfl
theorem sl_mid {x : Str} {i j : Nat} (h : i ≤ j) (h2 : j ≤ x.length) : cl (Txt.slice x (some (i : Int)) (some (j : Int))) = ((cl x).drop i).take (j - i) := by
  have e := beq_iff_eq.mp (PyProof.Rows.slice_closesL (x := x) (i := (i : Int)) (j := (j : Int)) (by omega) (by omega) (by omega))
  rw [e, cl_mk]
  have e1 : ((i : Int)).toNat = i := by omega
  have e2 : ((j : Int) - (i : Int)).toNat = j - i := by omega
  rw [e1, e2]
theorem strsAre_snoc {vs : List Value} {ys : List Str} (h : StrsAre vs ys) (y : Str) (t : Tok) : StrsAre (vs ++ [.str y t]) (ys ++ [y]) := by
  induction h with
  | nil => exact StrsAre.cons _ _ StrsAre.nil
  | cons _ _ _ ih => exact StrsAre.cons _ _ ih
theorem escs_len : ∀ (l : List Nat) (i : Nat) (b : Bool), (escs i b l).length ≤ l.length
  | [], _, _ => by simp [escs]
  | c :: r, i, true => by simp only [escs, List.length_cons]; exact Nat.succ_le_succ (escs_len r (i + 1) false)
  | c :: r, i, false => by
    unfold escs
    split
    · exact Nat.le_succ_of_le (escs_len r (i + 1) true)
    · simp only [List.length_cons]; exact Nat.succ_le_succ (escs_len r (i + 1) false)
theorem strsAre_len {vs : List Value} {ys : List Str} (h : StrsAre vs ys) : vs.length = ys.length := by
  induction h with
  | nil => rfl
  | cons _ _ _ ih => simp [ih]
theorem strs_arr {vs : List Value} {ys : List Str} (h : StrsAre vs ys) : StrsAre vs.toArray.toList ys := h
theorem strs_push {vs : List Value} {ys : List Str} (h : StrsAre vs ys) (y : Str) (t : Tok) : StrsAre (vs.toArray.push (.str y t)).toList (ys ++ [y]) := by
  rw [Array.toList_push]; exact strsAre_snoc h y t
noncomputable def Light (ys : List Str) : Prop := (ys.map (·.length)).sum + ys.length ≤ 20000
theorem Light.ok {ys : List Str} (h : Light ys) : (ys.map (·.length)).sum + ys.length ≤ 1048576 := Nat.le_trans h (by decide)
theorem Light.push {ys : List Str} (h : Light ys) {y : Str} (hy : y.length ≤ 1000) : ((ys ++ [y]).map (·.length)).sum + (ys ++ [y]).length ≤ 1048576 := by
  unfold Light at h
  simp only [List.map_append, List.sum_append, List.map_cons, List.map_nil, List.sum_cons, List.sum_nil, List.length_append, List.length_cons, List.length_nil]
  omega
theorem Light.of {ys : List Str} (n : Nat) (hb : ∀ y ∈ ys, y.length ≤ 100) (hn : ys.length ≤ n) (h : n ≤ 100) : Light ys := by
  have : (ys.map (·.length)).sum ≤ 100 * ys.length := by
    clear hn h
    induction ys with
    | nil => simp
    | cons y r ih =>
      have h1 := hb y (.head _)
      have h2 := ih fun z hz => hb z (.tail _ hz)
      simp only [List.map_cons, List.sum_cons, List.length_cons]
      omega
  unfold Light
  omega
theorem cl_join (ys : List Str) : cl (Txt.join (Str.ofString "") ys) = (ys.map cl).flatten := by
  have e : Str.ofString "" = ⟨#[]⟩ := by decide +kernel
  rw [e]
  have key : ∀ (r : List Str) (a : Array Nat), (r.foldl (fun acc p => acc ++ (⟨#[]⟩ : Str).cps ++ p.cps) a).toList = a.toList ++ (r.map cl).flatten := by
    intro r
    induction r with
    | nil => intro a; simp
    | cons z r ih => intro a; rw [List.foldl_cons, ih]; simp [cl]
  show (((ys.drop 1).foldl (fun acc p => acc ++ (⟨#[]⟩ : Str).cps ++ p.cps) (ys.headD Str.empty).cps)).toList = _
  rw [key]
  cases ys with
  | nil => rfl
  | cons y r => simp [cl]
theorem of_allLt {d : Nat} : ∀ {l : List (Addr × Obj)}, AllLt d l → ∀ p ∈ l, p.1 ≠ d
  | [], _, p, hp => nomatch hp
  | q :: r, h, p, hp => by
    rcases List.mem_cons.mp hp with rfl | hp
    · exact Nat.ne_of_lt h.1
    · exact of_allLt h.2 p hp
theorem escs_noq : ∀ (l : List Nat) (i : Nat) (b : Bool), 34 ∉ l → ∀ e ∈ escs i b l, e.2 ≠ [34]
  | [], _, _, _, e, h => by simp [escs] at h
  | c :: r, i, true, hn, e, h => by
    simp only [escs, List.mem_cons] at h
    rcases h with rfl | h
    · simp
    · exact escs_noq r (i + 1) false (fun x => hn (.tail _ x)) e h
  | c :: r, i, false, hn, e, h => by
    unfold escs at h
    split at h
    · exact escs_noq r (i + 1) true (fun x => hn (.tail _ x)) e h
    · rcases List.mem_cons.mp h with rfl | h
      · intro q
        have : c = 34 := by simpa using q
        exact hn (this ▸ .head _)
      · exact escs_noq r (i + 1) false (fun x => hn (.tail _ x)) e h
theorem strip_noq {l : List Nat} (hn : 34 ∉ l) : stripF l = l := by
  have key : ∀ (es : List (Nat × List Nat)), (∀ e ∈ es, e.2 ≠ [34]) → ∀ st, es.foldl (stStep l) st = st := by
    intro es
    induction es with
    | nil => intro _ st; rfl
    | cons e r ih =>
      intro h st
      rw [List.foldl_cons, ih fun x hx => h x (.tail _ hx)]
      simp [stStep, h e (.head _)]
  unfold stripF
  rw [key _ (escs_noq l 0 false hn)]
  cases l <;> simp [stFin]
theorem noq_of {x : Str} (h : (Builtin.Str.occurrences x (Str.ofString "\"") 0 x.length 1).isEmpty = true) : 34 ∉ cl x := by
  have e : Str.ofString "\"" = ⟨#[34]⟩ := by decide +kernel
  rw [e] at h
  have := StrLaws.found_one x 34
  rw [h] at this
  simpa using this.symm
theorem lnStrip_0 : True := by
  k_with "call ref" => ((k_here; (with_reducible show wpAny _ _ (call (Value.ref 59) _) _ _ _); (refine' iter_con _ _ _ _ _ _ _ ?l ?e _ _ _ _ ?hh ?room _ _ _ ?F ?X ?T ?_); (case l => k_asm); (case e => k_asm); (case hh => with_unfolding_all rfl); (case room => ktr_room); (case F => k_asm); (case X => k_asm); (case T => k_asm); intro h9 tk9 gs9 hk9 hz9 G9; (try dsimp only)))
  k_with "call builtin:list.append" => ((k_here; (with_reducible show wpAny _ _ (call (Value.builtin _) [Value.ref _, _]) _ _ _); k_dflt (refine' append_K ?k1 ?k2 (Upd.head (by assumption)) ?_ ?z; (case k1 => k_asm); (case k2 => k_asm); (case z => assumption); k_whole); intro h' F' N'; (try k_sweep)))
  k_with "call builtin:str.join" => ((k_here; (with_reducible show wpAny _ _ (call (Value.builtin "str.join") [Value.str _ _, Value.ref _]) _ _ _); (first | refine join_listW (News.isList (by assumption) (.head _)) (strs_arr (by assumption)) (by decide) (Light.ok (by assumption)) ?_ | refine join_listW (News.isList (by assumption) (.head _)) (strs_push (by assumption) _ _) (by decide) (Light.push (by assumption) (by omega)) ?_); intro _ _))
  trivial
theorem st_push {g h : Heap} {L R : Addr} {vs : List Value} {v : Value} {n : Nat} {r : List (Addr × Obj)} (N : News g L h ((R, W.listOf (vs.toArray.push v) n) :: r)) : News g L h ((R, W.listOf (vs ++ [v]).toArray n) :: r) := by
  rw [← List.push_toArray]; exact N
theorem strip_con (w : World) (loose : List Str) (mean : ExcName → Option Value) (mg mb : Str → Option Value) (news : List (Addr × Obj)) (x : Str) (tx : Tok) (hlx : x.length ≤ 100) (hend : escEnd false (cl x) = false) :
   ∀ (dp un : Nat) (gd : Option (List Code)) (cn : Str) (cs : Scope) (ad : Addr) (ccd : Value) (cls : List (Str × Addr)) (outer : List Env) (A₀ : Around) (base h₀ : Heap) (L : Addr) (m : Str → Option Value) (s : Shared) (Q E : Value → Shared → Prop),
    Below A₀ base outer h₀ → Fr h₀ L s.heap m → (KK w.params).In h₀ → News h₀ L s.heap news → Top QQ loose mean mg mb h₀ → cs.kind = .function →
    dp + 3 < recursionLimit → un + 20 < cLine →
    (∀ (y : Str) (t : Tok) (h' : Heap) (tk' : Nat) (G' : Array GenState), cl y = stripF (cl x) → (G' = s.gens ∨ G' = s.gens.push .finished) → Fr h₀ L h' m → News h₀ L h' news → Q (.str y t) ⟨h', G', s.drawn, tk', s.os⟩) →
      wpAny (model PySem.Challenge.rw_sh0066_01.row.prog w) (ktrTop dp un gd cn cs L ad ccd cls outer) (call (.ref 66) [.str x tx]) Q E s := by
  have hlx2 : x.length ≤ 1000 := Nat.le_trans hlx (by decide)
  k_fill
  intro dp un gd cn cs ad ccd cls outer A₀ base h₀ L m s Q E B F X N T hk hdp hu hret
  refine wpAny_call ?_
  k_dflt cell_enter
  rename_i g1 L1 h1 FG1 F1 N1 B1 X1 T1
  replace F1 := fr_bind F1 (l' := [(Str.ofString "addr", Value.str x tx)]) rfl
  refine execs_cutC 4 (fun J => ∀ h tk t R n, Fr g1 L1 h (ov (fun _ => none) [(Str.ofString "addr", Value.str x tx), (Str.ofString "start", Value.int 0 t), (Str.ofString "open_pos", .none), (Str.ofString "result", .ref R)]) → News g1 L1 h ((R, W.listOf #[] n) :: news) → (∀ p ∈ news, p.1 ≠ R) → J ⟨h, s.gens, s.drawn, tk, s.os⟩) (fun J hJ => ?_) ?_
  · dsimp only [List.take, List.drop]
    k_fold
    tb_start
    · refine hret _ _ _ _ _ ?_ (.inl rfl) (by assumption) (by assumption)
      exact (strip_noq (noq_of (by assumption))).symm
    · rename Fr _ _ _ _ => FF
      exact hJ _ _ _ _ _ (fr_ov3 FF rfl) (by assumption) (fun p hp => Nat.ne_of_lt ((by assumption : ∀ p ∈ news, p.1 < _) p hp))
  · intro h2 tk2 t2 R n2 F2 N2 hRn
    dsimp only [List.take, List.drop]
    obtain ⟨oS, hS⟩ : ∃ oS, g1.get? cStatics = some oS := let ⟨_, ⟨o, _, _, ho, _⟩, _⟩ := T1.nolimit; ⟨o, ho⟩
    clear F1 N1
    refine execs_cutC 1 (fun J => ∀ h tk m led, StJ x tx R news (escs 0 false (cl x)).length m led → Fr g1 L1 h m → News g1 L1 h led → J ⟨h, s.gens.push .finished, s.drawn, tk, s.os⟩) (fun J hJc => ?_) ?_
    · dsimp only [List.take, List.drop]
      refine wpAny_execs_cons (gen_for (its := escs 0 false (cl x)) (d := s.drawn) (os := s.os) (fun G => G = s.gens) (StJ x tx R news) (by with_unfolding_all rfl) (by ktr_room) rfl rfl rfl rfl hS ?hev ?hturn ?hdone)
      case hev =>
        k_fold
        tb_start
        refine .mk _ _ _ _ rfl F2.ns.lt ?_ G9 ⟨F2.ns.keeps hk9, fun b o e => hk9 b o (F2.keep b o e), F2.above⟩ (fun p hp => ⟨hk9 _ _ (N2 p hp).1, (N2 p hp).2⟩) (fun p hp => Heap.lt_size (N2 p hp).1) rfl rfl (.mk _ 0 none [] [] t2 0 n2 rfl ⟨Nat.zero_le _, (fun o e => nomatch e), fun i p c _ _ => ⟨Nat.zero_le _, fun o e => nomatch e⟩⟩ .nil (Nat.zero_le _) (fun y hy => nomatch hy))
        exact Nat.lt_of_lt_of_le (Heap.lt_size hS) (Nat.le_trans F2.above (Nat.le_of_lt F2.ns.lt))
      case hdone =>
        intro G0 m led h' tk' hG hJ FJ NJ
        rw [hG]
        exact wpAny_execs_nil (hJc _ _ _ _ hJ FJ NJ)
      case hturn =>
        intro j p c led4 m led G h tk tkp tku hit hJ FJ NJ hdis K hK
        obtain ⟨u, sp, op, vs, ys, ts, top, n, hst, hspo, hvs, hyl, hyb⟩ := hJ
        have hsp := hspo.1
        have hop := hspo.2.1
        have hgo := hspo.2.2
        clear F2 N2 hJc J hspo
        have hpx := escs_in hit
        have hxl : (cl x).length = x.length := by simp [cl, Str.length]
        rw [hxl] at hpx
        have hRl : ∀ p ∈ news ++ led4, p.1 ≠ R := fun p hp => (List.mem_append.mp hp).elim (hRn p) (hdis _ (.head _) p)
        change News g1 L1 h _ at NJ
        have FK : Fr g1 L1 h (ov u [(Str.ofString "addr", Value.str x tx), (Str.ofString "start", Value.int (sp : Int) ts), (Str.ofString "open_pos", opv op top), (Str.ofString "result", Value.ref R), (Str.ofString "pos", Value.int (p : Int) tkp), (Str.ofString "ch", .str ⟨c.toArray⟩ tku)]) := fr_ov2 FJ rfl
        clear FJ
        have hnx := fold_next hst hit
        have hgo2 : ∀ i q d, j + 1 ≤ i → (escs 0 false (cl x))[i]? = some (q, d) → p < q := fun i q d hi e => escs_lt hit e hi
        have hgj := hgo j p c (Nat.le_refl _) hit
        rw [List.cons_append] at NJ
        have hj1 : j < (escs 0 false (cl x)).length := (List.getElem?_eq_some_iff.mp hit).1
        have hj2 := escs_len (cl x) 0 false
        have hz : vs.toArray.size ≤ sizeLine := by
          have e1 := strsAre_len hvs
          have e2 : vs.toArray.size = vs.length := by simp
          have e3 : 100 ≤ sizeLine := by decide
          omega
        have hled : ∀ (k : Nat), ∀ q ∈ (R, W.listOf vs.toArray k) :: news, (∃ o', (q.1, o') ∈ (R, W.listOf vs.toArray n) :: news) ∨ ∃ x y, q.2.data = .seq x y := fun k q hq => by
          rcases List.mem_cons.mp hq with rfl | hq
          · exact .inl ⟨_, .head _⟩
          · exact .inl ⟨_, .tail _ hq⟩
        cases op with
        | none =>
          dsimp only [opv] at FK
          show wpAny _ _ _ _ _ _
          tb_start
          · rename_i hq _ _ _
            rw [quote_eq] at hq
            have hc : c = [34] := by simpa using hq
            subst hc
            rename Fr g1 L1 _ _ => F9
            refine hK _ _ _ ((R, W.listOf vs.toArray n) :: news) (fr_drop4 (fr_ov F9 rfl)) (by assumption) (hled n) (.mk _ sp (some p) vs ys ts tkp n ?_ ?_ hvs (Nat.le_succ_of_le hyl) hyb)
            · rw [← hnx]; simp [stStep]
            · refine ⟨hsp, fun o e => ?_, fun i q d hi e => ?_⟩
              · cases e; exact ⟨hgj.1, hpx⟩
              · have := hgo2 i q d hi e
                refine ⟨Nat.le_trans hgj.1 (Nat.le_of_lt this), fun o e => ?_⟩
                cases e; exact this
          · rename_i hq
            rw [quote_eq] at hq
            have hc : c ≠ [34] := by simpa using hq
            refine hK _ _ _ ((R, W.listOf vs.toArray n) :: news) (fr_drop4 FK) (by assumption) (hled n) (.mk _ sp none vs ys ts top n ?_ ?_ hvs (Nat.le_succ_of_le hyl) hyb)
            · rw [← hnx]; simp [stStep, hc]
            · exact ⟨hsp, hop, fun i q d hi e => hgo i q d (Nat.le_of_succ_le hi) e⟩
        | some o =>
          dsimp only [opv] at FK
          have hso := hop o rfl
          show wpAny _ _ _ _ _ _
          tb_start
          · have hq : ((⟨c.toArray⟩ : Str) == Str.ofString "\"") = true := by assumption
            have hne : (sp : Int) ≠ (o : Int) := by assumption
            rw [quote_eq] at hq
            have hc : c = [34] := by simpa using hq
            subst hc
            have hne' : sp ≠ o := fun e => hne (by rw [e])
            rename Fr g1 L1 _ _ => F9
            rename News g1 L1 _ _ => N9
            replace N9 := st_push (r := news ++ led4) N9
            refine hK _ _ _ (_ :: news) (fr_drop4 (fr_ov2 F9 rfl)) N9 ?_ (.mk _ (p + 1) none _ (ys ++ [Txt.slice x (some (sp : Int)) (some (o : Int))]) _ top (n + 1) ?_ ?_ (strsAre_snoc hvs _ _) ?_ ?_)
            · intro q hq
              rcases List.mem_cons.mp hq with rfl | hq
              · exact .inl ⟨_, .head _⟩
              · exact .inl ⟨_, .tail _ hq⟩
            · rw [← hnx]; simp [stStep, hne', sl_mid hso.1 (Nat.le_of_lt hso.2)]
            · exact ⟨hpx, (fun o e => nomatch e), fun i q d hi e => ⟨hgo2 i q d hi e, (fun o e => nomatch e)⟩⟩
            · simp only [List.length_append, List.length_cons, List.length_nil]; omega
            · intro y hy
              rcases List.mem_append.mp hy with hy | hy
              · exact hyb y hy
              · rw [List.mem_singleton.mp hy]; omega
          · have hq : ((⟨c.toArray⟩ : Str) == Str.ofString "\"") = true := by assumption
            have hne : (sp : Int) = (o : Int) := by assumption
            rw [quote_eq] at hq
            have hc : c = [34] := by simpa using hq
            subst hc
            have hne' : sp = o := by omega
            rename Fr g1 L1 _ _ => F9
            refine hK _ _ _ ((R, W.listOf vs.toArray n) :: news) (fr_drop4 (fr_ov2 F9 rfl)) (by assumption) (hled n) (.mk _ (p + 1) none vs ys _ top n ?_ ?_ hvs (Nat.le_succ_of_le hyl) hyb)
            · rw [← hnx]; simp [stStep, hne']
            · exact ⟨hpx, (fun o e => nomatch e), fun i q d hi e => ⟨hgo2 i q d hi e, (fun o e => nomatch e)⟩⟩
          · rename_i hq
            rw [quote_eq] at hq
            have hc : c ≠ [34] := by simpa using hq
            refine hK _ _ _ ((R, W.listOf vs.toArray n) :: news) (fr_drop4 FK) (by assumption) (hled n) (.mk _ sp (some o) vs ys ts top n ?_ ?_ hvs (Nat.le_succ_of_le hyl) hyb)
            · rw [← hnx]; simp [stStep, hc]
            · exact ⟨hsp, hop, fun i q d hi e => hgo i q d (Nat.le_of_succ_le hi) e⟩
    · intro h3 tk3 m3 led3 hJ F3 N3
      obtain ⟨u, sp, op, vs, ys, ts, top, n, hst, hspo, hvs, hyl, hyb⟩ := hJ
      have hsp := hspo.1
      have hxl : (cl x).length = x.length := by simp [cl, Str.length]
      have hj2 := escs_len (cl x) 0 false
      have hL := Light.of _ hyb hyl (by omega)
      have hz : vs.toArray.size ≤ sizeLine := by
        have e1 := strsAre_len hvs
        have e2 : vs.toArray.size = vs.length := by simp
        have e3 : 100 ≤ sizeLine := by decide
        omega
      clear F2 N2
      rw [List.take_length] at hst
      dsimp only [List.take, List.drop]
      tb_start
      · rename News h₀ _ _ _ => N9
        refine hret _ _ _ _ _ ?_ (.inr rfl) (by assumption) (fun p hp => N9 p (.tail _ hp))
        rw [cl_join, stripF, ← hst, List.map_append, List.map_cons, List.map_nil, sl_from hsp]
        have : sp < (cl x).length := by omega
        show _ = List.flatten (if sp < (cl x).length then _ else _)
        rw [if_pos this, List.flatten_append]
      · rename News h₀ _ _ _ => N9
        refine hret _ _ _ _ _ ?_ (.inr rfl) (by assumption) (fun p hp => N9 p (.tail _ hp))
        rw [cl_join, stripF, ← hst]
        have : ¬ sp < (cl x).length := by omega
        show _ = List.flatten (if sp < (cl x).length then _ else _)
        rw [if_neg this]


-- PART Sre
theorem lnSre : True := by
  k_with_none
  trivial
/-! NOLINES the pattern's search, where it finds nothing -/
theorem plainAttrs_rep : PlainAttrs "re.Pattern" :=
  ⟨⟨"object.__getattribute__", by rw [typeLookup_type, builtinLookup_eq_fast]; kernel_rfl, by decide +kernel⟩, by rw [typeLookup_type, builtinLookup_eq_fast]; kernel_rfl⟩
theorem slot_rep_search : Slot "re.Pattern" "search" "re.Pattern.search" :=
  .of (owner := "re.Pattern") (n := "search") (by rw [typeLookup_type, builtinLookup_eq_fast]; kernel_rfl) (by decide +kernel) (by decide +kernel) (by decide +kernel)
    (by first | exact .inl (by decide +kernel) | exact .inr (by decide +kernel)) (by rw [isSubtype_type]; kernel_rfl)
theorem type_rep_search : typeOf (.builtin "re.Pattern.search") = pure (.type "method_descriptor") := by show builtinType _ = _; rw [builtinType_eq_fast]; kernel_rfl
theorem entry_rep_search : entryFor table "re.Pattern.search" = some Builtin.«re.Pattern.search» := entryFor_of_tree (by kernel_rfl)
theorem args_rep_search (a b : Value) : argsOk "re.Pattern.search" ⟨[a, b], []⟩ := by
  unfold argsOk; kernel_rfl
open PySem.Builtin.Re in
noncomputable def srFails : Nat → Sre.M → Bool
  | 0, _ => false
  | k + 1, m => match (m.runFor reTurnSteps).outcome with
    | some .failed => true
    | none => srFails k (m.runFor reTurnSteps)
    | _ => false
section
open PySem.Builtin.Re
variable {prog : Program} {w : World} {A : Around} {E : Value → Shared → Prop} {s : Shared}
theorem drive_none : ∀ (k n : Nat) (m : Sre.M) {Q : Sre.M → Shared → Prop}, srFails k m = true → k ≤ n → (∀ m', m'.outcome = some .failed → Q m' s) → wpAny (model prog w) A (reDrive n m) Q E s := by
  intro k
  induction k with
  | zero => intro n m Q h; cases h
  | succ k ih =>
    intro n m Q h hn hQ
    cases n with
    | zero => exact absurd hn (Nat.not_succ_le_zero _)
    | succ n =>
      unfold srFails at h
      unfold reDrive
      dsimp only
      cases ho : (m.runFor reTurnSteps).outcome with
      | none =>
        rw [ho] at h
        rw [if_neg (by simp)]
        refine wpAny_bind (wpAny_rule ?_)
        exact ih n _ h (Nat.le_of_succ_le_succ hn) hQ
      | some o =>
        rw [ho] at h
        cases o with
        | failed => rw [if_pos (by simp)]; exact wpAny_pure (hQ _ ho)
        | matched => cases h
        | stuck y => cases h
theorem runToEnd_none {m : Sre.M} {Q : Option Sre.M → Shared → Prop} (h : srFails 1000 m = true) (hQ : Q none s) : wpAny (model prog w) A (reRunToEnd m) Q E s := by
  unfold reRunToEnd
  refine wpAny_bind (drive_none 1000 _ _ h (by decide) fun m' hm' => ?_)
  refine wpAny_bind (wpAny_forIn_list _ (fun _ _ s' => s' = s) _ (fun x rest b s' hI => ?_) (fun b s' hI => ?_) _ _ rfl)
  · subst hI
    by_cases hx : m'.seen.has x = true
    · rw [if_pos hx]; exact wpAny_bind (wpAny_rule (wpAny_pure rfl))
    · rw [if_neg hx]; exact wpAny_pure rfl
  · subst hI
    rw [hm']
    exact wpAny_pure hQ
noncomputable def reCode (items : Array Value) : Array Nat := (items.map reRawOf).map (·.toNat)
noncomputable def reMiss (items : Array Value) (fs : Array Value) (z : Str) : Bool := srFails 1000 (Sre.forSearch (reCode items) z.cps (reRawNat (fs.getD 2 .none)) 0 z.cps.size false)
theorem search_none {P Cd : Addr} {oP oC : Obj} {fs items : Array Value} {n : Nat} {z : Str} {t : Tok} {Q : Value → Shared → Prop} (hP : s.heap.get? P = some oP) (hcls : oP.cls = .type "re.Pattern") (hfs : oP.data = .fields fs) (h5 : fs.getD 5 .none = .ref Cd) (hC : s.heap.get? Cd = some oC)
    (hitems : oC.data = .seq items n) (h6 : reRawNat (fs.getD 6 .none) = 0) (hz : z.cps.size < 1000) (hmiss : reMiss items fs z = true) (hQ : Q .none s) :
    wpAny (model prog w) A (call (.builtin "re.Pattern.search") [.ref P, .str z t]) Q E s := by
  refine wpAny_call_entry slot_rep_search ⟨_, hP, hcls⟩ entry_rep_search ?_ (args_rep_search _ _)
  unfold Builtin.«re.Pattern.search»
  refine wpAny_bind ?_
  unfold reTarget
  dsimp only
  refine wpAny_bind (wpAny_of_eq (a := [some (.str z t), none, none]) rfl ?_)
  dsimp only
  refine wpAny_bind (wpAny_pure ?_)
  refine wpAny_bind (wpAny_pure ?_)
  refine wpAny_bind (wpAny_fieldsOf hP hfs ?_)
  refine wpAny_bind (wpAny_of_eq (a := (z.cps, 0)) rfl ?_)
  rw [h6]
  dsimp only
  rw [if_neg (by decide), if_neg (by decide)]
  refine wpAny_bind (wpAny_of_eq (a := ()) rfl ?_)
  rw [h5]
  have e1 : min (Int.toNat 0) z.cps.size = 0 := Nat.min_eq_left (Nat.zero_le _)
  have e2 : min ((2 : Int) ^ 63 - 1).toNat z.cps.size = z.cps.size := Nat.min_eq_right (Nat.le_of_lt (Nat.lt_of_lt_of_le hz (by decide)))
  rw [e1, e2]
  refine wpAny_bind ?_
  unfold reRawItems
  refine wpAny_bind (wpAny_seqItems hC hitems (wpAny_pure (wpAny_pure ?_)))
  dsimp only
  unfold reAnswer
  refine wpAny_bind (runToEnd_none hmiss ?_)
  exact wpAny_pure ⟨_, rfl, hQ⟩
noncomputable def MissAt (K : Frag) (P : Addr) (z : Str) : Prop := ∃ oP Cd oC fs items n, K.lookup P = some oP ∧ oP.cls = .type "re.Pattern" ∧ oP.dict = none ∧ oP.data = .fields fs ∧ fs.getD 5 .none = .ref Cd ∧ K.lookup Cd = some oC ∧ oC.data = .seq items n ∧ reRawNat (fs.getD 6 .none) = 0 ∧ z.cps.size < 1000 ∧ reMiss items fs z = true
theorem rep_method {K : Frag} {h₀ : Heap} {L P : Addr} {m : Str → Option Value} {z : Str} {pl : Sem Bool} {Q : Value × List Value → Shared → Prop} (X : K.In h₀) (F : Fr h₀ L s.heap m) (hm : MissAt K P z) (h : Q (.builtin "re.Pattern.search", [.ref P]) s) : wpAny (model prog w) A (getMethod (.ref P) "search" pl) Q E s := by
  obtain ⟨oP, Cd, oC, fs, items, n, h1, h2, h3, _⟩ := hm
  have hP := (X.keeps F.keep) _ _ h1
  exact getMethod_builtin (T := "re.Pattern") ⟨_, hP, h2⟩ plainAttrs_rep slot_rep_search type_rep_search (fun a e => by cases e; exact ⟨_, hP, h3⟩) h
theorem rep_search {K : Frag} {h₀ : Heap} {L P : Addr} {m : Str → Option Value} {z : Str} {t : Tok} {Q : Value → Shared → Prop} (X : K.In h₀) (F : Fr h₀ L s.heap m) (hm : MissAt K P z) (h : Q .none s) : wpAny (model prog w) A (call (.builtin "re.Pattern.search") [.ref P, .str z t]) Q E s := by
  obtain ⟨oP, Cd, oC, fs, items, n, h1, h2, h3, h4, h5, h6, h7, h8, h9, h10⟩ := hm
  exact search_none ((X.keeps F.keep) _ _ h1) h2 h4 h5 ((X.keeps F.keep) _ _ h6) h7 h8 h9 h10 h
end


-- PART Get
theorem lnGet : True := by
  k_with_none
  k_with "call builtin:str.lower" => ((k_here; (with_reducible show wpAny _ _ (call (Value.builtin "str.lower") [Value.str _ _]) _ _ _); (refine SCL.lower (by omega) ?_); intro _))
  k_with "subscriptTail Name Slice str ref" => (((with_reducible show wpAny _ _ (subscriptTail _ (Expr.Slice none (some (Expr.BoolOp _ _ _)) none _) _ _) _ _ _); (with_reducible rename Fr _ _ _ _ => F'); (with_reducible rename News _ _ _ _ => N'); (first | refine slice_strN_nn_len (s := ⟨_, _, _, _, _⟩) F' N' ?_ | refine slice_strN_ns_len (s := ⟨_, _, _, _, _⟩) F' N' ?_); intro _ _ _ _ _ _))
  k_with "tb_start" => (((try (show wpAny _ _ _ _ _ _)); (try k_fold); (repeat' ((fail_if_success (with_reducible show InvEndN _ _ _ _ _ _ _)); first | (k_unfold; (try dsimp only)) | (k_end; wrow_close) | walk1 | (dsimp only; walk1) | (dsimp only; k_unfold; (try dsimp only)) | (leave1; walk_say "STEP leave1"; try dsimp only) | fail "no step")); (all_goals (try dsimp only))))
  k_with "ktr_unf" => (repeat' ((fail_if_success (with_reducible show InvEndN _ _ _ _ _ _ _)); (fail_if_success (with_reducible show wpAny _ _ (exec (Stmt.While _ _ _ _) _) _ _ _)); (fail_if_success (with_reducible show wpAny _ _ (exec (Stmt.For _ _ _ _ _) _) _ _ _)); (fail_if_success (with_reducible show wpAny _ _ (pyIter _) _ _ _)); first | (k_unfold; (try dsimp only)) | (k_end; wrow_close) | walk1 | (dsimp only; walk1) | (dsimp only; k_unfold; (try dsimp only)) | (leave1; walk_say "STEP leave1"; try dsimp only) | fail "no step"))
  k_with "tb_nf" => (((repeat' ((fail_if_success (with_reducible show InvEndN _ _ _ _ _ _ _)); first | (k_unfold; (try dsimp only)) | (k_end; wrow_close) | walk1 | (dsimp only; walk1) | (dsimp only; k_unfold; (try dsimp only)) | (leave1; walk_say "STEP leave1"; try dsimp only) | fail "no step")); (all_goals (try dsimp only))))
  trivial
theorem lnGet_0 : True := by
  k_with "k_room" => (ktr_room)
  k_with "k_enter" => ((refine' code_def ?k1 ?k2 ?k3 ?k4 ?k5 ?kA ?kF ?kK ?k6 ?k7 ?k8 ?k9 ?kB ?_ ?c2 ?c3 ?c4 ?c5; (case kA => exact rfl); (case kF => exact rfl); (case kK => first | assumption | exact rfl); (case k1 => k_asm); (case k2 => k_asm); (case k3 => k_asm); (case k4 => k_asm); (case k5 => k_asm); (case k6 => k_is); (case k7 => k_is); (case k8 => ktr_room); (case k9 => first | exact BindsTo.of_eq rfl | exact binds_K (by k_in) rfl (by k_is) rfl rfl rfl | fail "k_enter: no rule for these arguments"); (case c5 => decide); (case kB => exact locs rfl); (case c2 => exact rfl); (case c3 => exact rfl); (case c4 => exact rfl); k_whole; intro g' L' h' FG' F' N' B' X' T'; (try dsimp only); (try k_lift B'); (try k_fold)))
  k_with "getMethod ref" => ((k_here; (with_reducible show wpAny _ _ (getMethod (Value.ref _) _ _) _ _ _); refine' rep_method ?X ?F ?m ?_; (case X => k_asm); (case F => k_asm); (case m => assumption)))
  k_with "call builtin:re.Pattern.search" => ((k_here; (with_reducible show wpAny _ _ (call (Value.builtin "re.Pattern.search") [Value.ref _, Value.str _ _]) _ _ _); refine' rep_search ?X ?F ?m ?_; (case X => k_asm); (case F => k_asm); (case m => assumption)))
  trivial
noncomputable def strKey (v : Value) (z : Str) : Bool := match v with | .str k _ => Txt.lower k == z | _ => false
noncomputable def hitV : List (Addr × Value × Value) → Str → Value
  | [], _ => .none
  | e :: r, z => if strKey e.2.1 z = true then e.2.2 else hitV r z
theorem hitV_skip : ∀ (es : List (Addr × Value × Value)) (z : Str) (j : Nat), (∀ i < j, ∀ e, es[i]? = some e → strKey e.2.1 z = false) → hitV es z = hitV (es.drop j) z
  | [], z, j, _ => by simp
  | e :: r, z, 0, _ => rfl
  | e :: r, z, j + 1, h => by
    have h0 := h 0 (Nat.succ_pos _) e rfl
    show (if strKey e.2.1 z = true then e.2.2 else hitV r z) = hitV (r.drop j) z
    rw [h0, if_neg (by simp)]
    exact hitV_skip r z j fun i hi e' he => h (i + 1) (Nat.succ_lt_succ hi) e' he
theorem get_con (w : World) (loose : List Str) (mean : ExcName → Option Value) (mg mb : Str → Option Value) (led : List (Addr × Obj)) (H D R : Addr) (hsh : Int) (tkh : Tok) (nd n : Nat) (es : List (Addr × Value × Value)) (z : Str) (tz : Tok) (hz : z.length ≤ 30)
   (hml : MissAt (KK w.params) 81 (Txt.lower z)) (hes : ∀ e ∈ es, ∃ k tk, e.2.1 = .str k tk ∧ k.length ≤ 30)
   (hH : (H, instObj 209 D) ∈ led) (hD : (D, dictOf [⟨hsh, .str (Str.ofString "_headers") tkh, Value.ref R⟩] nd) ∈ led) (hR : (R, W.listOf (es.map fun e => Value.ref e.1).toArray n) ∈ led) (hT : ∀ e ∈ es, (e.1, pairObj e.2.1 e.2.2) ∈ led) :
   ∀ (dp un : Nat) (gd : Option (List Code)) (cn : Str) (cs : Scope) (ad : Addr) (ccd : Value) (cls : List (Str × Addr)) (outer : List Env) (A₀ : Around) (base h₀ : Heap) (L : Addr) (m : Str → Option Value) (s : Shared) (Q E : Value → Shared → Prop),
    Below A₀ base outer h₀ → Fr h₀ L s.heap m → (KK w.params).In h₀ → News h₀ L s.heap led → Top QQ loose mean mg mb h₀ → cs.kind = .function →
    dp + 5 < recursionLimit → un + 30 < cLine →
    (∀ (h' : Heap) (tk' : Nat), Fr h₀ L h' m → News h₀ L h' led → Q (hitV es (Txt.lower z)) ⟨h', s.gens, s.drawn, tk', s.os⟩) →
      wpAny (model PySem.Challenge.rw_sh0066_01.row.prog w) (ktrTop dp un gd cn cs L ad ccd cls outer) (call (.ref 156) [.ref H, .str z tz]) Q E s := by
  revert hml
  k_fill
  intro hml dp un gd cn cs ad ccd cls outer A₀ base h₀ L m s Q E B F X N T hk hdp hu hret
  have hret' : ∀ (v : Value) (h' : Heap) (tk' : Nat), v = hitV es (Txt.lower z) → Fr h₀ L h' m → News h₀ L h' ((R, W.listOf (es.map fun e => Value.ref e.1).toArray n) :: (H, instObj 209 D) :: (D, dictOf [⟨hsh, .str (Str.ofString "_headers") tkh, Value.ref R⟩] nd) :: led) → Q v ⟨h', s.gens, s.drawn, tk', s.os⟩ := fun v h' tk' e F' N' => e ▸ hret h' tk' F' fun p hp => N' p (.tail _ (.tail _ (.tail _ hp)))
  replace N : News h₀ L s.heap ((R, W.listOf (es.map fun e => Value.ref e.1).toArray n) :: (H, instObj 209 D) :: (D, dictOf [⟨hsh, .str (Str.ofString "_headers") tkh, Value.ref R⟩] nd) :: led) := fun p hp => by
    rcases List.mem_cons.mp hp with rfl | hp
    · exact N _ hR
    rcases List.mem_cons.mp hp with rfl | hp
    · exact N _ hH
    rcases List.mem_cons.mp hp with rfl | hp
    · exact N _ hD
    exact N p hp
  clear hret
  refine wpAny_call ?_
  k_enter
  revert g' L' h' FG' F' N' B' X' T'; intro g1 L1 h1 FG1 F1 N1 B1 X1 T1
  replace F1 := fr_bind F1 (l' := [(Str.ofString "default", Value.none), (Str.ofString "name", Value.str z tz), (Str.ofString "self", Value.ref H)]) rfl
  refine execs_cut 1 (fun s' => Hold (∃ h tk t, s' = ⟨h, s.gens, s.drawn, tk, s.os⟩ ∧ Fr g1 L1 h (ov (fun _ => none) [(Str.ofString "default", Value.none), (Str.ofString "name", Value.str (Txt.lower z) t), (Str.ofString "self", Value.ref H)]) ∧ News g1 L1 h ((R, W.listOf (es.map fun e => Value.ref e.1).toArray n) :: (H, instObj 209 D) :: (D, dictOf [⟨hsh, .str (Str.ofString "_headers") tkh, Value.ref R⟩] nd) :: led))) ?_ ?_
  · dsimp only [List.take, List.drop]
    k_fold
    tb_start
    rename Fr _ _ _ _ => FF
    simp only [ov_app] at FF
    exact ⟨_, _, _, rfl, fr_fix FF rfl, by assumption⟩
  · clear F1 N1
    rintro s' ⟨h2, tk2, t2, rfl, F2, N2⟩
    dsimp only [List.take, List.drop]
    refine execs_cut 1 (fun s' => Hold (∃ h tk rest, s' = ⟨h, s.gens, s.drawn, tk, s.os⟩ ∧ Fr g1 L1 h (ov (fun _ => none) ([(Str.ofString "default", Value.none), (Str.ofString "name", Value.str (Txt.lower z) t2), (Str.ofString "self", Value.ref H)] ++ rest)) ∧ News g1 L1 h ((R, W.listOf (es.map fun e => Value.ref e.1).toArray n) :: (H, instObj 209 D) :: (D, dictOf [⟨hsh, .str (Str.ofString "_headers") tkh, Value.ref R⟩] nd) :: led) ∧ .none = hitV es (Txt.lower z))) ?_ ?_
    · dsimp only [List.take, List.drop]
      refine wpAny_execs_cons ?_
      refine pair_for' (es := es) (fun j m => (∃ rest, (rest = [] ∨ ∃ vk vv, rest = [(Str.ofString "k", vk), (Str.ofString "v", vv)]) ∧ m = ov (fun _ => none) ([(Str.ofString "default", Value.none), (Str.ofString "name", Value.str (Txt.lower z) t2), (Str.ofString "self", Value.ref H)] ++ rest)) ∧ ∀ i < j, ∀ e, es[i]? = some e → strKey e.2.1 (Txt.lower z) = false) F2 N2 rfl (.head _) (fun e he => .tail _ (.tail _ (.tail _ (hT e he)))) rfl rfl rfl rfl ?h ?turn ?done
      case h =>
        show wpAny _ _ _ _ _ _
        tb_start
        exact Hold.mk ⟨_, _, _, rfl, rfl, by assumption, by assumption, ⟨[], .inl rfl, rfl⟩, fun i hi => absurd hi (Nat.not_lt_zero _)⟩
      case turn =>
        rintro j e m5 I oI h5 tk5 hj ⟨⟨rest, hrest, rfl⟩, hno⟩ F5 N5 hI
        obtain ⟨k, tkk, hk1, hk2⟩ := hes e (List.mem_of_getElem? hj)
        rw [hk1] at F5
        have FK : Fr g1 L1 h5 (ov (fun _ => none) ([(Str.ofString "default", Value.none), (Str.ofString "name", Value.str (Txt.lower z) t2), (Str.ofString "self", Value.ref H), (Str.ofString "k", .str k tkk), (Str.ofString "v", e.2.2)])) := by
          rcases hrest with rfl | ⟨vk, vv, rfl⟩
          · simp only [ov_app] at F5
            exact fr_fix F5 rfl
          · simp only [ov_app] at F5
            exact fr_fix F5 rfl
        clear F5 F2 N2
        show wpAny _ _ _ _ _ _
        tb_start
        · rename News h₀ _ _ _ => N9
          refine hret' _ _ _ ?_ (by assumption) (fun p hp => N9 p (.tail _ hp))
          rw [hitV_skip es _ j hno]
          obtain ⟨hjl, hje⟩ := List.getElem?_eq_some_iff.mp hj
          rw [List.drop_eq_getElem_cons hjl, hje]
          show _ = if strKey e.2.1 (Txt.lower z) = true then e.2.2 else _
          rw [hk1]
          exact (if_pos (by assumption)).symm
        · refine Hold.mk ⟨_, _, _, rfl, FK, by assumption, ⟨[_, _], .inr ⟨_, _, rfl⟩, rfl⟩, fun i hi e' he' => ?_⟩
          by_cases hij : i = j
          · subst hij
            rw [hj] at he'
            cases he'
            rw [hk1]
            assumption
          · exact hno i (Nat.lt_of_le_of_ne (Nat.le_of_lt_succ hi) hij) e' he'
      case done =>
        rintro m5 h5 tk5 ⟨⟨rest, hrest, rfl⟩, hno⟩ F5 N5
        refine wpAny_execs_nil ⟨h5, tk5, rest, rfl, F5, N5, ?_⟩
        rw [hitV_skip es _ es.length hno, List.drop_length]; rfl
    · rintro s' ⟨h3, tk3, rest, rfl, F3, N3, hv⟩
      dsimp only [List.take, List.drop]
      tb_start
      exact hret' _ _ _ hv (by assumption) (by assumption)


-- PART Setd
theorem lnSetd : True := by
  k_with_none
  k_with "call builtin:str.lower" => ((k_here; (with_reducible show wpAny _ _ (call (Value.builtin "str.lower") [Value.str _ _]) _ _ _); (refine SCL.lower (by omega) ?_); intro _))
  k_with "subscriptTail Name Slice str ref" => (((with_reducible show wpAny _ _ (subscriptTail _ (Expr.Slice none (some (Expr.BoolOp _ _ _)) none _) _ _) _ _ _); (with_reducible rename Fr _ _ _ _ => F'); (with_reducible rename News _ _ _ _ => N'); (first | refine slice_strN_nn_len (s := ⟨_, _, _, _, _⟩) F' N' ?_ | refine slice_strN_ns_len (s := ⟨_, _, _, _, _⟩) F' N' ?_); intro _ _ _ _ _ _))
  k_with "tb_start" => (((try (show wpAny _ _ _ _ _ _)); (try k_fold); (repeat' ((fail_if_success (with_reducible show InvEndN _ _ _ _ _ _ _)); first | (k_unfold; (try dsimp only)) | (k_end; wrow_close) | walk1 | (dsimp only; walk1) | (dsimp only; k_unfold; (try dsimp only)) | (leave1; walk_say "STEP leave1"; try dsimp only) | fail "no step")); (all_goals (try dsimp only))))
  k_with "ktr_unf" => (repeat' ((fail_if_success (with_reducible show InvEndN _ _ _ _ _ _ _)); (fail_if_success (with_reducible show wpAny _ _ (exec (Stmt.While _ _ _ _) _) _ _ _)); (fail_if_success (with_reducible show wpAny _ _ (exec (Stmt.For _ _ _ _ _) _) _ _ _)); (fail_if_success (with_reducible show wpAny _ _ (pyIter _) _ _ _)); first | (k_unfold; (try dsimp only)) | (k_end; wrow_close) | walk1 | (dsimp only; walk1) | (dsimp only; k_unfold; (try dsimp only)) | (leave1; walk_say "STEP leave1"; try dsimp only) | fail "no step"))
  k_with "tb_nf" => (((repeat' ((fail_if_success (with_reducible show InvEndN _ _ _ _ _ _ _)); first | (k_unfold; (try dsimp only)) | (k_end; wrow_close) | walk1 | (dsimp only; walk1) | (dsimp only; k_unfold; (try dsimp only)) | (leave1; walk_say "STEP leave1"; try dsimp only) | fail "no step")); (all_goals (try dsimp only))))
  trivial
theorem get_none (w : World) (loose : List Str) (mean : ExcName → Option Value) (mg mb : Str → Option Value) (led : List (Addr × Obj)) (H D R : Addr) (hsh : Int) (tkh : Tok) (nd n : Nat) (es : List (Addr × Value × Value)) (z : Str) (tz : Tok) (hz : z.length ≤ 30)
   (hml : MissAt (KK w.params) 81 (Txt.lower z)) (hes : ∀ e ∈ es, ∃ k tk, e.2.1 = .str k tk ∧ k.length ≤ 30) (hno : hitV es (Txt.lower z) = .none)
   (hH : (H, instObj 209 D) ∈ led) (hD : (D, dictOf [⟨hsh, .str (Str.ofString "_headers") tkh, Value.ref R⟩] nd) ∈ led) (hR : (R, W.listOf (es.map fun e => Value.ref e.1).toArray n) ∈ led) (hT : ∀ e ∈ es, (e.1, pairObj e.2.1 e.2.2) ∈ led) :
   ∀ (dp un : Nat) (gd : Option (List Code)) (cn : Str) (cs : Scope) (ad : Addr) (ccd : Value) (cls : List (Str × Addr)) (outer : List Env) (A₀ : Around) (base h₀ : Heap) (L : Addr) (m : Str → Option Value) (s : Shared) (Q E : Value → Shared → Prop),
    Below A₀ base outer h₀ → Fr h₀ L s.heap m → (KK w.params).In h₀ → News h₀ L s.heap led → Top QQ loose mean mg mb h₀ → cs.kind = .function →
    dp + 5 < recursionLimit → un + 30 < cLine →
    (∀ (h' : Heap) (tk' : Nat), Fr h₀ L h' m → News h₀ L h' led → Q .none ⟨h', s.gens, s.drawn, tk', s.os⟩) →
      wpAny (model PySem.Challenge.rw_sh0066_01.row.prog w) (ktrTop dp un gd cn cs L ad ccd cls outer) (call (.ref 156) [.ref H, .str z tz]) Q E s :=
  fun dp un gd cn cs ad ccd cls outer A₀ base h₀ L m s Q E B F X N T hk hdp hu hret => get_con w loose mean mg mb led H D R hsh tkh nd n es z tz hz hml hes hH hD hR hT dp un gd cn cs ad ccd cls outer A₀ base h₀ L m s Q E B F X N T hk hdp hu (hno ▸ hret)
theorem lnSetd_0 : True := by
  k_with "k_room" => (ktr_room)
  k_with "k_enter" => ((refine' code_def ?k1 ?k2 ?k3 ?k4 ?k5 ?kA ?kF ?kK ?k6 ?k7 ?k8 ?k9 ?kB ?_ ?c2 ?c3 ?c4 ?c5; (case kA => exact rfl); (case kF => exact rfl); (case kK => first | assumption | exact rfl); (case k1 => k_asm); (case k2 => k_asm); (case k3 => k_asm); (case k4 => k_asm); (case k5 => k_asm); (case k6 => k_is); (case k7 => k_is); (case k8 => ktr_room); (case k9 => first | exact BindsTo.of_eq rfl | exact binds_K (by k_in) rfl (by k_is) rfl rfl rfl | fail "k_enter: no rule for these arguments"); (case c5 => decide); (case kB => exact locs rfl); (case c2 => exact rfl); (case c3 => exact rfl); (case c4 => exact rfl); k_whole; intro g' L' h' FG' F' N' B' X' T'; (try dsimp only); (try k_lift B'); (try k_fold)))
  k_with "getMethod ref" => ((k_here; (with_reducible show wpAny _ _ (getMethod (Value.ref _) _ _) _ _ _); refine' rep_method ?X ?F ?m ?_; (case X => k_asm); (case F => k_asm); (case m => assumption)))
  k_with "call builtin:re.Pattern.search" => ((k_here; (with_reducible show wpAny _ _ (call (Value.builtin "re.Pattern.search") [Value.ref _, Value.str _ _]) _ _ _); refine' rep_search ?X ?F ?m ?_; (case X => k_asm); (case F => k_asm); (case m => assumption)))
  k_with "call ref" => ((k_here; k_dflt ((show wpAny _ _ (call (Value.ref 156) _) _ _ _); (refine' get_none _ _ _ _ _ _ _ _ _ _ _ _ _ _ _ _ ?hz ?ml ?es ?no ?H ?D ?R ?TT _ _ _ _ _ _ _ _ _ _ _ _ _ _ _ _ _ ?B ?F ?X ?N ?T ?kk ?kd ?ku ?_); (case B => k_asm); (case F => k_asm); (case X => k_asm); (case N => k_asm); (case T => k_asm); (case H => assumption); (case D => assumption); (case R => assumption); (case hz => assumption); (case ml => assumption); (case es => assumption); (case no => assumption); (case TT => assumption); (case kk => first | exact rfl | assumption); (case kd => ktr_room); (case ku => ktr_units); k_whole; intro h9 tk9 F9 N9; (try dsimp only))))
  trivial
theorem ne_of_news {h₀ h : Heap} {L a b : Addr} {led : List (Addr × Obj)} {x y : Value} {vs : Array Value} {n : Nat} (N : News h₀ L h led) (h1 : (a, pairObj x y) ∈ led) (h2 : (b, W.listOf vs n) ∈ led) : a ≠ b := fun e => by
  subst e
  have e1 := (N _ h1).1.symm.trans (N _ h2).1
  have e2 := congrArg (fun o : Option Obj => o.map (·.cls)) e1
  simp [pairObj] at e2
theorem lnSetd_1 : True := by
  k_with "call builtin:list.append" => ((k_here; k_dflt ((with_reducible show wpAny _ _ (call (Value.builtin _) [Value.ref _, _]) _ _ _); (refine' append_K ?k1 ?k2 (Upd.tail (ne_of_news (by assumption) (.head _) (.tail _ (.head _))) (Upd.head (by assumption))) ?_ ?z); (case k1 => k_asm); (case k2 => k_asm); (case z => assumption); k_whole; intro h' F' N'; (try k_sweep))))
  trivial
theorem setd_con (w : World) (loose : List Str) (mean : ExcName → Option Value) (mg mb : Str → Option Value) (rest : List (Addr × Obj)) (H D R : Addr) (hsh : Int) (tkh : Tok) (nd n : Nat) (es : List (Addr × Value × Value)) (z y : Str) (tz ty : Tok) (hz : z.length ≤ 30) (hy : y.length ≤ 1000) (hel : (es.map fun e => Value.ref e.1).toArray.size ≤ sizeLine)
   (hml : MissAt (KK w.params) 81 (Txt.lower z)) (hmz : MissAt (KK w.params) 81 z) (hmy : MissAt (KK w.params) 86 y) (hes : ∀ e ∈ es, ∃ k tk, e.2.1 = .str k tk ∧ k.length ≤ 30) (hno : hitV es (Txt.lower z) = .none)
   (hH : (H, instObj 209 D) ∈ rest) (hD : (D, dictOf [⟨hsh, .str (Str.ofString "_headers") tkh, Value.ref R⟩] nd) ∈ rest) (hRn : ∀ p ∈ rest, p.1 ≠ R) (hT : ∀ e ∈ es, (e.1, pairObj e.2.1 e.2.2) ∈ rest) :
   ∀ (dp un : Nat) (gd : Option (List Code)) (cn : Str) (cs : Scope) (ad : Addr) (ccd : Value) (cls : List (Str × Addr)) (outer : List Env) (A₀ : Around) (base h₀ : Heap) (L : Addr) (m : Str → Option Value) (s : Shared) (Q E : Value → Shared → Prop),
    Below A₀ base outer h₀ → Fr h₀ L s.heap m → (KK w.params).In h₀ → News h₀ L s.heap ((R, W.listOf (es.map fun e => Value.ref e.1).toArray n) :: rest) → Top QQ loose mean mg mb h₀ → cs.kind = .function →
    dp + 8 < recursionLimit → un + 60 < cLine →
    (∀ (h' : Heap) (tk' : Nat) (T : Addr), Fr h₀ L h' m → News h₀ L h' ((R, W.listOf ((es ++ [(T, Value.str z tz, Value.str y ty)]).map fun e => Value.ref e.1).toArray (n + 1)) :: (T, pairObj (.str z tz) (.str y ty)) :: rest) → T ≠ R → Q (.str y ty) ⟨h', s.gens, s.drawn, tk', s.os⟩) →
      wpAny (model PySem.Challenge.rw_sh0066_01.row.prog w) (ktrTop dp un gd cn cs L ad ccd cls outer) (call (.ref 199) [.ref H, .str z tz, .str y ty]) Q E s := by
  revert hml hmz hmy
  k_fill
  intro hml hmz hmy dp un gd cn cs ad ccd cls outer A₀ base h₀ L m s Q E B F X N T hk hdp hu hret
  replace N : News h₀ L s.heap ((R, W.listOf (es.map fun e => Value.ref e.1).toArray n) :: (H, instObj 209 D) :: (D, dictOf [⟨hsh, .str (Str.ofString "_headers") tkh, Value.ref R⟩] nd) :: rest) := fun p hp => by
    rcases List.mem_cons.mp hp with rfl | hp
    · exact N _ (.head _)
    rcases List.mem_cons.mp hp with rfl | hp
    · exact N _ (.tail _ hH)
    rcases List.mem_cons.mp hp with rfl | hp
    · exact N _ (.tail _ hD)
    exact N p (.tail _ hp)
  have hT3 : ∀ e ∈ es, (e.1, pairObj e.2.1 e.2.2) ∈ ((R, W.listOf (es.map fun e => Value.ref e.1).toArray n) :: (H, instObj 209 D) :: (D, dictOf [⟨hsh, .str (Str.ofString "_headers") tkh, Value.ref R⟩] nd) :: rest) := fun e he => .tail _ (.tail _ (.tail _ (hT e he)))
  have hH3 : (H, instObj 209 D) ∈ ((R, W.listOf (es.map fun e => Value.ref e.1).toArray n) :: (H, instObj 209 D) :: (D, dictOf [⟨hsh, .str (Str.ofString "_headers") tkh, Value.ref R⟩] nd) :: rest) := .tail _ (.head _)
  have hD3 : (D, dictOf [⟨hsh, .str (Str.ofString "_headers") tkh, Value.ref R⟩] nd) ∈ ((R, W.listOf (es.map fun e => Value.ref e.1).toArray n) :: (H, instObj 209 D) :: (D, dictOf [⟨hsh, .str (Str.ofString "_headers") tkh, Value.ref R⟩] nd) :: rest) := .tail _ (.tail _ (.head _))
  have hR3 : (R, W.listOf (es.map fun e => Value.ref e.1).toArray n) ∈ ((R, W.listOf (es.map fun e => Value.ref e.1).toArray n) :: (H, instObj 209 D) :: (D, dictOf [⟨hsh, .str (Str.ofString "_headers") tkh, Value.ref R⟩] nd) :: rest) := .head _
  have hRn3 : ∀ p ∈ ((H, instObj 209 D) :: (D, dictOf [⟨hsh, .str (Str.ofString "_headers") tkh, Value.ref R⟩] nd) :: rest), p.1 ≠ R := fun p hp => by
    rcases List.mem_cons.mp hp with rfl | hp
    · exact hRn _ hH
    rcases List.mem_cons.mp hp with rfl | hp
    · exact hRn _ hD
    exact hRn p hp
  refine wpAny_call ?_
  k_enter
  revert g' L' h' FG' F' N' B' X' T'; intro g1 L1 h1 FG1 F1 N1 B1 X1 T1
  replace F1 := fr_bind F1 (l' := [(Str.ofString "value", Value.str y ty), (Str.ofString "name", Value.str z tz), (Str.ofString "self", Value.ref H)]) rfl
  show wpAny _ _ _ _ _ _
  tb_start
  rename News _ _ _ _ => N9
  have hne := ne_of_news N9 (.head _) (.tail _ (.head _))
  (refine' append_K ?k1 N9 (Upd.tail hne (Upd.head hRn3)) ?_ ?z)
  (case k1 => k_asm)
  (case z => assumption)
  clear N9
  intro h5 F5 N5
  dsimp only
  tb_start
  rename News h₀ _ _ _ => N10
  refine hret _ _ _ (by assumption) (fun p hp => ?_) hne
  have e : ∀ (T : Addr), ((es ++ [(T, Value.str z tz, Value.str y ty)]).map fun e => Value.ref e.1).toArray = (es.map fun e => Value.ref e.1).toArray.push (Value.ref T) := fun T => by simp
  rw [e] at hp
  rcases List.mem_cons.mp hp with rfl | hp
  · exact N10 _ (.tail _ (.head _))
  rcases List.mem_cons.mp hp with rfl | hp
  · exact N10 _ (.head _)
  exact N10 p (.tail _ (.tail _ (.tail _ (.tail _ hp))))


-- PART TabP
theorem lnTabP : True := by
  k_with_none
  trivial
/-! NOLINES the table's fold -/
noncomputable abbrev TSt := Str × Nat × List (Str × Str)
noncomputable def tabStep (st : TSt) (e : Nat × List Nat) : TSt :=
  if e.2 = [40] then (st.1 ++ ⟨#[107 + st.2.1]⟩, st.2.1 + 1, st.2.2) else if e.2 = [41] then (Txt.slice st.1 none (some (-1)), st.2.1, st.2.2)
  else (st.1, st.2.1, st.2.2 ++ [(⟨e.2.toArray⟩, if Txt.isupper ⟨e.2.toArray⟩ = true then Txt.upper st.1 else st.1)])
noncomputable def tabAt (l : List Nat) (j : Nat) : TSt := ((escs 0 false l).take j).foldl tabStep (Str.ofString "", 0, [])
theorem tabAt_next {l : List Nat} {j : Nat} {e : Nat × List Nat} (h : (escs 0 false l)[j]? = some e) : tabAt l (j + 1) = tabStep (tabAt l j) e := (fold_next rfl h).symm
theorem tabAt_le (l : List Nat) : ∀ j, (tabAt l j).1.length ≤ j ∧ (tabAt l j).2.1 ≤ j ∧ (tabAt l j).2.2.length ≤ j
  | 0 => by
    have e : (Str.ofString "").length = 0 := by decide +kernel
    refine ⟨?_, Nat.le_refl _, Nat.le_refl _⟩
    show (Str.ofString "").length ≤ 0
    omega
  | j + 1 => by
    have ih := tabAt_le l j
    cases h : (escs 0 false l)[j]? with
    | none =>
      have e : tabAt l (j + 1) = tabAt l j := by
        unfold tabAt
        rw [List.take_add_one, h]; simp
      rw [e]; omega
    | some e =>
      rw [tabAt_next h]
      unfold tabStep
      split
      · have e1 : ((tabAt l j).1 ++ (⟨#[107 + (tabAt l j).2.1]⟩ : Str)).length = (tabAt l j).1.length + 1 := by
          show ((tabAt l j).1.cps ++ #[107 + (tabAt l j).2.1]).size = (tabAt l j).1.cps.size + 1
          simp
        dsimp only
        omega
      · split
        · have := Txt.slice_le (tabAt l j).1 none (some (-1))
          dsimp only
          omega
        · dsimp only
          simp only [List.length_append, List.length_cons, List.length_nil]
          omega


-- PART Table2
theorem lnTable2 : True := by
  k_with_none
  k_with "call builtin:str.lower" => ((k_here; (with_reducible show wpAny _ _ (call (Value.builtin "str.lower") [Value.str _ _]) _ _ _); (refine SCL.lower (by omega) ?_); intro _))
  k_with "subscriptTail Name Slice str ref" => (((with_reducible show wpAny _ _ (subscriptTail _ (Expr.Slice none (some (Expr.BoolOp _ _ _)) none _) _ _) _ _ _); (with_reducible rename Fr _ _ _ _ => F'); (with_reducible rename News _ _ _ _ => N'); (first | refine slice_strN_nn_len (s := ⟨_, _, _, _, _⟩) F' N' ?_ | refine slice_strN_ns_len (s := ⟨_, _, _, _, _⟩) F' N' ?_); intro _ _ _ _ _ _))
  k_with "tb_start" => (((try (show wpAny _ _ _ _ _ _)); (try k_fold); (repeat' ((fail_if_success (with_reducible show InvEndN _ _ _ _ _ _ _)); first | (k_unfold; (try dsimp only)) | (k_end; wrow_close) | walk1 | (dsimp only; walk1) | (dsimp only; k_unfold; (try dsimp only)) | (leave1; walk_say "STEP leave1"; try dsimp only) | fail "no step")); (all_goals (try dsimp only))))
  k_with "ktr_unf" => (repeat' ((fail_if_success (with_reducible show InvEndN _ _ _ _ _ _ _)); (fail_if_success (with_reducible show wpAny _ _ (exec (Stmt.While _ _ _ _) _) _ _ _)); (fail_if_success (with_reducible show wpAny _ _ (exec (Stmt.For _ _ _ _ _) _) _ _ _)); (fail_if_success (with_reducible show wpAny _ _ (pyIter _) _ _ _)); first | (k_unfold; (try dsimp only)) | (k_end; wrow_close) | walk1 | (dsimp only; walk1) | (dsimp only; k_unfold; (try dsimp only)) | (leave1; walk_say "STEP leave1"; try dsimp only) | fail "no step"))
  k_with "tb_nf" => (((repeat' ((fail_if_success (with_reducible show InvEndN _ _ _ _ _ _ _)); first | (k_unfold; (try dsimp only)) | (k_end; wrow_close) | walk1 | (dsimp only; walk1) | (dsimp only; k_unfold; (try dsimp only)) | (leave1; walk_say "STEP leave1"; try dsimp only) | fail "no step")); (all_goals (try dsimp only))))
  trivial
/-! what the table computes -/
theorem strip_y {x y : Str} (hy : cl y = stripF (cl x)) (h : (stripF (cl x)).length ≤ 100 ∧ escEnd false (stripF (cl x)) = false) : y.length ≤ 1000 ∧ escEnd false (cl y) = false := by
  have e : y.length = (cl y).length := by simp [cl, Str.length]
  rw [hy] at e
  exact ⟨by omega, by rw [hy]; exact h.2⟩
theorem flat_int {v : Value} {d : PyData} {k : Int} (h : PyProof.V.Flat v d) (e : d = .int k) : ∃ t, v = .int k t := by
  subst e
  have h' := h default
  cases h'
  exact ⟨_, rfl⟩
noncomputable def leafList : List (List Nat) := [[97], [98], [99], [100], [65], [66], [67], [68], [92, 40], [92, 41], [92, 34], [92, 92]]
noncomputable def kindC (c : List Nat) : Int := if c = [40] then 7 else if c = [41] then 8 else 256
noncomputable def TokOk (c : List Nat) : Prop := c = [40] ∨ c = [41] ∨ c ∈ leafList
/-- the entries' tuples: names and ways, with some tokens -/
inductive EntsAre : List (Addr × Value × Value) → List (Str × Str) → Prop
  | nil : EntsAre [] []
  | cons (T : Addr) (n v : Str) (t u : Tok) {es ents} : EntsAre es ents → EntsAre ((T, .str n t, .str v u) :: es) ((n, v) :: ents)
theorem EntsAre.snoc {es ents} (h : EntsAre es ents) (T : Addr) (n v : Str) (t u : Tok) : EntsAre (es ++ [(T, .str n t, .str v u)]) (ents ++ [(n, v)]) := by
  induction h with
  | nil => exact .cons T n v t u .nil
  | cons T' n' v' t' u' _ ih => exact .cons T' n' v' t' u' ih
theorem EntsAre.len {es ents} (h : EntsAre es ents) : es.length = ents.length := by
  induction h with
  | nil => rfl
  | cons _ _ _ _ _ _ ih => simp [ih]
theorem EntsAre.miss {es ents} (h : EntsAre es ents) (z : Str) (hz : ∀ n ∈ ents, (Txt.lower n.1 == z) = false) : hitV es z = .none := by
  induction h with
  | nil => rfl
  | cons T n v t u _ ih =>
    show (if (Txt.lower n == z) = true then _ else _) = _
    rw [hz _ (.head _), if_neg (by simp)]
    exact ih fun n' hn' => hz n' (.tail _ hn')
theorem EntsAre.keys {es ents} (h : EntsAre es ents) (hk : ∀ n ∈ ents, n.1.length ≤ 30) : ∀ e ∈ es, ∃ k tk, e.2.1 = .str k tk ∧ k.length ≤ 30 := by
  induction h with
  | nil => intro e he; exact nomatch he
  | cons T n v t u _ ih =>
    intro e he
    rcases List.mem_cons.mp he with rfl | he
    · exact ⟨n, t, rfl, hk _ (.head _)⟩
    · exact ih (fun n' hn' => hk n' (.tail _ hn')) e he
theorem tok_len {c : List Nat} (h : TokOk c) : (⟨c.toArray⟩ : Str).length ≤ 30 := by
  rcases h with rfl | rfl | hc
  · decide
  · decide
  · simp only [leafList, List.mem_cons, List.not_mem_nil, or_false] at hc
    rcases hc with rfl | rfl | rfl | rfl | rfl | rfl | rfl | rfl | rfl | rfl | rfl | rfl <;> decide
theorem tabAt_keys {l : List Nat} (ht : ∀ e ∈ escs 0 false l, TokOk e.2) : ∀ j, ∀ n ∈ (tabAt l j).2.2, n.1.length ≤ 30
  | 0 => fun n hn => nomatch hn
  | j + 1 => by
    have ih := tabAt_keys ht j
    cases h : (escs 0 false l)[j]? with
    | none =>
      have e : tabAt l (j + 1) = tabAt l j := by
        unfold tabAt
        rw [List.take_add_one, h]; simp
      rw [e]; exact ih
    | some e =>
      rw [tabAt_next h]
      unfold tabStep
      split
      · exact ih
      · split
        · exact ih
        · intro n hn
          rcases List.mem_append.mp hn with hn | hn
          · exact ih n hn
          · rw [List.mem_singleton.mp hn]
            exact tok_len (ht e (List.mem_of_getElem? h))
/-- what the table wants of a text -/
structure TabOk (K : Frag) (l : List Nat) : Prop where
  tok : ∀ e ∈ escs 0 false l, TokOk e.2
  few : (escs 0 false l).length ≤ 20
  leaf : ∀ j p c, (escs 0 false l)[j]? = some (p, c) → c ∈ leafList → MissAt K 81 (Txt.lower ⟨c.toArray⟩) ∧ MissAt K 81 ⟨c.toArray⟩ ∧ MissAt K 86 (tabAt l j).1 ∧ MissAt K 86 (Txt.upper (tabAt l j).1) ∧ ∀ n ∈ (tabAt l j).2.2, (Txt.lower n.1 == Txt.lower ⟨c.toArray⟩) = false
inductive TabS (text : Str) (tt : Tok) (H R D : Addr) (hsh : Int) (tkh : Tok) (nd : Nat) (news : List (Addr × Obj)) (st : TSt) : (Str → Option Value) → List (Addr × Obj) → Prop
  | mk (u : Str → Option Value) (tw to : Tok) (n : Nat) (lr : List (Addr × Obj)) (es : List (Addr × Value × Value)) (hea : EntsAre es st.2.2) (hH : (H, instObj 209 D) ∈ lr) (hD : (D, dictOf [⟨hsh, .str (Str.ofString "_headers") tkh, Value.ref R⟩] nd) ∈ lr) (hRn : ∀ p ∈ lr, p.1 ≠ R) (hT : ∀ e ∈ es, (e.1, pairObj e.2.1 e.2.2) ∈ lr) (hnw : ∀ p ∈ news, p ∈ lr) :
    TabS text tt H R D hsh tkh nd news st (ov u [(Str.ofString "text", Value.str text tt), (Str.ofString "table", Value.ref H), (Str.ofString "way", .str st.1 tw), (Str.ofString "opened", .int (st.2.1 : Int) to)]) ((R, W.listOf (es.map fun e => Value.ref e.1).toArray n) :: lr)
theorem kind_of {c : List Nat} (hc : TokOk c) : kindC c = 7 ∧ c = [40] ∨ kindC c = 8 ∧ c = [41] ∨ kindC c = 256 ∧ c ∈ leafList ∧ c ≠ [40] ∧ c ≠ [41] ∧ (⟨c.toArray⟩ : Str).length ≤ 2 := by
  rcases hc with rfl | rfl | hc
  · exact .inl ⟨rfl, rfl⟩
  · exact .inr (.inl ⟨rfl, rfl⟩)
  · refine .inr (.inr ?_)
    have key : ∀ c ∈ leafList, kindC c = 256 ∧ c ≠ [40] ∧ c ≠ [41] ∧ (⟨c.toArray⟩ : Str).length ≤ 2 := by decide
    have h := key c hc
    exact ⟨h.1, hc, h.2.1, h.2.2.1, h.2.2.2⟩
theorem tab_news {h₀ h : Heap} {L : Addr} {a b c d : Addr × Obj} {lr led4 : List (Addr × Obj)} (N : News h₀ L h (a :: b :: c :: d :: (lr ++ led4))) {q : Addr × Obj} (hq : q ∈ (a :: b :: lr) ++ led4) : h.get? q.1 = some q.2 ∧ q.1 ≠ L ∧ h₀.get? q.1 = none := by
  rcases List.mem_append.mp hq with hq | hq
  · rcases List.mem_cons.mp hq with rfl | hq
    · exact N _ (.head _)
    rcases List.mem_cons.mp hq with rfl | hq
    · exact N _ (.tail _ (.head _))
    exact N _ (.tail _ (.tail _ (.tail _ (.tail _ (List.mem_append.mpr (.inl hq))))))
  · exact N _ (.tail _ (.tail _ (.tail _ (.tail _ (List.mem_append.mpr (.inr hq))))))
theorem tab_newsC {h₀ h : Heap} {L R T : Addr} {c d : Addr × Obj} {es : List (Addr × Value × Value)} {x y : Value} {n : Nat} {lr led4 : List (Addr × Obj)} (N : News h₀ L h ((R, W.listOf ((es ++ [(T, x, y)]).map fun e => Value.ref e.1).toArray n) :: (T, pairObj x y) :: c :: d :: (lr ++ led4))) :
    News h₀ L h (((R, W.listOf ((es ++ [(T, x, y)]).map fun e => Value.ref e.1).toArray n) :: (T, pairObj x y) :: lr) ++ led4) := fun _ hq => tab_news N hq
theorem tab_fresh {R T : Addr} {vs ws : Array Value} {n k : Nat} {x y : Value} {lr : List (Addr × Obj)} {q : Addr × Obj} (hq : q ∈ (R, W.listOf vs n) :: (T, pairObj x y) :: lr) : (∃ o', (q.1, o') ∈ (R, W.listOf ws k) :: lr) ∨ ∃ x y, q.2.data = .seq x y := by
  rcases List.mem_cons.mp hq with rfl | hq
  · exact .inl ⟨_, .head _⟩
  rcases List.mem_cons.mp hq with rfl | hq
  · exact .inr ⟨_, _, rfl⟩
  exact .inl ⟨_, .tail _ hq⟩
theorem tab_ne {R T : Addr} {o : Obj} {lr : List (Addr × Obj)} (h : ∀ p ∈ lr, p.1 ≠ R) (hT : T ≠ R) : ∀ p ∈ (T, o) :: lr, p.1 ≠ R := fun p hp => by
  rcases List.mem_cons.mp hp with rfl | hp
  · exact hT
  · exact h p hp
theorem tab_pairs {T : Addr} {x y : Value} {es : List (Addr × Value × Value)} {lr : List (Addr × Obj)} (h : ∀ e ∈ es, (e.1, pairObj e.2.1 e.2.2) ∈ lr) : ∀ e ∈ es ++ [(T, x, y)], (e.1, pairObj e.2.1 e.2.2) ∈ (T, pairObj x y) :: lr := fun e he => by
  rcases List.mem_append.mp he with he | he
  · exact .tail _ (h e he)
  · rw [List.mem_singleton.mp he]; exact .head _
theorem lnTable2_0 : True := by
  k_with "k_room" => (ktr_room)
  k_with "k_enter" => ((refine' code_def ?k1 ?k2 ?k3 ?k4 ?k5 ?kA ?kF ?kK ?k6 ?k7 ?k8 ?k9 ?kB ?_ ?c2 ?c3 ?c4 ?c5; (case kA => exact rfl); (case kF => exact rfl); (case kK => first | assumption | exact rfl); (case k1 => k_asm); (case k2 => k_asm); (case k3 => k_asm); (case k4 => k_asm); (case k5 => k_asm); (case k6 => k_is); (case k7 => k_is); (case k8 => ktr_room); (case k9 => first | exact BindsTo.of_eq rfl | exact binds_K (by k_in) rfl (by k_is) rfl rfl rfl | fail "k_enter: no rule for these arguments"); (case c5 => decide); (case kB => exact locs rfl); (case c2 => exact rfl); (case c3 => exact rfl); (case c4 => exact rfl); k_whole; intro g' L' h' FG' F' N' B' X' T'; (try dsimp only); (try k_lift B'); (try k_fold)))
  k_with "call ref" => ((k_here; k_dflt ((show wpAny _ _ (call (Value.ref 59) _) _ _ _); (refine' iter_con _ _ _ _ _ _ _ ?l ?e _ _ _ _ ?hh ?room _ _ _ ?F ?X ?T ?_); (case l => exact (strip_y (by assumption) (by assumption)).1); (case e => exact (strip_y (by assumption) (by assumption)).2); (case hh => with_unfolding_all rfl); (case room => ktr_room); (case F => k_asm); (case X => k_asm); (case T => k_asm); intro h9 tk9 gs9 hk9 hz9 G9; (try dsimp only))))
  k_with "call ref" => ((k_here; k_dflt ((show wpAny _ _ (call (Value.ref 66) _) _ _ _); (refine' strip_con _ _ _ _ _ _ _ _ ?l ?e _ _ _ _ _ _ _ _ _ _ _ _ _ _ _ _ _ ?B ?F ?X ?N ?T ?kk ?kd ?ku ?_); (case B => k_asm); (case F => k_asm); (case X => k_asm); (case N => k_asm); (case T => k_asm); (case l => assumption); (case e => assumption); (case kk => first | exact rfl | assumption); (case kd => ktr_room); (case ku => ktr_units); k_whole; intro y9 t9 h9 tk9 G9 hy9 hG9 F9 N9; (try dsimp only))))
  k_with "call ref" => ((k_here; k_dflt ((show wpAny _ _ (call (Value.ref 199) _) _ _ _); (refine' setd_con _ _ _ _ _ _ _ _ _ _ _ _ _ _ _ _ _ _ ?hz ?hy ?hel ?ml ?mz ?my ?es ?no ?H ?D ?Rn ?TT _ _ _ _ _ _ _ _ _ _ _ _ _ _ _ _ _ ?B ?F ?X ?N ?T ?kk ?kd ?ku ?_); (case B => k_asm); (case F => k_asm); (case X => k_asm); (case N => k_asm); (case T => k_asm); (case H => assumption); (case D => assumption); (case Rn => assumption); (case TT => assumption); (case hz => omega); (case hy => omega); (case hel => assumption); (case ml => assumption); (case mz => assumption); (case my => assumption); (case es => assumption); (case no => assumption); (case kk => first | exact rfl | assumption); (case kd => ktr_room); (case ku => ktr_units); k_whole; intro h9 tk9 T9 F9 N9 ne9; (try dsimp only))))
  trivial
theorem table_con (w : World) (loose : List Str) (mean : ExcName → Option Value) (mg mb : Str → Option Value) (news : List (Addr × Obj)) (x : Str) (tx : Tok) (hlx : x.length ≤ 100) (hend : escEnd false (cl x) = false) (hok : TabOk (KK w.params) (stripF (cl x))) (hst : (stripF (cl x)).length ≤ 100 ∧ escEnd false (stripF (cl x)) = false) :
   ∀ (dp un : Nat) (gd : Option (List Code)) (cn : Str) (cs : Scope) (ad : Addr) (ccd : Value) (cls : List (Str × Addr)) (outer : List Env) (A₀ : Around) (base h₀ : Heap) (L : Addr) (m : Str → Option Value) (s : Shared) (Q E : Value → Shared → Prop),
    Below A₀ base outer h₀ → Fr h₀ L s.heap m → (KK w.params).In h₀ → News h₀ L s.heap news → Top QQ loose mean mg mb h₀ → cs.kind = .function →
    dp + 12 < recursionLimit → un + 90 < cLine →
    (∀ (H R D : Addr) (hsh : Int) (tkh : Tok) (nd n : Nat) (h' : Heap) (tk' : Nat) (G' : Array GenState) (es : List (Addr × Value × Value)) (lr : List (Addr × Obj)), EntsAre es (tabAt (stripF (cl x)) (escs 0 false (stripF (cl x))).length).2.2 → (G' = s.gens.push .finished ∨ G' = (s.gens.push .finished).push .finished) → Fr h₀ L h' m → News h₀ L h' ((R, W.listOf (es.map fun e => Value.ref e.1).toArray n) :: lr) →
      (H, instObj 209 D) ∈ lr → (D, dictOf [⟨hsh, .str (Str.ofString "_headers") tkh, Value.ref R⟩] nd) ∈ lr → (∀ p ∈ lr, p.1 ≠ R) → (∀ e ∈ es, (e.1, pairObj e.2.1 e.2.2) ∈ lr) → (∀ p ∈ news, p ∈ lr) → Q (.ref H) ⟨h', G', s.drawn, tk', s.os⟩) →
      wpAny (model PySem.Challenge.rw_sh0066_01.row.prog w) (ktrTop dp un gd cn cs L ad ccd cls outer) (call (.ref 232) [.str x tx]) Q E s := by
  revert hok
  k_fill
  intro hok dp un gd cn cs ad ccd cls outer A₀ base h₀ L m s Q E B F X N T hk hdp hu hret
  refine wpAny_call ?_
  k_dflt cell_enter
  rename_i g1 L1 h1 FG1 F1 N1 B1 X1 T1
  replace F1 := fr_bind F1 (l' := [(Str.ofString "text", Value.str x tx)]) rfl
  refine execs_cutC 3 (fun J => ∀ h tk H R D tkh m led, TabS x tx H R D (PyData.keyHash w.params (Str.ofString "_headers")) tkh 1 news (Str.ofString "", 0, []) m led → Fr g1 L1 h m → News g1 L1 h led → J ⟨h, s.gens, s.drawn, tk, s.os⟩) (fun J hJ => ?_) ?_
  · dsimp only [List.take, List.drop]
    k_fold
    ktr_unf
    rename News _ _ _ _ => N9
    rename Fr _ _ _ _ => F8
    refine pair_for' (es := []) (fun _ _ => True) F8 N9 rfl (.head _) (fun e he => nomatch he) rfl rfl rfl rfl ?h ?turn ?done
    case turn => intro j e m I oI h tk he; cases he
    case h =>
      k_fold
      tb_start
      exact Hold.mk ⟨_, _, _, rfl, rfl, by assumption, by assumption, trivial⟩
    case done =>
      clear F8 N9
      intro m5 h5 tk5 _ F5 N5
      tb_start
      rename Fr g1 L1 _ _ => F9
      refine hJ _ _ _ _ _ _ _ _ (.mk _ _ _ _ _ [] .nil (.head _) (.tail _ (.head _)) ?_ (fun e he => nomatch he) (fun p hp => .tail _ (.tail _ hp))) (fr_ov3 F9 rfl) (by assumption)
      rename _ ∧ _ ∧ AllLt _ news => hl
      intro p hp
      rcases List.mem_cons.mp hp with rfl | hp
      · exact Nat.ne_of_lt hl.1
      rcases List.mem_cons.mp hp with rfl | hp
      · exact Nat.ne_of_lt hl.2.1
      exact of_allLt hl.2.2 p hp
  · clear F1 N1
    intro h2 tk2 H R D tkh m2 led2 hTab F2 N2
    dsimp only [List.take, List.drop]
    obtain ⟨oS, hS⟩ : ∃ oS, g1.get? cStatics = some oS := let ⟨_, ⟨o, _, _, ho, _⟩, _⟩ := T1.nolimit; ⟨o, ho⟩
    refine execs_cutC 1 (fun J => ∀ G0 m led h tk, (G0 = s.gens ∨ G0 = s.gens.push .finished) → TabS x tx H R D (PyData.keyHash w.params (Str.ofString "_headers")) tkh 1 news (tabAt (stripF (cl x)) (escs 0 false (stripF (cl x))).length) m led → Fr g1 L1 h m → News g1 L1 h led → J ⟨h, G0.push .finished, s.drawn, tk, s.os⟩) (fun J hJc => ?_) ?_
    · dsimp only [List.take, List.drop]
      refine wpAny_execs_cons (gen_for (its := escs 0 false (stripF (cl x))) (d := s.drawn) (os := s.os) (fun G => G = s.gens ∨ G = s.gens.push .finished) (fun j m led => TabS x tx H R D (PyData.keyHash w.params (Str.ofString "_headers")) tkh 1 news (tabAt (stripF (cl x)) j) m led) (by with_unfolding_all rfl) (by ktr_room) rfl rfl rfl rfl hS ?hev ?hturn ?hdone)
      case hev =>
        have hTab' := hTab
        obtain ⟨u, tw, to, n, lr, es, hea, hH, hD, hRn, hT, hnw⟩ := hTab'
        show wpAny _ _ _ _ _ _
        k_fold
        tb_start
        rename GAt _ _ _ _ _ _ _ _ _ _ => G9
        rename Fr g1 L1 _ _ => F9
        rename News g1 L1 _ _ => N9
        rename cl _ = stripF (cl x) => hy9
        rename ∀ (b : Addr) (o : Obj), Heap.get? _ b = some o → Heap.get? _ b = some o => hk9
        rw [hy9] at G9
        exact .mk _ _ _ _ (by assumption) F9.ns.lt (Nat.lt_of_lt_of_le (Heap.lt_size hS) (Nat.le_trans F9.above (Nat.le_of_lt F9.ns.lt))) G9 ⟨F9.ns.keeps hk9, fun b o e => hk9 b o (F9.keep b o e), F9.above⟩ (fun p hp => ⟨hk9 _ _ (N9 p hp).1, (N9 p hp).2⟩) (fun p hp => Heap.lt_size (N9 p hp).1) rfl rfl hTab
      case hturn =>
        clear F2 N2 hTab
        intro j p c led4 m led G h tk tkp tku hit hTJ FJ NJ hdis K hK
        clear hJc J
        obtain ⟨u, tw, to, n, lr, es, hea, hH, hD, hRn, hT, hnw⟩ := hTJ
        have hbnd := tabAt_le (stripF (cl x)) j
        have hnx := tabAt_next hit
        have hleaf := hok.leaf j p c hit
        have hkeys := tabAt_keys hok.tok j
        generalize htab : tabAt (stripF (cl x)) j = st at *
        obtain ⟨way, op, ents⟩ := st
        dsimp only at *
        have hRl : ∀ p ∈ lr ++ led4, p.1 ≠ R := fun p hp => (List.mem_append.mp hp).elim (hRn p) (hdis _ (.head _) p)
        change News g1 L1 h _ at NJ
        rw [List.cons_append] at NJ
        have FK : Fr g1 L1 h (ov u [(Str.ofString "text", Value.str x tx), (Str.ofString "table", Value.ref H), (Str.ofString "way", .str way tw), (Str.ofString "opened", .int (op : Int) to), (Str.ofString "place", .int (p : Int) tkp), (Str.ofString "sign", .str ⟨c.toArray⟩ tku)]) := fr_ov2 FJ rfl
        clear FJ
        show wpAny _ _ _ _ _ _
        have hc : TokOk c := hok.tok (p, c) (List.mem_of_getElem? hit)
        refine execs_cutC 1 (fun J => ∀ h tk tv, Fr g1 L1 h (ov u [(Str.ofString "text", Value.str x tx), (Str.ofString "table", Value.ref H), (Str.ofString "way", .str way tw), (Str.ofString "opened", .int (op : Int) to), (Str.ofString "place", .int (p : Int) tkp), (Str.ofString "sign", .str ⟨c.toArray⟩ tku), (Str.ofString "kind", .int (kindC c) tv)]) → News g1 L1 h ((R, W.listOf (es.map fun e => Value.ref e.1).toArray n) :: (lr ++ led4)) → J ⟨h, G, s.drawn, tk, s.os⟩) (fun J hJ => ?_) ?_
        · dsimp only [List.take, List.drop]
          k_fold
          tb_start
          rename PyProof.V.Flat _ _ => hv
          rename Fr g1 L1 _ _ => F9
          obtain ⟨tv, rfl⟩ := flat_int (k := kindC c) hv (by
            rcases hc with rfl | rfl | hc
            · rfl
            · rfl
            · simp only [leafList, List.mem_cons, List.not_mem_nil, or_false] at hc
              rcases hc with rfl | rfl | rfl | rfl | rfl | rfl | rfl | rfl | rfl | rfl | rfl | rfl <;> rfl)
          exact hJ _ _ tv (fr_ov F9 rfl) (by assumption)
        · clear FK NJ
          intro h5 tk5 tv F5 N5
          dsimp only [List.take, List.drop]
          have hj100 : j < 100 := by
            have e1 := (List.getElem?_eq_some_iff.mp hit).1
            have e2 := escs_len (stripF (cl x)) 0 false
            omega
          have hop : op ≤ 100 := by omega
          have hwl : way.length ≤ 100 := by omega
          have hled : ∀ (k : Nat), ∀ q ∈ (R, W.listOf (es.map fun e => Value.ref e.1).toArray k) :: lr, (∃ o', (q.1, o') ∈ (R, W.listOf (es.map fun e => Value.ref e.1).toArray n) :: lr) ∨ ∃ x y, q.2.data = .seq x y := fun k q hq => by
            rcases List.mem_cons.mp hq with rfl | hq
            · exact .inl ⟨_, .head _⟩
            · exact .inl ⟨_, .tail _ hq⟩
          rcases kind_of hc with ⟨hk, hc⟩ | ⟨hk, hc⟩ | ⟨hk, hc, hc40, hc41, hcl⟩
          · rw [hk] at F5
            rw [hc] at F5
            tb_start
            rename Fr g1 L1 _ _ => F9
            refine hK _ _ _ ((R, W.listOf (es.map fun e => Value.ref e.1).toArray n) :: lr) (fr_drop4 (fr_ov2 F9 rfl)) (by assumption) (hled n) ?_
            rw [hnx, hc]
            have e1 : (107 + (op : Int)).toNat = 107 + op := by omega
            rw [e1]
            exact .mk _ _ _ n lr es hea hH hD hRn hT hnw
          · rw [hk] at F5
            rw [hc] at F5
            tb_start
            rename Fr g1 L1 _ _ => F9
            refine hK _ _ _ ((R, W.listOf (es.map fun e => Value.ref e.1).toArray n) :: lr) (fr_drop4 (fr_ov F9 rfl)) (by assumption) (hled n) ?_
            rw [hnx, hc]
            exact .mk _ _ _ n lr es hea hH hD hRn hT hnw
          · rw [hk] at F5
            replace N5 : News g1 L1 h5 ((R, W.listOf (es.map fun e => Value.ref e.1).toArray n) :: (H, instObj 209 D) :: (D, dictOf [⟨PyData.keyHash w.params (Str.ofString "_headers"), .str (Str.ofString "_headers") tkh, Value.ref R⟩] 1) :: (lr ++ led4)) :=
              List.forall_mem_cons.mpr ⟨N5 _ (.head _), List.forall_mem_cons.mpr ⟨N5 _ (.tail _ (List.mem_append.mpr (.inl hH))), List.forall_mem_cons.mpr ⟨N5 _ (.tail _ (List.mem_append.mpr (.inl hD))), fun p hp => N5 p (.tail _ hp)⟩⟩⟩
            have hH3 : (H, instObj 209 D) ∈ ((H, instObj 209 D) :: (D, dictOf [⟨PyData.keyHash w.params (Str.ofString "_headers"), .str (Str.ofString "_headers") tkh, Value.ref R⟩] 1) :: (lr ++ led4)) := .head _
            have hD3 : (D, dictOf [⟨PyData.keyHash w.params (Str.ofString "_headers"), .str (Str.ofString "_headers") tkh, Value.ref R⟩] 1) ∈ ((H, instObj 209 D) :: (D, dictOf [⟨PyData.keyHash w.params (Str.ofString "_headers"), .str (Str.ofString "_headers") tkh, Value.ref R⟩] 1) :: (lr ++ led4)) := .tail _ (.head _)
            have hT3 : ∀ e ∈ es, (e.1, pairObj e.2.1 e.2.2) ∈ ((H, instObj 209 D) :: (D, dictOf [⟨PyData.keyHash w.params (Str.ofString "_headers"), .str (Str.ofString "_headers") tkh, Value.ref R⟩] 1) :: (lr ++ led4)) := fun e he => .tail _ (.tail _ (List.mem_append.mpr (.inl (hT e he))))
            have hRn3 : ∀ p ∈ ((H, instObj 209 D) :: (D, dictOf [⟨PyData.keyHash w.params (Str.ofString "_headers"), .str (Str.ofString "_headers") tkh, Value.ref R⟩] 1) :: (lr ++ led4)), p.1 ≠ R := List.forall_mem_cons.mpr ⟨hRn _ hH, List.forall_mem_cons.mpr ⟨hRn _ hD, hRl⟩⟩
            have hel : (es.map fun e => Value.ref e.1).toArray.size ≤ sizeLine := by
              have e1 := hea.len
              have e2 : (es.map fun e => Value.ref e.1).toArray.size = es.length := by simp
              have e3 : 100 ≤ sizeLine := by decide
              omega
            have hml : MissAt (KK w.params) 81 (Txt.lower ⟨c.toArray⟩) := (hleaf hc).1
            have hmz : MissAt (KK w.params) 81 ⟨c.toArray⟩ := (hleaf hc).2.1
            have hmw : MissAt (KK w.params) 86 way := (hleaf hc).2.2.1
            have hmu : MissAt (KK w.params) 86 (Txt.upper way) := (hleaf hc).2.2.2.1
            have hes : ∀ e ∈ es, ∃ k tk, e.2.1 = .str k tk ∧ k.length ≤ 30 := hea.keys hkeys
            have hno : hitV es (Txt.lower ⟨c.toArray⟩) = .none := hea.miss _ (hleaf hc).2.2.2.2
            have hst : ∀ v, v = (if Txt.isupper ⟨c.toArray⟩ = true then Txt.upper way else way) → tabStep (way, op, ents) (p, c) = (way, op, ents ++ [(⟨c.toArray⟩, v)]) := fun v e => by
              subst e
              simp only [tabStep, if_neg hc40, if_neg hc41]
            tb_start
            · rename News g1 L1 _ _ => N9
              rename Fr g1 L1 _ _ => F9
              rename _ ≠ R => hne
              rename Txt.isupper _ = true => hup
              refine hK _ _ _ (_ :: (_, pairObj (Value.str ⟨c.toArray⟩ tku) (Value.str (Txt.upper way) _)) :: lr) (fr_drop4 F9) (tab_newsC (es := es) N9) (fun q hq => ?_) ?_
              · exact tab_fresh hq
              · rw [hnx, hst _ (by rw [if_pos hup])]
                exact .mk _ _ _ (n + 1) _ _ (hea.snoc _ _ _ _ _) (.tail _ hH) (.tail _ hD) (tab_ne hRn hne) (tab_pairs hT) (fun p hp => .tail _ (hnw p hp))
            · rename News g1 L1 _ _ => N9
              rename Fr g1 L1 _ _ => F9
              rename _ ≠ R => hne
              rename Txt.isupper _ = false => hup
              refine hK _ _ _ (_ :: (_, pairObj (Value.str ⟨c.toArray⟩ tku) (Value.str way tw)) :: lr) (fr_drop4 F9) (tab_newsC (es := es) N9) (fun q hq => ?_) ?_
              · exact tab_fresh hq
              · rw [hnx, hst _ (by rw [if_neg (by rw [hup]; decide)])]
                exact .mk _ _ _ (n + 1) _ _ (hea.snoc _ _ _ _ _) (.tail _ hH) (.tail _ hD) (tab_ne hRn hne) (tab_pairs hT) (fun p hp => .tail _ (hnw p hp))
      case hdone =>
        intro G0 m led h' tk' hG hJ FJ NJ
        exact wpAny_execs_nil (hJc _ _ _ _ _ hG hJ FJ NJ)
    · clear F2 N2 hTab
      intro G0 m3 led3 h3 tk3 hG0 hTJ F3 N3
      obtain ⟨u, tw, to, n, lr, es, hea, hH, hD, hRn, hT, hnw⟩ := hTJ
      dsimp only [List.take, List.drop]
      tb_start
      refine hret _ _ _ _ _ _ _ _ _ _ _ _ hea ?_ (by assumption) (by assumption) hH hD hRn hT hnw
      exact hG0.imp (fun e => congrArg (fun (a : Array GenState) => a.push .finished) e) (fun e => congrArg (fun (a : Array GenState) => a.push .finished) e)


-- PART For
theorem lnFor : True := by
  k_with_none
  trivial
/-! NOLINES loops over a list, an enumerate of a list, a zip of two lists: by what holds between the turns -/
section
variable {prog : Program} {w : World} {A : Around} {E : Value → Shared → Prop} {s : Shared} {env : Env} {h₀ : Heap} {target : Expr} {body : List Stmt} {Q : Flow → Shared → Prop}
theorem allObj_of : ∀ {ws : List (Addr × String)} {k : List (Addr × Obj) → Prop}, (∀ its, Objs ws its → k its) → AllObj ws k
  | [], _, h => h [] trivial
  | w :: r, k, h => fun o ho => allObj_of (ws := r) (k := fun its => k ((w.1, o) :: its)) fun its hi => h ((w.1, o) :: its) ⟨⟨rfl, ho⟩, hi⟩
/-- what a turn's end wants -/
noncomputable def TurnEnd (h₀ : Heap) (L : Addr) (s : Shared) (ws : List (Addr × String)) (its keep news : List (Addr × Obj)) (Jn : (Str → Option Value) → List (Addr × Obj) → Prop) (s₃ : Shared) : Prop :=
  ∃ h' tk' m' news', s₃ = { s with heap := h', toks := tk' } ∧ Fr h₀ L h' m' ∧ News h₀ L h' (its ++ news') ∧ (∀ p ∈ news', (∃ o, (p.1, o) ∈ news) ∨ ∀ w ∈ ws, p.2.cls ≠ .type w.2) ∧ SubL keep news' ∧ Jn m' news'
theorem objs_cls : ∀ {ws : List (Addr × String)} {its : List (Addr × Obj)}, Objs ws its → ∀ q ∈ its, ∃ w ∈ ws, q.1 = w.1 ∧ q.2.cls = .type w.2
  | [], [], _, q, hq => nomatch hq
  | [], _ :: _, h, _, _ => (show False from h).elim
  | _ :: _, [], h, _, _ => (show False from h).elim
  | w :: ws, p :: ps, h, q, hq => by
    rcases List.mem_cons.mp hq with rfl | hq
    · exact ⟨w, .head _, h.1⟩
    · obtain ⟨w', hw, r⟩ := objs_cls h.2 q hq
      exact ⟨w', .tail _ hw, r⟩
theorem items_inv {ws : List (Addr × String)} {keep : List (Addr × Obj)} (J : List Itm → (Str → Option Value) → List (Addr × Obj) → Prop)
    (done : ∀ m news h tk, J [] m news → Fr h₀ env.locals h m → News h₀ env.locals h news → Q .next { s with heap := h, toks := tk })
    (turn : ∀ a r m news v h tk its, J (a :: r) m news → a.Is v h → Fr h₀ env.locals h m → Objs ws its → News h₀ env.locals h (its ++ news) → (∀ p ∈ news, ∀ w ∈ ws, p.1 ≠ w.1) →
      wpAny (model prog w) A (assign target env v) (fun _ s₂ => wpAny (model prog w) A (execs body env) (fun f s₃ => match f with
        | .next | .cont => Hold (TurnEnd h₀ env.locals s ws its keep news (J r) s₃)
        | .brk => Q .next s₃
        | .ret v => Q (.ret v) s₃) E s₂) E { s with heap := h, toks := tk }) :
    ∀ xs m news, J xs m news → (∀ p ∈ news, ∀ w ∈ ws, p.1 ≠ w.1) → ItemsRest prog w A E h₀ env target body Q s ws keep xs m news
  | [], m, news, hJ, _ => fun h tk F N => done m news h tk hJ F N
  | a :: r, m, news, hJ, hap => by
    intro v h tk hv F
    refine allObj_of fun its hits N => ?_
    refine wpAny_mono (turn a r m news v h tk its hJ hv F hits N hap) (fun _ s₂ h₂ => wpAny_mono h₂ (fun f s₃ h₃ => ?_) fun _ _ e => e) fun _ _ e => e
    have key : TurnEnd h₀ env.locals s ws its keep news (J r) s₃ → UnrEndW h₀ env.locals { s with heap := h, toks := tk } its (fun m' n' => SubL keep n' ∧ ItemsRest prog w A E h₀ env target body Q s ws keep r m' n') s₃ := by
      rintro ⟨h', tk', m', news', rfl, F', N', hne, hk, hJ'⟩
      have hap' : ∀ p ∈ news', ∀ w ∈ ws, p.1 ≠ w.1 := by
        intro p hp w₁ hw
        rcases hne p hp with ⟨o, ho⟩ | hc
        · exact hap _ ho w₁ hw
        · intro e
          have hm : w₁.1 ∈ ws.map (·.1) := List.mem_map.mpr ⟨w₁, hw, rfl⟩
          rw [← hits.map] at hm
          obtain ⟨q, hq, hqe⟩ := List.mem_map.mp hm
          have h1 := (N' q (List.mem_append_left _ hq)).1
          have h2 := (N' p (List.mem_append_right _ hp)).1
          have e1 : q.1 = p.1 := hqe.trans e.symm
          rw [e1] at h1
          have e2 : q.2 = p.2 := Option.some.inj (h1.symm.trans h2)
          obtain ⟨w₂, hw2, _, hc2⟩ := objs_cls hits q hq
          exact hc w₂ hw2 (e2 ▸ hc2)
      refine ⟨h', tk', m', news', rfl, F', N', fun p hp q hq e => ?_, hk, items_inv J done turn r m' news' hJ' hap'⟩
      obtain ⟨w₂, hw2, e2, _⟩ := objs_cls hits q hq
      exact hap' p hp w₂ hw2 (e.trans e2)
    cases f with
    | next => exact key h₃
    | cont => exact key h₃
    | brk => exact h₃
    | ret v => exact h₃
theorem for_turns {iter : Expr} {pos : Pos} {m₀ : Str → Option Value} (F : Fr h₀ env.locals s.heap m₀)
    (h : wpAny (model prog w) A (eval iter env) (fun xv s₁ => wpAny (model prog w) A (pyIter xv) (fun it s₂ => TurnsAt prog w A h₀ env target body Q (fun _ _ => False) it s₂) (fun _ _ => False) s₁) (fun _ _ => False) s)
    (hs : ∀ x, foldedSetIterable iter env x = pure x := by intro _; rfl) :
    wpAny (model prog w) A (exec (.For target iter body [] pos) env) Q E s :=
  wpAny_mono (For_turns F h hs PassesOwn.never) (fun _ _ q => q) fun _ _ e => e.elim
/-- a for over a list of the ledger -/
theorem list_for {ax : Addr} {lo : Obj} {vs : List Value} {n : Nat} {m₀ : Str → Option Value} {news : List (Addr × Obj)} (J : List Itm → (Str → Option Value) → List (Addr × Obj) → Prop)
    (hh : A.handled = none) (F : Fr h₀ env.locals s.heap m₀) (N : News h₀ env.locals s.heap news) (hm : (ax, lo) ∈ news) (hc : lo.cls = .type "list") (hd : lo.data = .seq vs.toArray n) (hJ : J (vs.map .val) m₀ news)
    (turn : ∀ I a r m news v h tk its, J (a :: r) m news → a.Is v h → Fr h₀ env.locals h m → Objs [(I, "list_iterator")] its → News h₀ env.locals h (its ++ news) → (∀ p ∈ news, ∀ w ∈ [(I, "list_iterator")], p.1 ≠ w.1) →
      wpAny (model prog w) A (assign target env v) (fun _ s₂ => wpAny (model prog w) A (execs body env) (fun f s₃ => match f with
        | .next | .cont => Hold (TurnEnd h₀ env.locals s [(I, "list_iterator")] its [(ax, lo)] news (J r) s₃)
        | .brk => Q .next s₃
        | .ret v => Q (.ret v) s₃) (fun _ _ => False) s₂) (fun _ _ => False) { s with heap := h, toks := tk })
    (done : ∀ m news h tk, J [] m news → Fr h₀ env.locals h m → News h₀ env.locals h news → Q .next { s with heap := h, toks := tk }) :
    wpAny (model prog w) A (pyIter (.ref ax)) (fun it s₂ => TurnsAt prog w A h₀ env target body Q (fun _ _ => False) it s₂) E s :=
  wpAny_mono (iter_listTurns (E := fun _ _ => False) hh F N hm hc hd fun I hI => items_inv J done (turn I) _ _ _ hJ fun p hp w hw => by
    rw [List.mem_singleton.mp hw]; exact Nat.ne_of_lt (hI p hp)) (fun _ _ h => h) fun _ _ e => e.elim
theorem enum_for {elts : List Expr} {k : Nat} {pos : Pos} {l : Addr} {lo : Obj} {vs : List Value} {n : Nat} {m₀ : Str → Option Value} {news : List (Addr × Obj)} (J : List Itm → (Str → Option Value) → List (Addr × Obj) → Prop)
    (hh : A.handled = none) (F : Fr h₀ env.locals s.heap m₀) (N : News h₀ env.locals s.heap news) (hm : (l, lo) ∈ news) (hc : lo.cls = .type "list") (hd : lo.data = .seq vs.toArray n) (hJ : J (enumItems 0 vs) m₀ news)
    (turn : ∀ I a r m news v h tk its, J (a :: r) m news → a.Is v h → Fr h₀ env.locals h m → Objs [(I + 1, "enumerate"), (I, "list_iterator")] its → News h₀ env.locals h (its ++ news) → (∀ p ∈ news, ∀ w ∈ [(I + 1, "enumerate"), (I, "list_iterator")], p.1 ≠ w.1) →
      wpAny (model prog w) A (assign (.Tuple elts k pos) env v) (fun _ s₂ => wpAny (model prog w) A (execs body env) (fun f s₃ => match f with
        | .next | .cont => Hold (TurnEnd h₀ env.locals s [(I + 1, "enumerate"), (I, "list_iterator")] its [(l, lo)] news (J r) s₃)
        | .brk => Q .next s₃
        | .ret v => Q (.ret v) s₃) (fun _ _ => False) s₂) (fun _ _ => False) { s with heap := h, toks := tk })
    (done : ∀ m news h tk, J [] m news → Fr h₀ env.locals h m → News h₀ env.locals h news → Q .next { s with heap := h, toks := tk }) :
    wpAny (model prog w) A (call (.type "enumerate") [.ref l]) (fun xv s₁ => wpAny (model prog w) A (pyIter xv) (fun it s₂ => TurnsAt prog w A h₀ env (.Tuple elts k pos) body Q (fun _ _ => False) it s₂) (fun _ _ => False) s₁) (fun _ _ => False) s :=
  ktu_enum hh F N hm hc hd rfl fun I hI => items_inv J done (turn I) _ _ _ hJ fun p hp w hw => by
    rcases List.mem_cons.mp hw with rfl | hw
    · exact Nat.ne_of_lt (Nat.lt_succ_of_lt (hI p hp))
    · rw [List.mem_singleton.mp hw]; exact Nat.ne_of_lt (hI p hp)
theorem zip_for {elts : List Expr} {k : Nat} {pos : Pos} {l1 l2 : Addr} {lo1 lo2 : Obj} {xs ys : List Value} {n1 n2 : Nat} {m₀ : Str → Option Value} {news : List (Addr × Obj)} (J : List Itm → (Str → Option Value) → List (Addr × Obj) → Prop)
    (hh : A.handled = none) (F : Fr h₀ env.locals s.heap m₀) (N : News h₀ env.locals s.heap news) (hm1 : (l1, lo1) ∈ news) (hc1 : lo1.cls = .type "list") (hd1 : lo1.data = .seq xs.toArray n1) (hm2 : (l2, lo2) ∈ news) (hc2 : lo2.cls = .type "list") (hd2 : lo2.data = .seq ys.toArray n2) (hJ : J (zipItems xs ys) m₀ news)
    (turn : ∀ I a r m news v h tk its, J (a :: r) m news → a.Is v h → Fr h₀ env.locals h m → Objs [(I + 4, "zip"), (I + 2, "tuple"), (I + 3, "tuple"), (I, "list_iterator"), (I + 1, "list_iterator")] its → News h₀ env.locals h (its ++ news) → (∀ p ∈ news, ∀ w ∈ [(I + 4, "zip"), (I + 2, "tuple"), (I + 3, "tuple"), (I, "list_iterator"), (I + 1, "list_iterator")], p.1 ≠ w.1) →
      wpAny (model prog w) A (assign (.Tuple elts k pos) env v) (fun _ s₂ => wpAny (model prog w) A (execs body env) (fun f s₃ => match f with
        | .next | .cont => Hold (TurnEnd h₀ env.locals s [(I + 4, "zip"), (I + 2, "tuple"), (I + 3, "tuple"), (I, "list_iterator"), (I + 1, "list_iterator")] its [(l1, lo1), (l2, lo2)] news (J r) s₃)
        | .brk => Q .next s₃
        | .ret v => Q (.ret v) s₃) (fun _ _ => False) s₂) (fun _ _ => False) { s with heap := h, toks := tk })
    (done : ∀ m news h tk, J [] m news → Fr h₀ env.locals h m → News h₀ env.locals h news → Q .next { s with heap := h, toks := tk }) :
    wpAny (model prog w) A (call (.type "zip") [.ref l1, .ref l2]) (fun xv s₁ => wpAny (model prog w) A (pyIter xv) (fun it s₂ => TurnsAt prog w A h₀ env (.Tuple elts k pos) body Q (fun _ _ => False) it s₂) (fun _ _ => False) s₁) (fun _ _ => False) s :=
  ktu_zip hh F N hm1 hc1 hd1 hm2 hc2 hd2 fun I hI => items_inv J done (turn I) _ _ _ hJ fun p hp w hw => by
    simp only [List.mem_cons, List.not_mem_nil, or_false] at hw
    rcases hw with rfl | rfl | rfl | rfl | rfl
    · exact Nat.ne_of_lt (Nat.lt_add_right 4 (hI p hp))
    · exact Nat.ne_of_lt (Nat.lt_add_right 2 (hI p hp))
    · exact Nat.ne_of_lt (Nat.lt_add_right 3 (hI p hp))
    · exact Nat.ne_of_lt (hI p hp)
    · exact Nat.ne_of_lt (Nat.lt_add_right 1 (hI p hp))
theorem objs1 {a : Addr} {c : String} : ∀ {its : List (Addr × Obj)}, Objs [(a, c)] its → ∃ o, its = [(a, o)] ∧ o.cls = .type c
  | [], h => (show False from h).elim
  | [(b, o)], h => ⟨o, by have e : b = a := h.1.1; rw [e], h.1.2⟩
  | _ :: _ :: _, h => (show False from h.2).elim
theorem objs_cons {w : Addr × String} {ws : List (Addr × String)} : ∀ {its : List (Addr × Obj)}, Objs (w :: ws) its → ∃ o r, its = (w.1, o) :: r ∧ o.cls = .type w.2 ∧ Objs ws r
  | [], h => (show False from h).elim
  | (b, o) :: r, h => ⟨o, r, by have e : b = w.1 := h.1.1; rw [e], h.1.2, h.2⟩
theorem objs_nil : ∀ {its : List (Addr × Obj)}, Objs [] its → its = []
  | [], _ => rfl
  | _ :: _, h => (show False from h).elim
theorem objs2 {a b : Addr} {c d : String} {its : List (Addr × Obj)} (h : Objs [(a, c), (b, d)] its) : ∃ o p, its = [(a, o), (b, p)] ∧ o.cls = .type c ∧ p.cls = .type d := by
  obtain ⟨o, r, rfl, ho, h⟩ := objs_cons h
  obtain ⟨p, r, rfl, hp, h⟩ := objs_cons h
  rw [objs_nil h]
  exact ⟨o, p, rfl, ho, hp⟩
theorem objs5 {a b c d e : Addr} {a' b' c' d' e' : String} {its : List (Addr × Obj)} (h : Objs [(a, a'), (b, b'), (c, c'), (d, d'), (e, e')] its) : ∃ o1 o2 o3 o4 o5, its = [(a, o1), (b, o2), (c, o3), (d, o4), (e, o5)] := by
  obtain ⟨o, r, rfl, _, h⟩ := objs_cons h
  obtain ⟨p, r, rfl, _, h⟩ := objs_cons h
  obtain ⟨p, r, rfl, _, h⟩ := objs_cons h
  obtain ⟨p, r, rfl, _, h⟩ := objs_cons h
  obtain ⟨p, r, rfl, _, h⟩ := objs_cons h
  rw [objs_nil h]
  exact ⟨_, _, _, _, _, rfl⟩
end


-- PART Draws
theorem lnDraws : True := by
  k_with_none
  k_with "call builtin:str.lower" => ((k_here; (with_reducible show wpAny _ _ (call (Value.builtin "str.lower") [Value.str _ _]) _ _ _); (refine SCL.lower (by omega) ?_); intro _))
  k_with "subscriptTail Name Slice str ref" => (((with_reducible show wpAny _ _ (subscriptTail _ (Expr.Slice none (some (Expr.BoolOp _ _ _)) none _) _ _) _ _ _); (with_reducible rename Fr _ _ _ _ => F'); (with_reducible rename News _ _ _ _ => N'); (first | refine slice_strN_nn_len (s := ⟨_, _, _, _, _⟩) F' N' ?_ | refine slice_strN_ns_len (s := ⟨_, _, _, _, _⟩) F' N' ?_); intro _ _ _ _ _ _))
  k_with "tb_start" => (((try (show wpAny _ _ _ _ _ _)); (try k_fold); (repeat' ((fail_if_success (with_reducible show InvEndN _ _ _ _ _ _ _)); first | (k_unfold; (try dsimp only)) | (k_end; wrow_close) | walk1 | (dsimp only; walk1) | (dsimp only; k_unfold; (try dsimp only)) | (leave1; walk_say "STEP leave1"; try dsimp only) | fail "no step")); (all_goals (try dsimp only))))
  k_with "ktr_unf" => (repeat' ((fail_if_success (with_reducible show InvEndN _ _ _ _ _ _ _)); (fail_if_success (with_reducible show wpAny _ _ (exec (Stmt.While _ _ _ _) _) _ _ _)); (fail_if_success (with_reducible show wpAny _ _ (exec (Stmt.For _ _ _ _ _) _) _ _ _)); (fail_if_success (with_reducible show wpAny _ _ (pyIter _) _ _ _)); first | (k_unfold; (try dsimp only)) | (k_end; wrow_close) | walk1 | (dsimp only; walk1) | (dsimp only; k_unfold; (try dsimp only)) | (leave1; walk_say "STEP leave1"; try dsimp only) | fail "no step"))
  k_with "tb_nf" => (((repeat' ((fail_if_success (with_reducible show InvEndN _ _ _ _ _ _ _)); first | (k_unfold; (try dsimp only)) | (k_end; wrow_close) | walk1 | (dsimp only; walk1) | (dsimp only; k_unfold; (try dsimp only)) | (leave1; walk_say "STEP leave1"; try dsimp only) | fail "no step")); (all_goals (try dsimp only))))
  trivial
theorem lnDraws_0 : True := by
  k_with "k_room" => (ktr_room)
  trivial
inductive DrJ (S D l1 : Addr) (o1 : Obj) (news : List (Addr × Obj)) : List Itm → (Str → Option Value) → List (Addr × Obj) → Prop
  | mk (j : Nat) (xs : List Value) (ys : List Int) (ds : List Value) (d : List Int) (n : Nat) (rest : List (Str × Value)) (hxy : IntsAre xs ys) (hj : j + xs.length ≤ 63) (hds : IntsAre ds d) (hd4 : d.length = 4) (hdb : ∀ x ∈ d, 0 ≤ x ∧ x ≤ 1000 + 1000000 * (j : Int))
      (hrest : rest = [] ∨ ∃ vp vn, rest = [(Str.ofString "place", vp), (Str.ofString "number", vn)]) : DrJ S D l1 o1 news (enumItems j xs) (ov (fun _ => none) ([(Str.ofString "script", Value.ref S), (Str.ofString "draws", Value.ref D)] ++ rest)) ((l1, o1) :: (D, W.listOf ds.toArray n) :: news)
theorem getD_mem {l : List Int} {k : Nat} (h : k < l.length) : l.getD k 0 ∈ l := by
  have e : l.getD k 0 = l[k] := by simp [List.getD, h]
  rw [e]; exact List.getElem_mem h
theorem dr_bound {d : List Int} {j k : Nat} {y : Int} (h4 : d.length = 4) (hb : ∀ x ∈ d, 0 ≤ x ∧ x ≤ 1000 + 1000000 * (j : Int)) (hk : k < 4) : ∀ x ∈ d.set k (d.getD k 0 + y.fmod (10 ^ Int.toNat 6)), 0 ≤ x ∧ x ≤ 1000 + 1000000 * ((j + 1 : Nat) : Int) := fun x hx => by
  have e : ((10 : Int) ^ Int.toNat 6) = 1000000 := by decide
  rw [e] at hx
  rcases List.mem_or_eq_of_mem_set hx with hx | rfl
  · have := hb x hx
    omega
  · have h1 := hb _ (getD_mem (l := d) (k := k) (by omega))
    have h2 := Int.fmod_nonneg_of_pos y (show (0 : Int) < 1000000 by decide)
    have h3 := Int.fmod_lt_of_pos y (show (0 : Int) < 1000000 by decide)
    omega
theorem dr_fresh {l1 D : Addr} {o1 o2 o2' : Obj} {news : List (Addr × Obj)} {ws : List (Addr × String)} : ∀ p ∈ (l1, o1) :: (D, o2') :: news, (∃ o, (p.1, o) ∈ (l1, o1) :: (D, o2) :: news) ∨ ∀ w ∈ ws, p.2.cls ≠ .type w.2 := fun p hp => by
  rcases List.mem_cons.mp hp with rfl | hp
  · exact .inl ⟨_, .head _⟩
  rcases List.mem_cons.mp hp with rfl | hp
  · exact .inl ⟨_, .tail _ (.head _)⟩
  exact .inl ⟨_, .tail _ (.tail _ hp)⟩
theorem lnDraws_1 : True := by
  k_with "setItem ref int" => ((k_here; k_dflt ((with_reducible show wpAny _ _ (setItem (Value.ref _) (Value.int _ _) (Value.int _ _)) _ _ _); (refine' ksa_set ?k1 ?k2 (Upd.tail ?n1 (Upd.tail ?n2 (Upd.tail ?n3 (Upd.head ?n4)))) ?k4 ?k5 ?k6 ?k7 ?_; (case k1 => k_asm); (case k2 => k_asm); (case n1 => assumption); (case n2 => assumption); (case n3 => assumption); (case n4 => assumption); (case k4 => with_reducible assumption); (case k5 => ksa_idx); (case k6 => ksa_idx); (case k7 => ksa_idx); k_whole); intro h' F' N' hi' hl' _)))
  trivial
theorem draws_con (w : World) (loose : List Str) (mean : ExcName → Option Value) (mg mb : Str → Option Value) (news : List (Addr × Obj)) (S : Addr) (vs : List Value) (ns : List Int) (hI : IntsAre vs ns) (hlen : vs.length ≤ 63) :
   ∀ (dp un : Nat) (gd : Option (List Code)) (cn : Str) (cs : Scope) (ad : Addr) (ccd : Value) (cls : List (Str × Addr)) (outer : List Env) (A₀ : Around) (base h₀ : Heap) (L : Addr) (m : Str → Option Value) (s : Shared) (Q E : Value → Shared → Prop),
    Below A₀ base outer h₀ → Fr h₀ L s.heap m → (KK w.params).In h₀ → News h₀ L s.heap news → Top QQ loose mean mg mb h₀ → cs.kind = .function →
    dp + 3 < recursionLimit → un + 20 < cLine → h₀.IsList S vs.toArray →
    (∀ (D : Addr) (n : Nat) (ds : List Value) (d : List Int) (h' : Heap) (tk' : Nat), IntsAre ds d → d.length = 4 → (∀ x ∈ d, 0 ≤ x ∧ x ≤ 100000000) → Fr h₀ L h' m → News h₀ L h' ((D, W.listOf ds.toArray n) :: news) → Q (.ref D) ⟨h', s.gens, s.drawn, tk', s.os⟩) →
      wpAny (model PySem.Challenge.rw_sh0066_01.row.prog w) (ktrTop dp un gd cn cs L ad ccd cls outer) (call (.ref 220) [.ref S]) Q E s := by
  k_fill
  intro dp un gd cn cs ad ccd cls outer A₀ base h₀ L m s Q E B F X N T hk hdp hu hS hret
  refine wpAny_call ?_
  k_dflt cell_enter
  rename_i g1 L1 h1 FG1 F1 N1 B1 X1 T1
  have hS1 : g1.IsList S vs.toArray := hS.at fun o e => FG1.keep _ o e
  replace F1 := fr_bind F1 (l' := [(Str.ofString "script", Value.ref S)]) rfl
  refine execs_cutC 1 (fun J => ∀ h tk D t0 t1 t2 t3, (∀ p ∈ news, p.1 ≠ D) → Fr g1 L1 h (ov (fun _ => none) [(Str.ofString "script", Value.ref S), (Str.ofString "draws", Value.ref D)]) → News g1 L1 h ((D, W.listOf #[Value.int 192 t0, Value.int 120 t1, Value.int 361 t2, Value.int 12 t3] 0) :: news) → J ⟨h, s.gens, s.drawn, tk, s.os⟩) ?_ ?_
  · intro J hJ
    dsimp only [List.take, List.drop]
    k_fold
    tb_start
    rename Fr _ _ _ _ => FF
    simp only [ov_app] at FF
    exact hJ _ _ _ _ _ _ _ (fun p hp => Nat.ne_of_lt ((by assumption : ∀ p ∈ news, p.1 < _) p hp)) (fr_fix FF rfl) (by assumption)
  · clear F1 N1
    intro h2 tk2 D t0 t1 t2 t3 hnD F2 N2
    dsimp only [List.take, List.drop]
    refine execs_cutC 1 (fun J => ∀ h tk n ds d l1 o1 rest, IntsAre ds d → d.length = 4 → (∀ x ∈ d, 0 ≤ x ∧ x ≤ 100000000) → Fr g1 L1 h (ov (fun _ => none) ([(Str.ofString "script", Value.ref S), (Str.ofString "draws", Value.ref D)] ++ rest)) → News g1 L1 h ((l1, o1) :: (D, W.listOf ds.toArray n) :: news) → J ⟨h, s.gens, s.drawn, tk, s.os⟩) ?_ ?_
    · intro J hJc
      dsimp only [List.take, List.drop]
      refine wpAny_execs_cons (for_turns F2 ?h)
      show wpAny _ _ _ _ _ _
      tb_start
      rename Fr g1 L1 _ _ => F3
      rename News g1 L1 _ _ => N3
      rename IntsAre _ (List.take 63 ns) => hI3
      rename _ ∧ AllLt _ news => hl3
      have hz : (List.take 63 ns).length ≤ 63 := by rw [List.length_take]; omega
      rename Addr => l1
      rename List Value => ws1
      refine enum_for (DrJ S D l1 (W.listOf ws1.toArray 0) news) rfl F3 N3 (.head _) rfl rfl ?hJ ?turn ?done
      case hJ => exact .mk 0 _ _ _ _ _ [] hI3 (by rw [hI3.length]; omega) (.cons _ _ (.cons _ _ (.cons _ _ (.cons _ _ .nil)))) rfl (by decide) (.inl rfl)
      case done =>
        intro m5 led5 h5 tk5 hJ F5 N5
        generalize hits : ([] : List Itm) = its at hJ
        obtain ⟨j, xs, ys, ds, d, n, rest, hxy, hj, hds, hd4, hdb, hrest⟩ := hJ
        refine wpAny_execs_nil (hJc _ _ n ds d _ _ rest hds hd4 (fun x hx => ?_) F5 N5)
        have := hdb x hx
        omega
      case turn =>
        clear F3 N3
        intro I a r m5 led5 v5 h5 tk5 its hJ hv F5 hits N5 hap
        generalize hxs : a :: r = itsA at hJ
        obtain ⟨j, xs, ys, ds, d, n, rest, hxy, hj, hds, hd4, hdb, hrest⟩ := hJ
        obtain ⟨p1, p2, rfl, hp1, hp2⟩ := objs2 hits
        cases hxy with
        | nil => cases hxs
        | cons y t hxy =>
        rename_i xs ys
        obtain ⟨ha, hr⟩ := List.cons.inj hxs
        subst ha
        obtain ⟨T, tp, rfl, hT⟩ := hv
        have hne : (D : Nat) ≠ l1 ∧ (∀ p ∈ news, p.1 ≠ D) := ⟨Nat.ne_of_lt hl3.1, hnD⟩
        have hI1 := hap (l1, W.listOf ws1.toArray 0) (.head _) _ (.head _)
        have hI2 := hap (l1, W.listOf ws1.toArray 0) (.head _) _ (.tail _ (.head _))
        have hI3 := hap (D, W.listOf ds.toArray n) (.tail _ (.head _)) _ (.head _)
        have hI4 := hap (D, W.listOf ds.toArray n) (.tail _ (.head _)) _ (.tail _ (.head _))
        have hn1 : (I : Nat) + 1 ≠ D ∧ (I : Nat) ≠ D ∧ (l1 : Nat) ≠ D := ⟨Ne.symm hI3, Ne.symm hI4, Ne.symm hne.1⟩
        obtain ⟨hn1, hn2, hn3⟩ := hn1
        have hn4 := hne.2
        rw [List.length_cons] at hj
        change News g1 L1 _ ((I + 1, p1) :: (I, p2) :: (l1, _) :: (D, _) :: news) at N5
        show wpAny _ _ _ _ _ _
        tb_start
        rename Fr g1 _ _ _ => F9
        rename News g1 _ _ _ => N9
        rename IntsAre (List.set _ _ _) _ => hd9
        simp only [ov_app] at F9
        have hk0 : 0 ≤ ((j : Int).fmod 4) := Int.fmod_nonneg_of_pos _ (by decide)
        have hb := dr_bound (j := j) hd4 hdb (k := ((j : Int).fmod 4).toNat) (by have := Int.fmod_lt_of_pos (j : Int) (show (0 : Int) < 4 by decide); omega) (y := y)
        obtain ⟨vp, vn, F10⟩ : ∃ vp vn, Fr g1 L1 _ (ov (fun _ => none) ([(Str.ofString "script", Value.ref S), (Str.ofString "draws", Value.ref D)] ++ [(Str.ofString "place", vp), (Str.ofString "number", vn)])) := by
          rcases hrest with rfl | ⟨_, _, rfl⟩ <;> exact ⟨_, _, fr_fix F9 rfl⟩
        exact Hold.mk ⟨_, _, _, _, rfl, F10, N9, dr_fresh, ⟨.head _, trivial⟩, hr ▸ .mk (j + 1) xs _ _ _ n _ hxy (by omega) hd9 (by rw [List.length_set]; exact hd4) hb (.inr ⟨_, _, rfl⟩)⟩
    · clear F2 N2
      intro h3 tk3 n ds d l1 o1 rest hds hd4 hdb F3 N3
      dsimp only [List.take, List.drop]
      tb_start
      refine hret _ n ds d _ _ hds hd4 hdb (by assumption) ?_
      rename News h₀ _ _ _ => N9
      exact fun p hp => N9 p (.tail _ hp)


-- PART ForP
theorem lnForP : True := by
  k_with_none
  trivial
/-! NOLINES the forest's fold -/
noncomputable def leafMenu : Nat → List Str
  | 0 => [Str.ofString "a", Str.ofString "A", Str.ofString "\\("]
  | 1 => [Str.ofString "b", Str.ofString "B", Str.ofString "\\)"]
  | 2 => [Str.ofString "c", Str.ofString "C", Str.ofString "\\\""]
  | _ => [Str.ofString "d", Str.ofString "D", Str.ofString "\\\\"]
noncomputable def leafS (i : Nat) (d : Int) : Str := (leafMenu i).getD ((d.fdiv 144).fmod 3).toNat Str.empty
noncomputable def plainOf (ys : List Str) : Str := Str.ofString "(" ++ Txt.join (Str.ofString "") ys ++ Str.ofString ")"
noncomputable def dressOf (r : Str) (ys : List Str) : Str := Str.ofString "(" ++ r ++ Txt.join (Str.ofString "") ys ++ Str.ofString ")"
noncomputable def riders : List Str := [Str.ofString "", Str.ofString "\"(\"", Str.ofString "\")\\\"\"", Str.ofString "\"e\""]
noncomputable def placeOf (l : Nat) (d : Int) : Nat := ((d.fmod 12).fmod (l : Int)).toNat
noncomputable def manyOf (d : Int) : Nat := (1 + (d.fdiv 12).fmod 3).toNat
noncomputable def riderOf (d : Int) : Str := riders.getD ((d.fdiv 36).fmod 4).toNat Str.empty
noncomputable def thStep (th : List (Str × Str)) (d : Int) : List (Str × Str) :=
  th.take (placeOf th.length d) ++ [(plainOf (((th.drop (placeOf th.length d)).take (manyOf d)).map (·.1)), dressOf (riderOf d) (((th.drop (placeOf th.length d)).take (manyOf d)).map (·.2)))] ++
    th.drop (placeOf th.length d + ((th.drop (placeOf th.length d)).take (manyOf d)).length)
noncomputable def th0 (d0 d1 d2 d3 : Int) : List (Str × Str) := [(leafS 0 d0, leafS 0 d0), (leafS 1 d1, leafS 1 d1), (leafS 2 d2, leafS 2 d2), (leafS 3 d3, leafS 3 d3)]
noncomputable def thF (d0 d1 d2 d3 : Int) (k : Nat) : List (Str × Str) := ([d0, d1, d2, d3].take k).foldl thStep (th0 d0 d1 d2 d3)
noncomputable def tot (ys : List Str) : Nat := (ys.map (·.length)).sum
structure ThOk (k : Nat) (th : List (Str × Str)) : Prop where
  one : 1 ≤ th.length
  four : th.length ≤ 4
  fst : tot (th.map (·.1)) ≤ 8 + 10 * k
  snd : tot (th.map (·.2)) ≤ 8 + 10 * k
theorem leaf_len (i : Nat) (d : Int) : (leafS i d).length ≤ 2 := by
  have key : ∀ i k : Nat, ((leafMenu i).getD k Str.empty).length ≤ 2 := fun i k => by
    have h4 : ∀ i : Nat, i ≤ 3 → ∀ k : Nat, k ≤ 3 → ((leafMenu i).getD k Str.empty).length ≤ 2 := by decide +kernel
    have hi : leafMenu i = leafMenu (min i 3) := by
      match i with
      | 0 => rfl
      | 1 => rfl
      | 2 => rfl
      | n + 3 => rw [show min (n + 3) 3 = 3 by omega]; rfl
    have hl : (leafMenu i).length = 3 := by
      match i with
      | 0 => rfl
      | 1 => rfl
      | 2 => rfl
      | n + 3 => rfl
    by_cases hk : k ≤ 3
    · rw [hi]; exact h4 _ (Nat.min_le_right _ _) k hk
    · have e : (leafMenu i).getD k Str.empty = Str.empty := by
        rw [List.getD_eq_getElem?_getD, List.getElem?_eq_none (by omega)]; rfl
      rw [e]; decide
  exact key i _
theorem th0_ok (d0 d1 d2 d3 : Int) : ThOk 0 (th0 d0 d1 d2 d3) := by
  have h0 := leaf_len 0 d0
  have h1 := leaf_len 1 d1
  have h2 := leaf_len 2 d2
  have h3 := leaf_len 3 d3
  constructor
  · exact Nat.le_of_ble_eq_true rfl
  · exact Nat.le_refl 4
  · simp only [th0, tot, List.map_cons, List.map_nil, List.sum_cons, List.sum_nil]; omega
  · simp only [th0, tot, List.map_cons, List.map_nil, List.sum_cons, List.sum_nil]; omega
noncomputable def ForJ (NM L1 : Addr) (oD : Obj) (D : Addr) (d0 d1 d2 d3 : Int) (t0 t1 t2 t3 : Tok) (n' : Nat) (news : List (Addr × Obj)) (k : Nat) (m : Str → Option Value) (led : List (Addr × Obj)) : Prop :=
  ∃ (es : List (Addr × Value × Value)) (th : List (Str × Str)) (R : Addr) (n : Nat) (rest : List (Str × Value)) (lr : List (Addr × Obj)), EntsAre es th ∧ th = thF d0 d1 d2 d3 k ∧ ThOk k th ∧
    m = ov (fun _ => none) ([(Str.ofString "names", .ref NM), (Str.ofString "things", Value.ref R)] ++ rest) ∧ (rest = [] ∨ ∃ v1 v2 v3 v4 v5 v6, rest = [(Str.ofString "number", v1), (Str.ofString "place", v2), (Str.ofString "taken", v3), (Str.ofString "rider", v4), (Str.ofString "plain", v5), (Str.ofString "dressed", v6)]) ∧
    led = (R, W.listOf (es.map fun e => Value.ref e.1).toArray n) :: (L1 + 1, oD) :: (D, W.listOf #[Value.int d0 t0, Value.int d1 t1, Value.int d2 t2, Value.int d3 t3] n') :: lr ∧ (∀ e ∈ es, (e.1, pairObj e.2.1 e.2.2) ∈ lr) ∧ ∀ p ∈ news, p ∈ lr
theorem for_start {d0 d1 d2 d3 : Int} {x0 x1 x2 x3 : Str} (hx : x0 = leafS 0 d0 ∧ x1 = leafS 1 d1 ∧ x2 = leafS 2 d2 ∧ x3 = leafS 3 d3) : ThOk 0 [(x0, x0), (x1, x1), (x2, x2), (x3, x3)] := by
  obtain ⟨rfl, rfl, rfl, rfl⟩ := hx
  exact th0_ok d0 d1 d2 d3
theorem for_perm {a b c d e f g h : Addr × Obj} {r : List (Addr × Obj)} {p : Addr × Obj} (hp : p ∈ a :: g :: h :: b :: c :: d :: e :: r) : p ∈ a :: b :: c :: d :: e :: f :: g :: h :: r := by
  simp only [List.mem_cons] at hp ⊢
  rcases hp with h | h | h | h | h | h | h | h <;> simp [h]
theorem for_item {d0 d1 d2 d3 : Int} {t0 t1 t2 t3 : Tok} {a : Itm} {r : List Itm} {k : Nat} (h : a :: r = (([Value.int d0 t0, Value.int d1 t1, Value.int d2 t2, Value.int d3 t3] : List Value).drop k).map Itm.val)
    (hd0 : 0 ≤ d0 ∧ d0 ≤ 100000000) (hd1 : 0 ≤ d1 ∧ d1 ≤ 100000000) (hd2 : 0 ≤ d2 ∧ d2 ≤ 100000000) (hd3 : 0 ≤ d3 ∧ d3 ≤ 100000000) :
    k < 4 ∧ (∃ d t, a = .val (.int d t) ∧ [d0, d1, d2, d3][k]? = some d ∧ 0 ≤ d ∧ d ≤ 100000000) ∧ r = (([Value.int d0 t0, Value.int d1 t1, Value.int d2 t2, Value.int d3 t3] : List Value).drop (k + 1)).map Itm.val := by
  match k with
  | 0 => injection h with h1 h2; exact ⟨by omega, ⟨d0, t0, h1, rfl, hd0⟩, h2⟩
  | 1 => injection h with h1 h2; exact ⟨by omega, ⟨d1, t1, h1, rfl, hd1⟩, h2⟩
  | 2 => injection h with h1 h2; exact ⟨by omega, ⟨d2, t2, h1, rfl, hd2⟩, h2⟩
  | 3 => injection h with h1 h2; exact ⟨by omega, ⟨d3, t3, h1, rfl, hd3⟩, h2⟩
  | n + 4 => simp at h
theorem for_end {d0 d1 d2 d3 : Int} {t0 t1 t2 t3 : Tok} {k : Nat} (h : [] = (([Value.int d0 t0, Value.int d1 t1, Value.int d2 t2, Value.int d3 t3] : List Value).drop k).map Itm.val) (hk : k ≤ 4) : k = 4 := by
  match k with
  | 0 => simp at h
  | 1 => simp at h
  | 2 => simp at h
  | 3 => simp at h
  | n + 4 => omega
theorem thF_next {d0 d1 d2 d3 d : Int} {k : Nat} (h : [d0, d1, d2, d3][k]? = some d) : thStep (thF d0 d1 d2 d3 k) d = thF d0 d1 d2 d3 (k + 1) := fold_next rfl h
theorem clip_nat (L n : Nat) : clipAt L (n : Int) = min n L := by
  unfold clipAt
  rw [if_neg (Int.not_lt.mpr (Int.natCast_nonneg n)), Int.max_eq_right (Int.le_min.mpr ⟨Int.natCast_nonneg n, Int.natCast_nonneg L⟩)]
  rcases Nat.le_total n L with h | h
  · rw [Int.min_eq_left (Int.ofNat_le.mpr h), Nat.min_eq_left h]; rfl
  · rw [Int.min_eq_right (Int.ofNat_le.mpr h), Nat.min_eq_right h]; rfl
theorem pick_mid {l : List Value} {x q : Int} (h0 : 0 ≤ x) (h1 : x < (l.length : Int)) (hq : 0 ≤ q) : slicePick l.toArray (some x) (some (x + 1 + q)) none = ((l.drop x.toNat).take (1 + q).toNat).toArray := by
  obtain ⟨n, rfl⟩ := Int.eq_ofNat_of_zero_le h0
  obtain ⟨k, rfl⟩ := Int.eq_ofNat_of_zero_le hq
  clear h0 hq
  replace h1 : n < l.length := Int.ofNat_lt.mp h1
  have e2 : (1 + (k : Int)).toNat = 1 + k := rfl
  rw [slicePick_plain]
  have e1 : (some (n : Int)).elim 0 (clipAt l.toArray.size) = n := (clip_nat _ _).trans (Nat.min_eq_left (Nat.le_of_lt h1))
  have e3 : (some ((n : Int) + 1 + (k : Int))).elim l.toArray.size (clipAt l.toArray.size) = min (n + 1 + k) l.length := clip_nat l.length (n + 1 + k)
  rw [e1, e3, e2, show l.toArray.toList = l from rfl, show ((n : Int)).toNat = n from rfl]
  congr 1
  rw [← List.take_length (l := l.drop n), List.take_take, List.take_take]
  congr 1
  rw [List.length_drop]
  clear e1 e3 e2
  rw [← Nat.sub_min_sub_right, Nat.add_assoc, Nat.add_sub_cancel_left]
  simp only [Nat.min_assoc, Nat.min_self]
theorem pick_to {l : List Value} {x : Int} (h0 : 0 ≤ x) : slicePick l.toArray none (some x) none = (l.take x.toNat).toArray := by
  obtain ⟨n, rfl⟩ : ∃ n : Nat, x = n := ⟨x.toNat, by omega⟩
  rw [slicePick_upto']
  simp
theorem pick_from {l : List Value} {x : Int} (h0 : 0 ≤ x) : slicePick l.toArray (some x) none none = (l.drop x.toNat).toArray := by
  obtain ⟨n, rfl⟩ : ∃ n : Nat, x = n := ⟨x.toNat, by omega⟩
  rw [slicePick_from']
  simp
theorem place_lt {l : Nat} {d : Int} (hl : 1 ≤ l) (hd : 0 ≤ d) : placeOf l d < l ∧ ((placeOf l d : Nat) : Int) = (d.fmod 12).fmod (l : Int) ∧ 0 ≤ (d.fmod 12).fmod (l : Int) ∧ (d.fmod 12).fmod (l : Int) < (l : Int) := by
  have h1 := Int.fmod_nonneg_of_pos (d.fmod 12) (show (0 : Int) < (l : Int) by omega)
  have h2 := Int.fmod_lt_of_pos (d.fmod 12) (show (0 : Int) < (l : Int) by omega)
  unfold placeOf
  omega
theorem EntsAre.drop {es ents} (h : EntsAre es ents) : ∀ k, EntsAre (es.drop k) (ents.drop k) := by
  induction h with
  | nil => intro k; simp; exact .nil
  | cons T n v t u h ih =>
    intro k
    cases k with
    | zero => exact .cons T n v t u h
    | succ k => exact ih k
theorem EntsAre.take {es ents} (h : EntsAre es ents) : ∀ k, EntsAre (es.take k) (ents.take k) := by
  induction h with
  | nil => intro k; simp; exact .nil
  | cons T n v t u h ih =>
    intro k
    cases k with
    | zero => exact .nil
    | succ k => exact .cons T n v t u (ih k)
theorem EntsAre.append {es ents es' ents'} (h : EntsAre es ents) (h' : EntsAre es' ents') : EntsAre (es ++ es') (ents ++ ents') := by
  induction h with
  | nil => exact h'
  | cons T n v t u h ih => exact .cons T n v t u ih
theorem EntsAre.fst {es ents} (h : EntsAre es ents) : StrsAre (es.map (·.2.1)) (ents.map (·.1)) := by
  induction h with
  | nil => exact .nil
  | cons T n v t u h ih => exact .cons _ _ ih
theorem EntsAre.snd {es ents} (h : EntsAre es ents) : StrsAre (es.map (·.2.2)) (ents.map (·.2)) := by
  induction h with
  | nil => exact .nil
  | cons T n v t u h ih => exact .cons _ _ ih
theorem tot_cons (y : Str) (ys : List Str) : tot (y :: ys) = y.length + tot ys := rfl
theorem tot_app (xs ys : List Str) : tot (xs ++ ys) = tot xs + tot ys := by simp [tot]
theorem tot_sub {xs ys : List Str} (h : xs.Sublist ys) : tot xs ≤ tot ys := by
  induction h with
  | slnil => exact Nat.le_refl _
  | cons a _ ih => rw [tot_cons]; omega
  | cons_cons a _ ih => rw [tot_cons, tot_cons]; omega
theorem light_of {ys : List Str} {t : Nat} (h : tot ys ≤ t) (ht : t ≤ 10000) (hl : ys.length ≤ 10000) : Light ys := by
  have e : tot ys = (ys.map (·.length)).sum := rfl
  unfold Light; omega
theorem join_len (ys : List Str) : (Txt.join (Str.ofString "") ys).length = tot ys := by
  have e := cl_join ys
  have h1 := len_cl (Txt.join (Str.ofString "") ys)
  simp only [cl] at e
  rw [h1, e, List.length_flatten, List.map_map]
  show _ = (ys.map (·.length)).sum
  congr 1
theorem rider_len (d : Int) : (riderOf d).length ≤ 5 := by
  have key : ∀ k : Nat, (riders.getD k Str.empty).length ≤ 5 := fun k => by
    have h4 : ∀ k : Nat, k ≤ 4 → (riders.getD k Str.empty).length ≤ 5 := by decide +kernel
    by_cases hk : k ≤ 4
    · exact h4 k hk
    · have e : riders.getD k Str.empty = Str.empty := by
        rw [List.getD_eq_getElem?_getD, List.getElem?_eq_none (by show 4 ≤ k; omega)]; rfl
      rw [e]; decide
  exact key _
theorem app_len (x y : Str) : (x ++ y).length = x.length + y.length := by
  show (x.cps ++ y.cps).size = _
  simp [Str.length]
theorem plain_len (ys : List Str) : (plainOf ys).length = tot ys + 2 := by
  have e1 : (Str.ofString "(").length = 1 := by decide +kernel
  have e2 : (Str.ofString ")").length = 1 := by decide +kernel
  unfold plainOf
  rw [app_len, app_len, join_len, e1, e2]; omega
theorem dress_len (r : Str) (ys : List Str) : (dressOf r ys).length = r.length + tot ys + 2 := by
  have e1 : (Str.ofString "(").length = 1 := by decide +kernel
  have e2 : (Str.ofString ")").length = 1 := by decide +kernel
  unfold dressOf
  rw [app_len, app_len, app_len, join_len, e1, e2]; omega
theorem split3 {α : Type} (l : List α) (p q : Nat) : l.take p ++ ((l.drop p).take q ++ l.drop (p + ((l.drop p).take q).length)) = l := by
  have e : l.drop (p + ((l.drop p).take q).length) = (l.drop p).drop q := by
    rw [List.length_take, List.drop_drop]
    by_cases h : q ≤ (l.drop p).length
    · rw [Nat.min_eq_left h]
    · rw [Nat.min_eq_right (by omega)]
      rw [List.length_drop] at h ⊢
      rw [List.drop_of_length_le (by omega), List.drop_of_length_le (by omega)]
  rw [e, List.take_append_drop, List.take_append_drop]
theorem thStep_ok {k : Nat} {th : List (Str × Str)} {d : Int} (h : ThOk k th) (hd : 0 ≤ d) : ThOk (k + 1) (thStep th d) := by
  obtain ⟨h1, h4, hf, hs⟩ := h
  have hp := (place_lt (d := d) h1 hd).1
  have hq : 1 ≤ manyOf d := by
    have := Int.fmod_nonneg_of_pos (d.fdiv 12) (show (0 : Int) < 3 by decide)
    unfold manyOf; omega
  have hr := rider_len d
  unfold thStep
  generalize placeOf th.length d = p at *
  generalize manyOf d = q at *
  generalize riderOf d = r at *
  have e := split3 th p q
  have el := congrArg List.length e
  have ef := congrArg (fun l => tot (l.map (·.1))) e
  have es := congrArg (fun l => tot (l.map (·.2))) e
  simp only [List.map_append, tot_app, List.length_append] at ef es el
  have ht : 1 ≤ ((th.drop p).take q).length := by
    rw [List.length_take, List.length_drop]; omega
  generalize (th.drop p).take q = mid at *
  generalize th.take p = a at *
  generalize th.drop (p + mid.length) = b at *
  constructor
  · simp only [List.length_append, List.length_cons, List.length_nil]; omega
  · simp only [List.length_append, List.length_cons, List.length_nil]; omega
  · simp only [List.map_append, tot_app, List.map_cons, List.map_nil, tot_cons, plain_len]
    have : tot [] = 0 := rfl
    omega
  · simp only [List.map_append, tot_app, List.map_cons, List.map_nil, tot_cons, dress_len]
    have : tot [] = 0 := rfl
    omega
theorem for_reord {a b c d e f g h i : Addr × Obj} {r : List (Addr × Obj)} {p : Addr × Obj} (hp : p ∈ a :: g :: e :: c :: f :: h :: i :: r) : p ∈ a :: b :: c :: d :: e :: f :: g :: h :: i :: r := by
  simp only [List.mem_cons] at hp ⊢
  rcases hp with h | h | h | h | h | h | h | h <;> simp [h]
theorem for_cat {es : List (Addr × Value × Value)} {p l : Nat} {T : Addr} (a b : Value) : (((es.map fun e => Value.ref e.1).take ((p : Nat) : Int).toNat ++ [Value.ref T]).toArray.toList ++ ((es.map fun e => Value.ref e.1).drop (((p : Nat) : Int) + ((l : Nat) : Int)).toNat).toArray.toList).toArray =
    ((es.take p ++ [(T, a, b)] ++ es.drop (p + l)).map fun e => Value.ref e.1).toArray := by
  have e1 : ((p : Nat) : Int).toNat = p := by omega
  have e2 : (((p : Nat) : Int) + ((l : Nat) : Int)).toNat = p + l := by omega
  rw [e1, e2]
  simp [List.map_take, List.map_drop]
theorem for_perm2 {a b c d e t i f g : Addr × Obj} {r : List (Addr × Obj)} {p : Addr × Obj} (hp : p ∈ [i] ++ a :: f :: g :: t :: r) : p ∈ a :: b :: c :: d :: e :: t :: i :: f :: g :: r := by
  simp only [List.mem_cons, List.mem_append, List.not_mem_nil, or_false] at hp ⊢
  rcases hp with h | h | h | h | h | h <;> simp [h]
theorem for_fresh {R R' T : Addr} {xs ys : Array Value} {n n' : Nat} {x y : Value} {f g : Addr × Obj} {lr : List (Addr × Obj)} {I : Addr} : ∀ p ∈ (R', W.listOf xs n) :: f :: g :: (T, pairObj x y) :: lr, (∃ o, (p.1, o) ∈ (R, W.listOf ys n') :: f :: g :: lr) ∨ ∀ w ∈ [(I, "list_iterator")], p.2.cls ≠ .type w.2 := by
  intro p hp
  rcases List.mem_cons.mp hp with rfl | hp
  · refine .inr fun w hw => ?_
    rw [List.mem_singleton.mp hw]; exact fun q => by injection q with q; exact absurd (show "list" = "list_iterator" from q) (by decide)
  rcases List.mem_cons.mp hp with rfl | hp
  · exact .inl ⟨_, .tail _ (.head _)⟩
  rcases List.mem_cons.mp hp with rfl | hp
  · exact .inl ⟨_, .tail _ (.tail _ (.head _))⟩
  rcases List.mem_cons.mp hp with rfl | hp
  · refine .inr fun w hw => ?_
    rw [List.mem_singleton.mp hw]; exact fun q => by injection q with q; exact absurd (show "tuple" = "list_iterator" from q) (by decide)
  · exact .inl ⟨_, .tail _ (.tail _ (.tail _ hp))⟩
theorem for_pairs {es : List (Addr × Value × Value)} {T : Addr} {x y : Value} {p q : Nat} {lr : List (Addr × Obj)} (h : ∀ e ∈ es, (e.1, pairObj e.2.1 e.2.2) ∈ lr) : ∀ e ∈ es.take p ++ [(T, x, y)] ++ es.drop q, (e.1, pairObj e.2.1 e.2.2) ∈ (T, pairObj x y) :: lr := by
  intro e he
  rcases List.mem_append.mp he with he | he
  · rcases List.mem_append.mp he with he | he
    · exact .tail _ (h e (List.mem_of_mem_take he))
    · rw [List.mem_singleton.mp he]; exact .head _
  · exact .tail _ (h e (List.mem_of_mem_drop he))
theorem for_last {t a b c d e : Addr × Obj} {news lr : List (Addr × Obj)} (h : ∀ p ∈ news, p ∈ lr) {p : Addr × Obj} (hp : p ∈ t :: news) : p ∈ t :: a :: b :: c :: d :: e :: lr := by
  rcases List.mem_cons.mp hp with rfl | hp
  · exact .head _
  · exact .tail _ (.tail _ (.tail _ (.tail _ (.tail _ (.tail _ (h p hp))))))


-- PART Comp
theorem lnComp : True := by
  k_with_none
  trivial
/-! NOLINES a comprehension that picks the first or the second of each pair, any number of them -/
section
variable {prog : Program} {w : World} {A : Around} {E : Value → Shared → Prop} {s : Shared} {h₀ : Heap} {L : Addr} {m : Str → Option Value} {env : Env}
open LCg LCp
theorem map_take_succ {α β : Type} {es : List α} {i : Nat} {e : α} (f : α → β) (h : es[i]? = some e) : (es.take i).map f ++ [f e] = (es.take (i + 1)).map f := by
  rw [List.take_add_one, h, List.map_append]; rfl
theorem restP_sel {x x₂ y : Str} {py : Pos} {scope : Scope} {cl : List (Str × Addr)} {S : List (Addr × Obj) → Prop} {P : Nat → Value → Prop} {Fin : List Value → List (Addr × Obj) → Prop} {es : List (Addr × Value × Value)} {news : List (Addr × Obj)} (sel : Addr × Value × Value → Value)
    (hsel : (y = x ∧ ∀ e, sel e = e.2.1) ∨ (y = x₂ ∧ ∀ e, sel e = e.2.2))
    (hP : ∀ i v, P i v → ∃ e, es[i]? = some e ∧ v = .ref e.1) (hT : ∀ e ∈ es, (e.1, pairObj e.2.1 e.2.2) ∈ news) (hS : S news)
    (hk : ∀ C, (compEnvC scope cl C env).scope.kind = .function) (hl : ∀ C, (compEnvC scope cl C env).kindOf y = some .local) (hd : (y == ("__debug__" : Str)) = false) (hF : Fin (es.map sel) news) :
    ∀ k i, k + i = es.length → CompRestP prog w A h₀ L m env (.Name y py) x x₂ scope cl s S P Fin k i ((es.take i).map sel) news
  | 0, i, h => by
    rw [List.take_of_length_le (by omega)]
    exact hF
  | k + 1, i, h => by
    intro v hv
    obtain ⟨e, he, rfl⟩ := hP i v hv
    refine ⟨e.1, pairObj e.2.1 e.2.2, e.2.1, e.2.2, _, rfl, hT e (List.mem_of_getElem? he), rfl, rfl, ?_⟩
    intro I oI C oC D m₂ h tk E' hC hx hx₂ F N off ne
    have hv : m₂ y = some (sel e) := by
      rcases hsel with ⟨rfl, q⟩ | ⟨rfl, q⟩
      · rw [hx, q]
      · rw [hx₂, q]
    refine LCgL.ld_own N (.tail _ (.head _)) hC hv ?_ (hk C) (hl C) hd
    refine CompEnd.intro F N news (fun p hp => hp) off hS ?_
    have ih := restP_sel (py := py) (Fin := Fin) sel hsel hP hT hS hk hl hd hF k (i + 1) (by omega)
    rw [map_take_succ sel he]
    exact ih
theorem comp_sel {iter : Expr} {x x₂ y : Str} {px px₂ py tp : Pos} {kk} {scope : Scope} {cl : List (Str × Addr)} {pos : Pos} {Q : Value → Shared → Prop} (sel : Addr × Value × Value → Value) (hsel : (y = x ∧ ∀ e, sel e = e.2.1) ∨ (y = x₂ ∧ ∀ e, sel e = e.2.2)) (F₀ : Fr h₀ L s.heap m)
    (hclos : closureFor scope env = pure cl) (hcell : ∀ y ∈ scope.names, y.2 ≠ .cell) (hkind : scope.kind = .function)
    (hnames : ∀ y ∈ scope.names, y.2 = .local → scope.names.lookup y.1 = some .local) (hx : scope.names.lookup x = some .local) (hx₂ : scope.names.lookup x₂ = some .local) (hxx : x ≠ x₂)
    (hk : ∀ C, (compEnvC scope cl C env).scope.kind = .function) (hl : ∀ C, (compEnvC scope cl C env).kindOf y = some .local) (hd : (y == ("__debug__" : Str)) = false) (hh : A.handled = none)
    (h : wpAny (model prog w) A (eval iter env) (fun v s₁ => Hold (∃ (R : Addr) (n : Nat) (es : List (Addr × Value × Value)) (news : List (Addr × Obj)) (hp : Heap) (tk : Nat), v = .ref R ∧ s₁ = { s with heap := hp, toks := tk } ∧ Fr h₀ L hp m ∧ News h₀ L hp news ∧ (R, W.listOf (es.map fun e => Value.ref e.1).toArray n) ∈ news ∧
      (∀ e ∈ es, (e.1, pairObj e.2.1 e.2.2) ∈ news) ∧ es.length ≤ sizeLine ∧ ∀ D h' tk', Fr h₀ L h' m → News h₀ L h' ((D, W.listOf (es.map sel).toArray es.length) :: news) → Off1 D news → Q (.ref D) { s with heap := h', toks := tk' })) E s)
    (hs : ∀ x, foldedSetIterable iter env x = pure x := by intro _; rfl) :
    wpAny (model prog w) A (eval (.ListComp (.Name y py) [⟨.Tuple [.Name x px, .Name x₂ px₂] kk tp, iter, [], 0⟩] scope pos) env) Q E s := by
  refine ListComp_P (F₀ := F₀) hclos hcell hkind hnames hx hx₂ hxx (wpAny_mono h (fun v s₁ h₁ => ?_) fun _ _ e => e) hs
  obtain ⟨R, n, es, news, hp, tk, rfl, rfl, F, N, hm, hT, hsz, hq⟩ := h₁
  refine SrcLP.ledger hh F N hm (by simpa using hsz) fun g => ?_
  have e := restP_sel (prog := prog) (w := w) (A := A) (h₀ := h₀) (L := L) (m := m) (env := env) (py := py) (x := x) (x₂ := x₂) (scope := scope) (cl := cl) (s := { { s with heap := hp, toks := tk } with heap := g }) (S := SrcAt h₀ R (es.map fun e => Value.ref e.1).toArray)
    (P := fun i v => (es.map fun e => Value.ref e.1).toArray[i]? = some v) (Fin := FinE h₀ L m { { s with heap := hp, toks := tk } with heap := g } Q) (es := es) (news := news) sel hsel (fun i v hv => by
      have hv' : (es.map fun e => Value.ref e.1)[i]? = some v := by simpa using hv
      rw [List.getElem?_map] at hv'
      cases he : es[i]? with
      | none => rw [he] at hv'; exact nomatch hv'
      | some e => rw [he] at hv'; exact ⟨e, rfl, (Option.some.inj hv').symm⟩) hT (.inr ⟨_, hm, rfl, _, rfl⟩) hk hl hd (fun D h' tk' F' N' o => hq D h' tk' F' (by
        have e : es.length = (es.map sel).length := by simp
        rw [e]; exact N') o) es.length 0 rfl
  have e2 : (es.map fun e => Value.ref e.1).toArray.size = es.length := by simp
  rw [e2]
  exact e
/-- the ledger's tuple, kept through the turns -/
noncomputable def TupAt (ax : Addr) (its : Array Value) (news : List (Addr × Obj)) : Prop := ∃ o, (ax, o) ∈ news ∧ o.cls = .type "tuple" ∧ ∃ n, o.data = .seq its n
theorem TupAt.tup {h : Heap} {ax : Addr} {its : Array Value} {news : List (Addr × Obj)} (x : TupAt ax its news) (N : News h₀ L h news) : h.IsTuple ax its := let ⟨o, hm, r⟩ := x; ⟨o, (N _ hm).1, r⟩
theorem assign_comp_tup {elt iter : Expr} {x y : Str} {px py : Pos} {scope : Scope} {cl : List (Str × Addr)} {pos spos : Pos} {Q : Flow → Shared → Prop} (F₀ : Fr h₀ L s.heap m) (hLe : env.locals = L)
    (hsw : swapsWith (.ListComp elt [⟨.Name x px, iter, [], 0⟩] scope pos) (some (.Name y py)) spos.line env = pure true)
    (hclos : closureFor scope env = pure cl) (hcell : ∀ z ∈ scope.names, z.2 ≠ .cell) (hkind : scope.kind = .function)
    (hnames : ∀ z ∈ scope.names, z.2 = .local → scope.names.lookup z.1 = some .local) (hx : scope.names.lookup x = some .local)
    (hy : env.kindOf y = some .local) (hp : (env.scope.kind == .class || (env.scope.kind == .module && env.locals != env.globals)) = false) (hh : A.handled = none)
    (h : wpAny (model prog w) A (eval iter env) (fun v s₁ => Hold (∃ (ax : Addr) (its : Array Value) (news : List (Addr × Obj)), v = .ref ax ∧ Fr h₀ L s₁.heap m ∧ News h₀ L s₁.heap news ∧ TupAt ax its news ∧ its.size ≤ sizeLine ∧
      ∀ g, CompRest prog w A h₀ L m env elt x scope cl { s₁ with heap := g } (TupAt ax its) (fun i v => its[i]? = some v) (FinA h₀ L m { s₁ with heap := g } y Q) its.size 0 [] news)) E s)
    (hs : ∀ x, foldedSetIterable iter env x = pure x := by intro _; rfl) :
    wpAny (model prog w) A (exec (.Assign [.Name y py] (.ListComp elt [⟨.Name x px, iter, [], 0⟩] scope pos) spos) env) Q E s := by
  subst hLe
  rw [exec_Assign_Name_used _ _ _ _ hsw]
  refine wpAny_bind (wpAny_standAt (wpAny_bind ?_))
  show wpAny _ A (do let _ ← comprehension (.ListComp elt [⟨.Name x px, iter, [], 0⟩] scope pos) scope env _ (newList []) false (eval iter env) (some (assign (.Name y py) env))) _ _ s
  refine wpAny_bind (wpAny_mono (wpAny_comprehension_free (use := some (assign (.Name y py) env)) (Q := fun _ s' => Q .next s') rfl hs hclos hkind hnames
    (wpAny_mono h (fun xv s₁ h₁ => ?_) fun _ _ e => e)) (fun _ s' hq => wpAny_pure (wpAny_pure hq)) fun _ _ e => e)
  obtain ⟨ax, its, news, rfl, F, N, S, hsz, R⟩ := h₁
  have hl := S.tup N
  have hlt : ax < s₁.heap.objs.size := by obtain ⟨_, e, _⟩ := hl; exact Heap.lt_size e
  refine wpAny_pyIter_tuple hl ?_
  have up : ∀ b o, s₁.heap.get? b = some o → (s₁.heap.push { cls := .type "tuple_iterator", data := .fields #[.ref ax, .int 0 0] }).get? b = some o := fun b o e => Heap.get?_push_of_some _ e
  refine block_U (Walks.tuple hh s₁.heap.objs.size ax (Nat.ne_of_lt hlt) its) hsz (fun i h st => by obtain ⟨o, e, _⟩ := st.1; exact ⟨o, e⟩)
    (fun i h h' o nw st e e' k N S => ⟨by obtain ⟨o', q, r⟩ := st.1; rw [e] at q; cases q; exact ⟨o, e', r⟩, S.tup N⟩) hcell hkind hx ⟨⟨_, Heap.get?_push_size _ rfl, rfl, rfl⟩, hl.at fun o e => up _ o e⟩ (fun b hb => ?_)
    (F.keeps up) (N.grown up) (Nat.ne_of_lt F.ns.lt) (next_is_new F) (fun p hp => Nat.ne_of_lt (Heap.lt_size (N p hp).1)) S (R _) ?_
  · show b < (s₁.heap.push _).objs.size
    rw [Heap.size_push]
    rcases List.mem_cons.mp hb with rfl | hb
    · exact Nat.lt_succ_self _
    · rw [List.mem_singleton.mp hb]; exact Nat.lt_succ_of_lt hlt
  · intro D C h' tk m' ys news' F' N' o1 hn hC₀ hD₀ hCL hDL hCD offC fin
    show wpAny _ A (assign (.Name y py) env (.ref D)) _ _ _
    refine wpAny_assign_Name (wpAny_storeName_local hy F'.ns (fun h₂ hn₂ hs₂ => ?_) hp)
    have hL₀ : h₀.get? env.locals = none := Heap.get?_none_of_le F'.above
    have F₂ : Fr h₀ env.locals h₂ (fun z => if z = y then some (.ref D) else m z) := ⟨hn₂, fun b o e => hs₂.extBut b o (fun q => by rw [q, hL₀] at e; cases e) (F'.keep b o e), F'.above⟩
    refine ⟨m', hn.sameBut hs₂ hCL, fun h'' hs'' => fin D h'' _ (F₂.change hs'' hCL hC₀) (fun p hp => ?_) o1⟩
    have z : h₂.get? p.1 = some p.2 := hs₂.extBut _ _ (N' p hp).2.1 (N' p hp).1
    refine ⟨hs''.extBut _ _ ?_ z, (N' p hp).2⟩
    rcases List.mem_cons.mp hp with rfl | hp
    · exact Ne.symm hCD
    · exact offC p hp
end


-- PART CompT
theorem lnCompT : True := by
  k_with_none
  trivial
/-! NOLINES one turn of a comprehension, what comes behind it one name -/
section
variable {prog : Program} {w : World} {A : Around} {E : Value → Shared → Prop} {s : Shared} {h₀ : Heap} {L : Addr} {m : Str → Option Value} {env : Env} {elt : Expr} {x x₂ : Str} {scope : Scope} {cl : List (Str × Addr)} {S : List (Addr × Obj) → Prop} {Fin : List Value → List (Addr × Obj) → Prop} {k i : Nat} {ys : List Value} {news : List (Addr × Obj)}
theorem rest_at {l : List Value} {v : Value} (hi : l[i]? = some v)
    (h : ∀ (R : Value → List (Addr × Obj) → Prop) (_ : ∀ y news', LCg.CompRest prog w A h₀ L m env elt x scope cl s S (fun i v => l.toArray[i]? = some v) Fin k (i + 1) (ys ++ [y]) news' → R y news') I oI C oC D m₂ h tk (E' : Value → Shared → Prop), LCg.NsObj oC m₂ → m₂ x = some v → Fr h₀ L h m →
      News h₀ L h ((I, oI) :: (C, oC) :: (D, LCg.lst ys) :: news) → LCg.Off3 I C D news → ((@Ne Nat I C) ∧ (@Ne Nat I D) ∧ (@Ne Nat C D)) →
      wpAny (model prog w) A (eval elt (compEnvC scope cl C env)) (LCg.CompEnd h₀ L m { s with heap := h, toks := tk } I oI C oC D (LCg.lst ys) S R) E' { s with heap := h, toks := tk }) :
    LCg.CompRest prog w A h₀ L m env elt x scope cl s S (fun i v => l.toArray[i]? = some v) Fin (k + 1) i ys news := fun v' I oI C oC D m₂ h' tk E' hv => by
  have e : v = v' := by
    have hv : l.toArray[i]? = some v' := hv
    rw [List.getElem?_toArray, hi] at hv
    exact Option.some.inj hv
  subst e
  exact h _ (fun _ _ h => h) I oI C oC D m₂ h' tk E'
theorem rest_rng {a : Int}
    (h : ∀ (t : Tok) (R : Value → List (Addr × Obj) → Prop) (_ : ∀ y news', LCg.CompRest prog w A h₀ L m env elt x scope cl s S (fun i v => ∃ t, v = .int (a + (i : Int)) t) Fin k (i + 1) (ys ++ [y]) news' → R y news') I oI C oC D m₂ h tk (E' : Value → Shared → Prop), LCg.NsObj oC m₂ → m₂ x = some (.int (a + (i : Int)) t) → Fr h₀ L h m →
      News h₀ L h ((I, oI) :: (C, oC) :: (D, LCg.lst ys) :: news) → LCg.Off3 I C D news → ((@Ne Nat I C) ∧ (@Ne Nat I D) ∧ (@Ne Nat C D)) →
      wpAny (model prog w) A (eval elt (compEnvC scope cl C env)) (LCg.CompEnd h₀ L m { s with heap := h, toks := tk } I oI C oC D (LCg.lst ys) S R) E' { s with heap := h, toks := tk }) :
    LCg.CompRest prog w A h₀ L m env elt x scope cl s S (fun i v => ∃ t, v = .int (a + (i : Int)) t) Fin (k + 1) i ys news := fun v' I oI C oC D m₂ h' tk E' hv => by
  obtain ⟨t, e⟩ := hv
  subst e
  exact h t _ (fun _ _ h => h) I oI C oC D m₂ h' tk E'
theorem restP_at {l : List Value} {t : Addr} {v₁ v₂ : Value} {nt : Nat} (hi : l[i]? = some (.ref t)) (hm : (t, ({ cls := .type "tuple", data := .seq #[v₁, v₂] nt } : Obj)) ∈ news)
    (h : ∀ (R : Value → List (Addr × Obj) → Prop) (_ : ∀ y news', LCp.CompRestP prog w A h₀ L m env elt x x₂ scope cl s S (fun i v => l.toArray[i]? = some v) Fin k (i + 1) (ys ++ [y]) news' → R y news') I oI C oC D m₂ h tk (E' : Value → Shared → Prop), LCg.NsObj oC m₂ → m₂ x = some v₁ → m₂ x₂ = some v₂ → Fr h₀ L h m →
      News h₀ L h ((I, oI) :: (C, oC) :: (D, LCg.lst ys) :: news) → LCg.Off3 I C D news → ((@Ne Nat I C) ∧ (@Ne Nat I D) ∧ (@Ne Nat C D)) →
      wpAny (model prog w) A (eval elt (compEnvC scope cl C env)) (LCg.CompEnd h₀ L m { s with heap := h, toks := tk } I oI C oC D (LCg.lst ys) S R) E' { s with heap := h, toks := tk }) :
    LCp.CompRestP prog w A h₀ L m env elt x x₂ scope cl s S (fun i v => l.toArray[i]? = some v) Fin (k + 1) i ys news := fun v' hv => by
  have e : Value.ref t = v' := by
    have hv : l.toArray[i]? = some v' := hv
    rw [List.getElem?_toArray, hi] at hv
    exact Option.some.inj hv
  subst e
  exact ⟨t, _, v₁, v₂, nt, rfl, hm, rfl, rfl, fun I oI C oC D m₂ h' tk E' => h _ (fun _ _ h => h) I oI C oC D m₂ h' tk E'⟩
end


-- PART Forest
theorem lnForest : True := by
  k_with_none
  k_with "call builtin:str.lower" => ((k_here; (with_reducible show wpAny _ _ (call (Value.builtin "str.lower") [Value.str _ _]) _ _ _); (refine SCL.lower (by omega) ?_); intro _))
  k_with "subscriptTail Name Slice str ref" => (((with_reducible show wpAny _ _ (subscriptTail _ (Expr.Slice none (some (Expr.BoolOp _ _ _)) none _) _ _) _ _ _); (with_reducible rename Fr _ _ _ _ => F'); (with_reducible rename News _ _ _ _ => N'); (first | refine slice_strN_nn_len (s := ⟨_, _, _, _, _⟩) F' N' ?_ | refine slice_strN_ns_len (s := ⟨_, _, _, _, _⟩) F' N' ?_); intro _ _ _ _ _ _))
  k_with "tb_start" => (((try (show wpAny _ _ _ _ _ _)); (try k_fold); (repeat' ((fail_if_success (with_reducible show InvEndN _ _ _ _ _ _ _)); first | (k_unfold; (try dsimp only)) | (k_end; wrow_close) | walk1 | (dsimp only; walk1) | (dsimp only; k_unfold; (try dsimp only)) | (leave1; walk_say "STEP leave1"; try dsimp only) | fail "no step")); (all_goals (try dsimp only))))
  k_with "ktr_unf" => (repeat' ((fail_if_success (with_reducible show InvEndN _ _ _ _ _ _ _)); (fail_if_success (with_reducible show wpAny _ _ (exec (Stmt.While _ _ _ _) _) _ _ _)); (fail_if_success (with_reducible show wpAny _ _ (exec (Stmt.For _ _ _ _ _) _) _ _ _)); (fail_if_success (with_reducible show wpAny _ _ (pyIter _) _ _ _)); first | (k_unfold; (try dsimp only)) | (k_end; wrow_close) | walk1 | (dsimp only; walk1) | (dsimp only; k_unfold; (try dsimp only)) | (leave1; walk_say "STEP leave1"; try dsimp only) | fail "no step"))
  k_with "tb_nf" => (((repeat' ((fail_if_success (with_reducible show InvEndN _ _ _ _ _ _ _)); first | (k_unfold; (try dsimp only)) | (k_end; wrow_close) | walk1 | (dsimp only; walk1) | (dsimp only; k_unfold; (try dsimp only)) | (leave1; walk_say "STEP leave1"; try dsimp only) | fail "no step")); (all_goals (try dsimp only))))
  trivial
theorem lnForest_0 : True := by
  k_with "k_room" => (ktr_room)
  k_with "subscriptTail" => ((k_here; (with_reducible show wpAny _ _ (subscriptTail (Expr.Tuple _ _ _) _ (Value.ref _) (Value.int _ _)) _ _ _); k_dflt (refine' KTb.item_tup (vs := [_, _, _]) ?ktbl ?ktbw ?ktb0 ?ktb1 ?ktbf ?_; (case ktbl => exact News.isTup (by k_asm) (by k_mem)); (case ktbw => repeat constructor); (case ktb0 => ktb_idx); (case ktb1 => ktb_idx); (case ktbf => ktb_idx)); intro _ ktbLt; clear ktbLt))
  trivial
theorem item_lit {prog : Program} {w : World} {A : Around} {E : Value → Shared → Prop} {s : Shared} {value slice : Expr} {l : Addr} {vs : List Value} {k : Int} {u : Tok} {v : Value} {Q : Value → Shared → Prop} (hl : s.heap.IsList l vs.toArray) (h0 : 0 ≤ k) (hhi : k < 2 ^ 63) (hx : vs[k.toNat]? = some v) (h : Q v s)
    (hs : subscripted slice false (.ref l) (.int k u) = operate [.ref l, .int k u] (getItem (.ref l) (.int k u)) := by with_unfolding_all rfl) :
    wpAny (model prog w) A (subscriptTail value slice (.ref l) (.int k u)) Q E s :=
  tail_any hl.typeIs slot_list_getitem.lookup (wpAny_getItem_list hl h0 hhi (by simpa using hx) h) hs
theorem lnForest_1 : True := by
  k_with "subscriptTail Name Name ref int" => ((k_here; (with_reducible show wpAny _ _ (subscriptTail (Expr.Name _ _) (Expr.Name _ _) (Value.ref _) (Value.int _ _)) _ _ _); k_dflt (refine item_lit (News.isList (by k_asm) (by k_mem)) (by decide) (by decide) rfl ?_)))
  k_with "subscriptTail" => ((k_here; (with_reducible show wpAny _ _ (subscriptTail (Expr.Name _ _) (Expr.BinOp _ _ _ _) (Value.ref _) (Value.int _ _)) _ _ _); k_dflt (refine' KTb.item_tup (vs := [_, _, _, _]) ?ktbl ?ktbw ?ktb0 ?ktb1 ?ktbf ?_; (case ktbl => exact News.isTup (by k_asm) (by k_mem)); (case ktbw => repeat constructor); (case ktb0 => ktb_idx); (case ktb1 => ktb_idx); (case ktbf => ktb_idx)); intro _ ktbLt; clear ktbLt))
  trivial
theorem comp_end_tup {h₀ : Heap} {L I C D T : Addr} {m : Str → Option Value} {s₁ : Shared} {oI oC oD oT : Obj} {S : List (Addr × Obj) → Prop} {rest : Value → List (Addr × Obj) → Prop} {h' : Heap} {tk : Nat} {old : List (Addr × Obj)}
    (F : Fr h₀ L h' m) (N : News h₀ L h' ((T, oT) :: (I, oI) :: (C, oC) :: (D, oD) :: old)) (hne : (@Ne Nat T I) ∧ (@Ne Nat T C) ∧ (@Ne Nat T D)) (off : LCg.Off3 I C D old) (hS : S ((T, oT) :: old)) (r : rest (.ref T) ((T, oT) :: old)) :
    LCg.CompEnd h₀ L m s₁ I oI C oC D oD S rest (.ref T) { s₁ with heap := h', toks := tk } :=
  LCg.CompEnd.intro F N ((T, oT) :: old) (fun p hp => by
    simp only [List.mem_cons] at hp ⊢
    rcases hp with hp | hp | hp | hp | hp <;> simp [hp]) ⟨hne, off⟩ hS r
theorem lnForest_2 : True := by
  k_with "CompSrc" => (k_dflt (first
  | (refine LCg.CompSrc.ledger (by rfl) (by k_asm) (by k_asm) (by k_mem) (by first | size_fits | exact Nat.le_of_ble_eq_true rfl) ?_; intro g'; lcg_lit)
  | (refine LCg.CompSrc.range (by rfl) (by k_asm) (by k_asm) (by assumption) (by first | decide | rfl) (by first | rfl | decide) (by first | size_fits | exact Nat.le_of_ble_eq_true rfl) ?_; intro g'; lcg_lit)))
  k_with "CompRest" => (k_dflt (with_unfolding_all first
  | (refine rest_at (by rfl) ?_; intro R9 hR9 I' oI' C' oC' D' m' h' tk' E' hC' hx' F' N' off' ne'; (try dsimp only); (try k_fold))
  | (refine rest_rng ?_; intro t9'; intro R9 hR9 I' oI' C' oC' D' m' h' tk' E' hC' hx' F' N' off' ne'; (try dsimp only); (try k_fold))
  | refine LCg.CompRest.zero ?_))
  k_with "CompEnd" => (k_dflt (first
  | ((with_reducible show LCg.CompEnd _ _ _ _ _ _ _ _ _ _ _ _ (Value.ref _) _); refine comp_end_tup (by assumption) (by assumption) ⟨by k_ne, by k_ne, by k_ne⟩ (by assumption) (by first | exact trivial | lcg_src | exact .inr ⟨_, by k_mem, rfl, _, rfl⟩) ?_)
  | refine LCg.CompEnd.intro (by assumption) (by assumption) _ (by first | exact fun p hp => hp | exact fun p hp => .tail _ hp) (by assumption) (by first | exact trivial | assumption | lcg_src) ?_); (try refine hR9 _ _ ?_); (try clear hR9))
  k_with "eval ListComp" => ((k_here; k_dflt ((with_reducible rename Fr _ _ _ _ => lF'); (first
  | refine comp_sel (fun e => e.2.1) (.inl ⟨rfl, fun _ => rfl⟩) lF' (by with_unfolding_all rfl) (by decide) (by rfl) (by decide) (by rfl) (by rfl) (by decide) (fun _ => rfl) (fun _ => rfl) (by decide) (by with_unfolding_all rfl) ?_
  | refine comp_sel (fun e => e.2.2) (.inr ⟨rfl, fun _ => rfl⟩) lF' (by with_unfolding_all rfl) (by decide) (by rfl) (by decide) (by rfl) (by rfl) (by decide) (fun _ => rfl) (fun _ => rfl) (by decide) (by with_unfolding_all rfl) ?_))))
  k_with "call builtin:str.join" => ((k_here; k_dflt ((with_reducible show wpAny _ _ (call (Value.builtin "str.join") [Value.str _ _, Value.ref _]) _ _ _); refine join_listW (News.isList (by assumption) (.head _)) (strs_arr (by assumption)) (by decide) (Light.ok (by assumption)) ?_); intro _ _))
  k_with "k_all" => (with_reducible assumption)
  trivial
theorem fo_sub {a b c d e : Addr × Obj} {r : List (Addr × Obj)} {p : Addr × Obj} (h : p ∈ a :: d :: e :: r) : p ∈ a :: b :: c :: d :: e :: r := by
  simp only [List.mem_cons] at h ⊢
  rcases h with h | h | h | h <;> simp [h]
theorem sel_mk {h₀ : Heap} {L R : Addr} {m : Str → Option Value} {G : Array GenState} {dr : Drawn} {o : OsState} {sel : Addr × Value × Value → Value} {K : Addr → Heap → Nat → Prop} {n : Nat} {es : List (Addr × Value × Value)} {news : List (Addr × Obj)} {hp : Heap} {tk : Nat} (F : Fr h₀ L hp m) (N : News h₀ L hp news) (hm : (R, W.listOf (es.map fun e => Value.ref e.1).toArray n) ∈ news)
    (hT : ∀ e ∈ es, (e.1, pairObj e.2.1 e.2.2) ∈ news) (hsz : es.length ≤ sizeLine) (k : ∀ D h' tk', Fr h₀ L h' m → News h₀ L h' ((D, W.listOf (es.map sel).toArray es.length) :: news) → LCg.Off1 D news → K D h' tk') :
    Hold (∃ (R' : Addr) (n : Nat) (es : List (Addr × Value × Value)) (news : List (Addr × Obj)) (hp' : Heap) (tk' : Nat), Value.ref R = .ref R' ∧ (⟨hp, G, dr, tk, o⟩ : Shared) = ⟨hp', G, dr, tk', o⟩ ∧ Fr h₀ L hp' m ∧ News h₀ L hp' news ∧ (R', W.listOf (es.map fun e => Value.ref e.1).toArray n) ∈ news ∧
      (∀ e ∈ es, (e.1, pairObj e.2.1 e.2.2) ∈ news) ∧ es.length ≤ sizeLine ∧ ∀ D h' tk', Fr h₀ L h' m → News h₀ L h' ((D, W.listOf (es.map sel).toArray es.length) :: news) → LCg.Off1 D news → K D h' tk') := ⟨R, n, es, news, hp, tk, rfl, rfl, F, N, hm, hT, hsz, k⟩
theorem turn_end {h₀ : Heap} {L : Addr} {s : Shared} {ws : List (Addr × String)} {its keep news : List (Addr × Obj)} {J : (Str → Option Value) → List (Addr × Obj) → Prop} {h' : Heap} {tk' : Nat} {m' : Str → Option Value} {news' : List (Addr × Obj)} (F : Fr h₀ L h' m') (N : News h₀ L h' (its ++ news')) (hf : ∀ p ∈ news', (∃ o, (p.1, o) ∈ news) ∨ ∀ w ∈ ws, p.2.cls ≠ .type w.2) (hk : SubL keep news') (hJ : J m' news') :
    Hold (TurnEnd h₀ L s ws its keep news J { s with heap := h', toks := tk' }) := ⟨h', tk', m', news', rfl, F, N, hf, hk, hJ⟩
theorem objs1C {a : Addr} {c : String} {its : List (Addr × Obj)} (P : List (Addr × Obj) → Prop) (h : Objs [(a, c)] its) (k : ∀ o, o.cls = .type c → P [(a, o)]) : P its := by
  obtain ⟨o, rfl, ho⟩ := objs1 h
  exact k o ho
/-- the turns of the forest's loop -/
inductive ForU (NM L1 : Addr) (oD : Obj) (D : Addr) (d0 d1 d2 d3 : Int) (t0 t1 t2 t3 : Tok) (n' : Nat) (news : List (Addr × Obj)) (k : Nat) : (Str → Option Value) → List (Addr × Obj) → Prop
  | mk (u : Str → Option Value) (es : List (Addr × Value × Value)) (th : List (Str × Str)) (R : Addr) (n : Nat) (lr : List (Addr × Obj)) (hea : EntsAre es th) (hth : th = thF d0 d1 d2 d3 k) (hok : ThOk k th) (hT : ∀ e ∈ es, (e.1, pairObj e.2.1 e.2.2) ∈ lr) (hnw : ∀ p ∈ news, p ∈ lr) :
    ForU NM L1 oD D d0 d1 d2 d3 t0 t1 t2 t3 n' news k (ov u [(Str.ofString "names", .ref NM), (Str.ofString "things", Value.ref R)]) ((R, W.listOf (es.map fun e => Value.ref e.1).toArray n) :: (L1 + 1, oD) :: (D, W.listOf #[Value.int d0 t0, Value.int d1 t1, Value.int d2 t2, Value.int d3 t3] n') :: lr)
inductive ForI (NM L1 : Addr) (oD : Obj) (D : Addr) (d0 d1 d2 d3 : Int) (t0 t1 t2 t3 : Tok) (n' : Nat) (news : List (Addr × Obj)) (its : List Itm) (m : Str → Option Value) (led : List (Addr × Obj)) : Prop
  | mk (k : Nat) (hk : its = (([Value.int d0 t0, Value.int d1 t1, Value.int d2 t2, Value.int d3 t3] : List Value).drop k).map Itm.val) (hk4 : k ≤ 4) (hJ : ForU NM L1 oD D d0 d1 d2 d3 t0 t1 t2 t3 n' news k m led) : ForI NM L1 oD D d0 d1 d2 d3 t0 t1 t2 t3 n' news its m led
theorem for_itemC {d0 d1 d2 d3 : Int} {t0 t1 t2 t3 : Tok} {a : Itm} {r : List Itm} {k : Nat} {v : Value} {hp : Heap} (P : Value → Prop) (h : a :: r = (([Value.int d0 t0, Value.int d1 t1, Value.int d2 t2, Value.int d3 t3] : List Value).drop k).map Itm.val) (hv : a.Is v hp)
    (hd0 : 0 ≤ d0 ∧ d0 ≤ 100000000) (hd1 : 0 ≤ d1 ∧ d1 ≤ 100000000) (hd2 : 0 ≤ d2 ∧ d2 ≤ 100000000) (hd3 : 0 ≤ d3 ∧ d3 ≤ 100000000)
    (kont : ∀ d t, k < 4 → [d0, d1, d2, d3][k]? = some d → 0 ≤ d → d ≤ 100000000 → r = (([Value.int d0 t0, Value.int d1 t1, Value.int d2 t2, Value.int d3 t3] : List Value).drop (k + 1)).map Itm.val → P (.int d t)) : P v := by
  obtain ⟨h4, ⟨d, t, rfl, h1, h2, h3⟩, hr⟩ := for_item h hd0 hd1 hd2 hd3
  have e : v = .int d t := hv
  subst e
  exact kont d t h4 h1 h2 h3 hr
theorem for_startU {NM L1 : Addr} {oD : Obj} {D : Addr} {d0 d1 d2 d3 : Int} {t0 t1 t2 t3 : Tok} {n' : Nat} {news : List (Addr × Obj)} {x0 x1 x2 x3 : Str} {u0 u1 u2 u3 v0 v1 v2 v3 : Tok} {R T0 T1 T2 T3 : Addr} {n : Nat} (hx : x0 = leafS 0 d0 ∧ x1 = leafS 1 d1 ∧ x2 = leafS 2 d2 ∧ x3 = leafS 3 d3) :
    ForU NM L1 oD D d0 d1 d2 d3 t0 t1 t2 t3 n' news 0 (ov (fun _ => none) [(Str.ofString "names", .ref NM), (Str.ofString "things", Value.ref R)]) ((R, W.listOf #[.ref T0, .ref T1, .ref T2, .ref T3] n) :: (L1 + 1, oD) :: (D, W.listOf #[Value.int d0 t0, Value.int d1 t1, Value.int d2 t2, Value.int d3 t3] n') ::
      (T3, pairObj (.str x3 u3) (.str x3 v3)) :: (T2, pairObj (.str x2 u2) (.str x2 v2)) :: (T1, pairObj (.str x1 u1) (.str x1 v1)) :: (T0, pairObj (.str x0 u0) (.str x0 v0)) :: news) :=
  .mk _ [(T0, .str x0 u0, .str x0 v0), (T1, .str x1 u1, .str x1 v1), (T2, .str x2 u2, .str x2 v2), (T3, .str x3 u3, .str x3 v3)] [(x0, x0), (x1, x1), (x2, x2), (x3, x3)] R n _ (.cons _ x0 x0 u0 v0 (.cons _ x1 x1 u1 v1 (.cons _ x2 x2 u2 v2 (.cons _ x3 x3 u3 v3 .nil)))) (by obtain ⟨rfl, rfl, rfl, rfl⟩ := hx; rfl) (for_start hx)
    (List.forall_mem_cons.mpr ⟨.tail _ (.tail _ (.tail _ (.head _))), List.forall_mem_cons.mpr ⟨.tail _ (.tail _ (.head _)), List.forall_mem_cons.mpr ⟨.tail _ (.head _), List.forall_mem_cons.mpr ⟨.head _, fun _ h => nomatch h⟩⟩⟩⟩) (fun p hp => .tail _ (.tail _ (.tail _ (.tail _ hp))))
theorem mid_eq (es : List (Addr × Value × Value)) (p : Nat) (d : Int) : (((es.map fun e => Value.ref e.1).drop ((p : Nat) : Int).toNat).take (1 + (d.fdiv 12).fmod 3).toNat) = ((es.drop p).take (manyOf d)).map fun e => Value.ref e.1 := by
  rw [List.map_take, List.map_drop]; rfl
/-- what is known of the things taken -/
structure Tkn (es' : List (Addr × Value × Value)) (th' : List (Str × Str)) : Prop where
  ea : EntsAre es' th'
  l4 : th'.length ≤ 4
  sz : es'.length ≤ sizeLine
  S1 : StrsAre (es'.map (·.2.1)) (th'.map (·.1))
  S2 : StrsAre (es'.map (·.2.2)) (th'.map (·.2))
  L1 : Light (th'.map (·.1))
  L2 : Light (th'.map (·.2))
  j1 : (Txt.join (Str.ofString "") (th'.map (·.1))).length ≤ 100
  j2 : (Txt.join (Str.ofString "") (th'.map (·.2))).length ≤ 100
theorem tkn_of {es : List (Addr × Value × Value)} {th : List (Str × Str)} {k : Nat} (hea : EntsAre es th) (hok : ThOk k th) (hk : k ≤ 4) (p q : Nat) : Tkn ((es.drop p).take q) ((th.drop p).take q) := by
  have hea' : EntsAre ((es.drop p).take q) ((th.drop p).take q) := (hea.drop _).take _
  have hsub : ((th.drop p).take q).Sublist th := (List.take_sublist _ _).trans (List.drop_sublist _ _)
  generalize (es.drop p).take q = es' at *
  generalize (th.drop p).take q = th' at *
  have h4 := hok.four
  have hl' : th'.length ≤ 4 := Nat.le_trans hsub.length_le h4
  have htf := tot_sub (hsub.map (·.1))
  have hts := tot_sub (hsub.map (·.2))
  have hf1 := hok.fst
  have hf2 := hok.snd
  exact ⟨hea', hl', by
      have e1 := hea'.len
      have e2 : 100 ≤ sizeLine := by decide
      omega, hea'.fst, hea'.snd, light_of (t := 100) (by omega) (by decide) (by simp; omega), light_of (t := 100) (by omega) (by decide) (by simp; omega), by rw [join_len]; omega, by rw [join_len]; omega⟩
theorem forest_con (w : World) (loose : List Str) (mean : ExcName → Option Value) (mg mb : Str → Option Value) (news : List (Addr × Obj)) (D : Addr) (n' : Nat) (d0 d1 d2 d3 : Int) (t0 t1 t2 t3 : Tok) (hd0 : 0 ≤ d0 ∧ d0 ≤ 100000000) (hd1 : 0 ≤ d1 ∧ d1 ≤ 100000000) (hd2 : 0 ≤ d2 ∧ d2 ≤ 100000000) (hd3 : 0 ≤ d3 ∧ d3 ≤ 100000000) :
   ∀ (dp un : Nat) (gd : Option (List Code)) (cn : Str) (cs : Scope) (ad : Addr) (ccd : Value) (cls : List (Str × Addr)) (outer : List Env) (A₀ : Around) (base h₀ : Heap) (L : Addr) (m : Str → Option Value) (s : Shared) (Q E : Value → Shared → Prop),
    Below A₀ base outer h₀ → Fr h₀ L s.heap m → (KK w.params).In h₀ → News h₀ L s.heap ((D, W.listOf #[.int d0 t0, .int d1 t1, .int d2 t2, .int d3 t3] n') :: news) → Top QQ loose mean mg mb h₀ → cs.kind = .function →
    dp + 3 < recursionLimit → un + 20 < cLine →
    (∀ (T : Addr) (tp tq : Tok) (h' : Heap) (tk' : Nat), Fr h₀ L h' m → News h₀ L h' ((T, pairObj (.str (Txt.join (Str.ofString "") ((thF d0 d1 d2 d3 4).map (·.1))) tp) (.str (Txt.join (Str.ofString "") ((thF d0 d1 d2 d3 4).map (·.2))) tq)) :: news) → Q (.ref T) ⟨h', s.gens, s.drawn, tk', s.os⟩) →
      wpAny (model PySem.Challenge.rw_sh0066_01.row.prog w) (ktrTop dp un gd cn cs L ad ccd cls outer) (call (.ref 225) [.ref D]) Q E s := by
  k_fill
  intro dp un gd cn cs ad ccd cls outer A₀ base h₀ L m s Q E B F X N T hk hdp hu hret
  refine wpAny_call ?_
  k_dflt (refine' code_defC ?k1 ?k2 ?k3 ?k4 ?k5 ?kA ?kF ?kK ?k6 ?k7 ?k8 ?k9 ?kB ?kD ?_ ?c2 ?c3 ?c4; (case kA => exact rfl); (case kF => exact rfl); (case kK => assumption); (case k1 => k_asm); (case k2 => k_asm); (case k3 => k_asm); (case k4 => k_asm); (case k5 => k_asm); (case k6 => k_is); (case k7 => k_is); (case k8 => ktr_room); (case k9 => exact BindsTo.of_eq rfl); (case kB => exact rfl); (case kD => decide +kernel); (case c2 => exact rfl); (case c3 => exact rfl); (case c4 => exact rfl))
  intro g1 L1 h1 tk1 cells1 FG1 F1 N1 Y1 B1 X1 T1 l1
  obtain ⟨oM, oD, rfl, dM, dD⟩ := CellsAre.two Y1
  clear Y1
  change oM.data = .cell none at dM
  change oD.data = .cell (some (.ref D)) at dD
  replace F1 : Fr g1 L1 h1 (ov (fun _ => none) []) := fr_eq F1 (by rfl)
  change News g1 L1 h1 ((L1 + 1 + 1, oM) :: (L1 + 1, oD) :: (D, _) :: news) at N1
  have l2 : ∀ p ∈ news, p.1 ≠ L1 + 1 + 1 := fun p hp => Nat.ne_of_lt (Nat.lt_succ_of_lt (Nat.lt_succ_of_lt (l1 p (.tail _ hp))))
  replace l1 : @LT.lt Nat _ D L1 := l1 _ (.head _)
  refine execs_cutC 1 (fun J => ∀ h tk M oM n ta tb tc td, oM.data = Data.cell (some (.ref M)) → @LT.lt Nat _ (L1 + 1 + 1) M → Fr g1 L1 h (ov (fun _ => none) []) → News g1 L1 h ((M, W.listOf #[.str (Str.ofString "\\(") ta, .str (Str.ofString "\\)") tb, .str (Str.ofString "\\\"") tc, .str (Str.ofString "\\\\") td] n) :: (L1 + 1 + 1, oM) :: (L1 + 1, oD) :: (D, W.listOf #[Value.int d0 t0, Value.int d1 t1, Value.int d2 t2, Value.int d3 t3] n') :: news) → J ⟨h, s.gens, s.drawn, tk, s.os⟩) (fun J hJ => ?_) ?_
  · dsimp only [List.take, List.drop]
    --[
    k_fold
    tb_start
    exact hJ _ _ _ _ _ _ _ _ _ (by assumption) (by omega) (by assumption) (by assumption)
    --]
  · clear F1 N1 dM
    intro h2 tk2 M oM nM ta tb tc td dM hM F2 N2
    dsimp only [List.take, List.drop]
    refine execs_cutC 1 (fun J => ∀ h tk NM x0 x1 x2 x3 u0 u1 u2 u3, (x0 = leafS 0 d0 ∧ x1 = leafS 1 d1 ∧ x2 = leafS 2 d2 ∧ x3 = leafS 3 d3) → Fr g1 L1 h (ov (fun _ => none) [(Str.ofString "names", Value.ref NM)]) → News g1 L1 h ((NM, W.listOf #[.str x0 u0, .str x1 u1, .str x2 u2, .str x3 u3] 4) :: (L1 + 1, oD) :: (D, W.listOf #[Value.int d0 t0, Value.int d1 t1, Value.int d2 t2, Value.int d3 t3] n') :: news) → J ⟨h, s.gens, s.drawn, tk, s.os⟩) (fun J hJ => ?_) ?_
    · dsimp only [List.take, List.drop]
      --[
      show wpAny _ _ _ _ _ _
      k_fold
      refine wpAny_execs_cons (LCg.Assign_ListComp_U (F₀ := F2) (by rfl) (by with_unfolding_all rfl) (by with_unfolding_all rfl) (by decide) (by rfl) (by decide) (by rfl) (by rfl) (by rfl) ?_)
      lcg_toSrc
      tb_start
      rename Fr g1 L1 _ _ => F9
      rename News g1 L1 _ _ => N9
      exact hJ _ _ _ _ _ _ _ _ _ _ _ ⟨rfl, rfl, rfl, rfl⟩ (fr_ov F9 rfl) (fun p hp => N9 p (fo_sub hp))
      --]
    · clear F2 N2
      intro h3 tk3 NM x0 x1 x2 x3 u0 u1 u2 u3 hx F3 N3
      dsimp only [List.take, List.drop]
      refine execs_cutC 1 (fun J => ∀ h tk m led, ForU NM L1 oD D d0 d1 d2 d3 t0 t1 t2 t3 n' news 0 m led → Fr g1 L1 h m → News g1 L1 h led → J ⟨h, s.gens, s.drawn, tk, s.os⟩) (fun J hJ => ?_) ?_
      · dsimp only [List.take, List.drop]
        --[
        tb_start
        rename Fr g1 L1 _ _ => F9
        rename News g1 L1 _ _ => N9
        exact hJ _ _ _ _ (for_startU hx) (fr_ov F9 rfl) (fun p hp => N9 p (for_perm hp))
        --]
      · clear F3 N3
        intro h4 tk4 m4 led4 hJ4 F4 N4
        dsimp only [List.take, List.drop]
        refine execs_cutC 1 (fun J => ∀ h tk m led, ForU NM L1 oD D d0 d1 d2 d3 t0 t1 t2 t3 n' news 4 m led → Fr g1 L1 h m → News g1 L1 h led → J ⟨h, s.gens, s.drawn, tk, s.os⟩) (fun J hJc => ?_) ?_
        · dsimp only [List.take, List.drop]
          refine wpAny_execs_cons (for_turns F4 ?h)
          have hJ5 := hJ4
          obtain ⟨u, es, th, R, n, lr, hea, hth, hok, hT, hnw⟩ := hJ5
          show wpAny _ _ _ _ _ _
          k_extra "tb_nf"
          refine list_for (ForI NM L1 oD D d0 d1 d2 d3 t0 t1 t2 t3 n' news) rfl F4 N4 (.tail _ (.tail _ (.head _))) rfl rfl (.mk 0 rfl (by decide) hJ4) ?turn ?done
          case done =>
            intro m5 led5 h5 tk5 hJ0 F5 N5
            obtain ⟨k, hk, hk4, hJ⟩ := hJ0
            rw [for_end hk hk4] at hJ
            exact wpAny_execs_nil (hJc _ _ _ _ hJ F5 N5)
          case turn =>
            clear F4 N4 hJ4 hea hth hok hT hnw es th R n u lr
            intro I a r m5 led5 v5 h5 tk5 its hJ0 hv F5 hits N5 hap
            clear hap
            obtain ⟨k, hk, hk4, hJ⟩ := hJ0
            obtain ⟨oI, rfl, hoI⟩ := objs1 hits
            clear hits
            refine for_itemC (v := v5) (fun v => wpAny _ _ (assign _ _ v) _ _ _) hk hv hd0 hd1 hd2 hd3 ?_
            clear hk hv
            intro d td hk5 hkd hd hdu hr
            obtain ⟨u, es, th, R, n, lr, hea, hth, hok, hT, hnw⟩ := hJ
            have hnx := thF_next hkd
            rw [← hth] at hnx
            have hes := hea.len
            have hsz : ((es.map fun e => Value.ref e.1).toArray.size : Int) = th.length := by simp [hes]
            have h1 := hok.one
            have h4 := hok.four
            refine wpAny_assign_Name (wpAny_storeName_local rfl F5.ns (fun h6 hn6 hs6 => ?_) rfl)
            have F6 := F5.set hn6 hs6
            have N6 := N5.set hs6
            clear F5 N5 hn6 hs6
            replace F6 := fr_ov F6 (ps' := [(Str.ofString "names", Value.ref NM), (Str.ofString "things", Value.ref R), (Str.ofString "number", .int d td)]) rfl
            change News g1 L1 h6 ((I, oI) :: (R, W.listOf (es.map fun e => Value.ref e.1).toArray n) :: (L1 + 1, oD) :: (D, W.listOf #[Value.int d0 t0, Value.int d1 t1, Value.int d2 t2, Value.int d3 t3] n') :: lr) at N6
            obtain ⟨hp1, hp2, hp3, hp4⟩ := place_lt (d := d) h1 hd
            have hq0 := Int.fmod_nonneg_of_pos (d.fdiv 12) (show (0 : Int) < 3 by decide)
            refine execs_cutC 2 (fun J => ∀ h tk TK tp, Fr g1 L1 h (ov u [(Str.ofString "names", Value.ref NM), (Str.ofString "things", Value.ref R), (Str.ofString "number", .int d td), (Str.ofString "place", .int ((placeOf th.length d : Nat) : Int) tp), (Str.ofString "taken", .ref TK)]) →
              News g1 L1 h ((TK, W.listOf (((es.drop (placeOf th.length d)).take (manyOf d)).map fun e => Value.ref e.1).toArray 0) :: (I, oI) :: (R, W.listOf (es.map fun e => Value.ref e.1).toArray n) :: (L1 + 1, oD) :: (D, W.listOf #[Value.int d0 t0, Value.int d1 t1, Value.int d2 t2, Value.int d3 t3] n') :: lr) → J ⟨h, s.gens, s.drawn, tk, s.os⟩) (fun J hJ => ?_) ?_
            · dsimp only [List.take, List.drop]
              --[
              tb_start
              rename News g1 _ _ _ => N9
              rename Fr g1 _ _ _ => F9
              replace F9 := fr_ov2 F9 rfl
              dsimp only at F9 N9
              rw [hsz, ← hp2] at F9
              rw [hsz, pick_mid hp3 (by simp [hes]; omega) hq0, ← hp2, mid_eq] at N9
              exact hJ _ _ _ _ F9 N9
              --]
            · clear F6 N6
              intro h7 tk7 TK tp F7 N7
              dsimp only [List.take, List.drop]
              refine execs_cutC 1 (fun J => ∀ h tk tr, Fr g1 L1 h (ov u [(Str.ofString "names", Value.ref NM), (Str.ofString "things", Value.ref R), (Str.ofString "number", .int d td), (Str.ofString "place", .int ((placeOf th.length d : Nat) : Int) tp), (Str.ofString "taken", .ref TK), (Str.ofString "rider", .str (riderOf d) tr)]) →
                News g1 L1 h ((TK, W.listOf (((es.drop (placeOf th.length d)).take (manyOf d)).map fun e => Value.ref e.1).toArray 0) :: (I, oI) :: (R, W.listOf (es.map fun e => Value.ref e.1).toArray n) :: (L1 + 1, oD) :: (D, W.listOf #[Value.int d0 t0, Value.int d1 t1, Value.int d2 t2, Value.int d3 t3] n') :: lr) → J ⟨h, s.gens, s.drawn, tk, s.os⟩) (fun J hJ => ?_) ?_
              · dsimp only [List.take, List.drop]
                --[
                tb_start
                rename News g1 _ _ _ => N9
                rename Fr g1 _ _ _ => F9
                exact hJ _ _ _ (fr_ov F9 rfl) (fun p hp => N9 p (.tail _ hp))
                --]
              · clear F7 N7
                intro h8 tk8 tr F8 N8
                dsimp only [List.take, List.drop]
                have hT' : ∀ e ∈ (es.drop (placeOf th.length d)).take (manyOf d), (e.1, pairObj e.2.1 e.2.2) ∈ lr := fun e he => hT e (List.mem_of_mem_drop (List.mem_of_mem_take he))
                have hK := tkn_of hea hok (Nat.le_of_lt hk5) (placeOf th.length d) (manyOf d)
                obtain ⟨es', hes'⟩ : ∃ es', es' = (es.drop (placeOf th.length d)).take (manyOf d) := ⟨_, rfl⟩
                obtain ⟨th', hth'⟩ : ∃ th', th' = (th.drop (placeOf th.length d)).take (manyOf d) := ⟨_, rfl⟩
                rw [← hes'] at N8 hT' hK
                rw [← hth'] at hK
                have hS1 := hK.S1
                have hS2 := hK.S2
                have hL1 := hK.L1
                have hL2 := hK.L2
                have hj1 := hK.j1
                have hj2 := hK.j2
                have hrl := rider_len d
                refine execs_cutC 1 (fun J => ∀ h tk tq, Fr g1 L1 h (ov u [(Str.ofString "names", Value.ref NM), (Str.ofString "things", Value.ref R), (Str.ofString "number", .int d td), (Str.ofString "place", .int ((placeOf th.length d : Nat) : Int) tp), (Str.ofString "taken", .ref TK), (Str.ofString "rider", .str (riderOf d) tr), (Str.ofString "plain", .str (plainOf (th'.map (·.1))) tq)]) →
                  News g1 L1 h ((TK, W.listOf (es'.map fun e => Value.ref e.1).toArray 0) :: (I, oI) :: (R, W.listOf (es.map fun e => Value.ref e.1).toArray n) :: (L1 + 1, oD) :: (D, W.listOf #[Value.int d0 t0, Value.int d1 t1, Value.int d2 t2, Value.int d3 t3] n') :: lr) → J ⟨h, s.gens, s.drawn, tk, s.os⟩) (fun J hJ => ?_) ?_
                · dsimp only [List.take, List.drop]
                  --[
                  k_extra "tb_nf"
                  refine sel_mk (es := es') (by assumption) N8 (.head _) (fun e he => .tail _ (.tail _ (.tail _ (.tail _ (.tail _ (hT' e he)))))) hK.sz (fun D9 h9 tk9 F9 N9 o9 => ?_)
                  clear N8
                  k_extra "tb_nf"
                  rename News g1 _ _ _ => N10
                  rename Fr g1 L1 _ _ => F10
                  exact hJ _ _ _ (fr_ov F10 rfl) (fun p hp => N10 p (.tail _ hp))
                  --]
                · clear F8 N8
                  intro h11 tk11 tq F11 N11
                  dsimp only [List.take, List.drop]
                  refine execs_cutC 1 (fun J => ∀ h tk tu, Fr g1 L1 h (ov u [(Str.ofString "names", Value.ref NM), (Str.ofString "things", Value.ref R), (Str.ofString "number", .int d td), (Str.ofString "place", .int ((placeOf th.length d : Nat) : Int) tp), (Str.ofString "taken", .ref TK), (Str.ofString "rider", .str (riderOf d) tr), (Str.ofString "plain", .str (plainOf (th'.map (·.1))) tq), (Str.ofString "dressed", .str (dressOf (riderOf d) (th'.map (·.2))) tu)]) →
                    News g1 L1 h ((TK, W.listOf (es'.map fun e => Value.ref e.1).toArray 0) :: (I, oI) :: (R, W.listOf (es.map fun e => Value.ref e.1).toArray n) :: (L1 + 1, oD) :: (D, W.listOf #[Value.int d0 t0, Value.int d1 t1, Value.int d2 t2, Value.int d3 t3] n') :: lr) → J ⟨h, s.gens, s.drawn, tk, s.os⟩) (fun J hJ => ?_) ?_
                  · dsimp only [List.take, List.drop]
                    --[
                    k_extra "tb_nf"
                    refine sel_mk (es := es') (by assumption) N11 (.head _) (fun e he => .tail _ (.tail _ (.tail _ (.tail _ (.tail _ (hT' e he)))))) hK.sz (fun D9 h9 tk9 F9 N9 o9 => ?_)
                    clear N11
                    k_extra "tb_nf"
                    rename News g1 _ _ _ => N10
                    rename Fr g1 L1 _ _ => F10
                    exact hJ _ _ _ (fr_ov F10 rfl) (fun p hp => N10 p (.tail _ hp))
                    --]
                  · clear F11 N11
                    intro h12 tk12 tu F12 N12
                    dsimp only [List.take, List.drop]
                    have hea' := hK.ea
                    have hl' := hK.l4
                    k_extra "tb_nf"
                    rename News g1 _ _ _ => N13
                    rename Fr g1 L1 _ _ => F13
                    dsimp only at N13
                    have hz1 : (slicePick (es.map fun e => Value.ref e.1).toArray none (some ((placeOf th.length d : Nat) : Int)) none).size ≤ 4 := Nat.le_trans (slicePick_size_le _ _ _ _) (by simp; omega)
                    have hsl : 100 ≤ sizeLine := by decide
                    refine add_arrays F13 N13 (News.isList N13 (.tail _ (.tail _ (.head _)))) (News.isList N13 (.head _)) (fun h14 F14 N14 => ?_) (by show _ + 1 ≤ _; omega)
                    rw [pick_to (by omega)] at N14
                    clear N13 F13
                    replace N14 : News g1 L1 h14 _ := fun p hp => N14 p (for_reord hp)
                    k_extra "tb_nf"
                    have hz2 : (es'.map fun e => Value.ref e.1).toArray.size = th'.length := by simp [hea'.len]
                    refine len_list (News.isList N14 (.tail _ (.tail _ (.head _)))) (by rw [hz2]; omega) ?_
                    rw [hz2]
                    k_extra "tb_nf"
                    rename News g1 _ _ _ => N16
                    rename Fr g1 L1 _ _ => F16
                    try dsimp only at N16
                    have hz3 : (slicePick (es.map fun e => Value.ref e.1).toArray (some (((placeOf th.length d : Nat) : Int) + (th'.length : Int))) none none).size ≤ 4 := Nat.le_trans (slicePick_size_le _ _ _ _) (by simp; omega)
                    have hz4 : ∀ T, ((es.map fun e => Value.ref e.1).take ((placeOf th.length d : Nat) : Int).toNat ++ [Value.ref T]).toArray.size ≤ 5 := fun T => by
                      simp only [List.size_toArray, List.length_append, List.length_take, List.length_map, List.length_cons, List.length_nil]; omega
                    refine add_arrays F16 N16 (News.isList N16 (.tail _ (.head _))) (News.isList N16 (.head _)) (fun h17 F17 N17 => ?_) (by have := hz4; exact Nat.le_trans (Nat.add_le_add (hz4 _) hz3) (by omega))
                    rw [pick_from (by omega), for_cat (.str (plainOf (th'.map (·.1))) tq) (.str (dressOf (riderOf d) (th'.map (·.2))) tu)] at N17
                    clear N16 F16 N14 F14
                    k_extra "tb_nf"
                    rename News g1 _ _ _ => N18
                    rename Fr g1 L1 _ _ => F18
                    replace F18 := fr_ov F18 rfl
                    have hst : thStep th d = th.take (placeOf th.length d) ++ [(plainOf (th'.map (·.1)), dressOf (riderOf d) (th'.map (·.2)))] ++ th.drop (placeOf th.length d + th'.length) := by rw [hth']; rfl
                    have hea2 : ∀ T, EntsAre (es.take (placeOf th.length d) ++ [(T, Value.str (plainOf (th'.map (·.1))) tq, Value.str (dressOf (riderOf d) (th'.map (·.2))) tu)] ++ es.drop (placeOf th.length d + th'.length)) (thStep th d) := fun T => by
                      rw [hst]
                      exact ((hea.take _).append (.cons _ _ _ _ _ .nil)).append (hea.drop _)
                    refine turn_end F18 (news' := (_, W.listOf ((es.take (placeOf th.length d) ++ [(_, Value.str (plainOf (th'.map fun (x : Str × Str) => x.1)) tq, Value.str (dressOf (riderOf d) (th'.map fun (x : Str × Str) => x.2)) tu)] ++ es.drop (placeOf th.length d + th'.length)).map fun (e : Addr × Value × Value) => Value.ref e.1).toArray 0) :: (L1 + 1, oD) :: (D, W.listOf #[Value.int d0 t0, Value.int d1 t1, Value.int d2 t2, Value.int d3 t3] n') :: (_, pairObj (Value.str (plainOf (th'.map fun (x : Str × Str) => x.1)) tq) (Value.str (dressOf (riderOf d) (th'.map fun (x : Str × Str) => x.2)) tu)) :: lr) (fun p hp => N18 p (for_perm2 hp)) for_fresh ⟨.tail _ (.tail _ (.head _)), trivial⟩ (.mk (k + 1) hr (Nat.succ_le_of_lt hk5) (.mk _ _ _ _ _ _ (hea2 _) hnx (thStep_ok hok hd) (for_pairs hT) (fun p hp => .tail _ (hnw p hp))))
        · clear F4 N4 hJ4
          intro h5 tk5 m5 led5 hJ5 F5 N5
          dsimp only [List.take, List.drop]
          obtain ⟨u, es, th, R, n, lr, hea, hth, hok, hT, hnw⟩ := hJ5
          have hK := tkn_of hea hok (Nat.le_refl 4) 0 4
          rw [List.drop_zero, List.drop_zero, List.take_of_length_le (Nat.le_trans (Nat.le_of_eq hea.len) hok.four), List.take_of_length_le hok.four] at hK
          have hS1 := hK.S1
          have hS2 := hK.S2
          have hL1 := hK.L1
          have hL2 := hK.L2
          have hj1 := hK.j1
          have hj2 := hK.j2
          k_extra "tb_nf"
          refine sel_mk (es := es) (by assumption) N5 (.head _) (fun e he => .tail _ (.tail _ (.tail _ (hT e he)))) hK.sz (fun D9 h9 tk9 F9 N9 o9 => ?_)
          clear N5
          k_extra "tb_nf"
          rename News g1 _ _ _ => N10
          refine sel_mk (es := es) (by assumption) N10 (.tail _ (.head _)) (fun e he => .tail _ (.tail _ (.tail _ (.tail _ (hT e he))))) hK.sz (fun D9 h9 tk9 F9 N9 o9 => ?_)
          clear N10
          k_extra "tb_nf"
          rename News h₀ _ _ _ => N11
          rw [← hth] at hret
          exact hret _ _ _ _ _ (by assumption) fun p hp => N11 p (for_last hnw hp)


-- PART Abs
theorem lnAbs : True := by
  k_with_none
  trivial
/-! NOLINES the forests as tokens: 0 to 3 a leaf, 4 an opening bracket, 5 a closing one -/
noncomputable def stepA (th : List (List Nat)) (p q : Nat) : List (List Nat) := th.take p ++ [4 :: ((th.drop p).take q).flatten ++ [5]] ++ th.drop (p + ((th.drop p).take q).length)
noncomputable abbrev SA := List Nat × Nat × List (Nat × List Nat)
noncomputable def stA (st : SA) (t : Nat) : SA := bif Nat.beq t 4 then (st.1 ++ [st.2.1], st.2.1 + 1, st.2.2) else bif Nat.beq t 5 then (st.1.dropLast, st.2.1, st.2.2) else (st.1, st.2.1, st.2.2 ++ [(t, st.1)])
/-- a way: rising numbers below 4 -/
noncomputable def wayA : Nat → List Nat → Bool
  | _, [] => true
  | k, x :: r => Nat.ble k x && Nat.blt x 4 && wayA (x + 1) r
noncomputable def newA (t : Nat) : List (Nat × List Nat) → Bool
  | [] => true
  | e :: r => !(Nat.beq e.1 t) && newA t r
noncomputable def okA : SA → List Nat → Bool
  | _, [] => true
  | st, t :: r => wayA 0 st.1 && Nat.blt t 6 && newA t st.2.2 && okA (stA st t) r
noncomputable def preA : List Nat → List Nat → Nat
  | x :: xs, y :: ys => bif Nat.beq x y then preA xs ys + 1 else 0
  | _, _ => 0
/-- two ways of one forest, the later leaf's first: behind the shared part the first one's signs are the greater -/
noncomputable def gtA : List Nat → List Nat → Bool
  | x :: _, y :: ys => Nat.blt ((y :: ys).getLastD 0) x
  | _, _ => true
noncomputable def pairA : List Nat → List Nat → Bool
  | x :: xs, y :: ys => bif Nat.beq x y then pairA xs ys else gtA (x :: xs) (y :: ys)
  | _, _ => true
noncomputable def eqA : List Nat → List Nat → Bool
  | [], [] => true
  | x :: xs, y :: ys => Nat.beq x y && eqA xs ys
  | _, _ => false
noncomputable def nth {β : Type} (d : β) : List β → Nat → β
  | [], _ => d
  | x :: _, 0 => x
  | _ :: r, n + 1 => nth d r n
section
variable {α : Type} (nil : α) (app : α → α → α) (name : Nat → α) (br : α → α) (dep : List Nat) (sh : List (List Nat))
noncomputable def stopG (place lvl : Nat) : Nat → Nat → Nat
  | 0, stop => stop
  | n + 1, stop => bif Nat.blt lvl (nth 0 (nth [] sh stop) place) then stopG place lvl n (stop + 1) else stop
noncomputable def loopG (rec : Nat → Nat → Nat → α) (e lvl : Nat) : Nat → Nat → α → α
  | 0, _, text => text
  | n + 1, place, text => bif Nat.blt place e then
      (bif Nat.ble (nth 0 dep place) lvl then loopG rec e lvl n (place + 1) (app text (name place))
       else loopG rec e lvl n (stopG sh place lvl (e - (place + 1)) (place + 1)) (app text (br (rec place (stopG sh place lvl (e - (place + 1)) (place + 1)) (lvl + 1))))) else text
noncomputable def agG : Nat → Nat → Nat → Nat → α
  | 0, _, _, _ => nil
  | f + 1, b, e, lvl => loopG app name br dep sh (agG f) e lvl (e - b) b nil
end
noncomputable def depA (ws : List (List Nat)) : List Nat := ws.map List.length
noncomputable def shA : List (List Nat) → List (List Nat) → List (List Nat)
  | _, [] => []
  | old, w :: r => old.map (preA w) :: shA (old ++ [w]) r
noncomputable def againA (ws : List (List Nat)) : List Nat := agG [] (· ++ ·) (fun i => [i]) (fun x => 4 :: x ++ [5]) (depA ws) (shA [] ws) 5 0 4 0
noncomputable def finA (ts : List Nat) : SA := ts.foldl stA ([], 0, [])
noncomputable def namesA : Nat → List (Nat × List Nat) → Bool
  | n, [] => Nat.beq n 4
  | n, e :: r => Nat.beq e.1 n && namesA (n + 1) r
noncomputable def pairsA : List (List Nat) → List (List Nat) → Bool
  | _, [] => true
  | old, w :: r => wayA 0 w && old.all (pairA w) && pairsA (old ++ [w]) r
noncomputable def goodA (ts : List Nat) : Bool := okA ([], 0, []) ts && Nat.blt ts.length 20 && namesA 0 (finA ts).2.2 && pairsA [] ((finA ts).2.2.map (·.2)) && eqA (againA ((finA ts).2.2.map (·.2))) ts
noncomputable def chkQ (f : List (List Nat) → Bool) (th : List (List Nat)) (p : Nat) : Nat → Bool
  | 0 => true
  | q + 1 => f (stepA th p (q + 1)) && chkQ f th p q
noncomputable def chkP (f : List (List Nat) → Bool) (th : List (List Nat)) (n : Nat) : Nat → Bool
  | 0 => true
  | p + 1 => chkQ f th p (min 3 (n - p)) && chkP f th n p
noncomputable def chkA : Nat → List (List Nat) → Bool
  | 0, th => goodA th.flatten
  | k + 1, th => chkP (chkA k) th th.length th.length
theorem chk_0_1 : chkA 3 (stepA [[0], [1], [2], [3]] 0 1) = true := by decide +kernel
theorem chk_0_2 : chkA 3 (stepA [[0], [1], [2], [3]] 0 2) = true := by decide +kernel
theorem chk_0_3 : chkA 3 (stepA [[0], [1], [2], [3]] 0 3) = true := by decide +kernel
theorem chk_1_1 : chkA 3 (stepA [[0], [1], [2], [3]] 1 1) = true := by decide +kernel
theorem chk_1_2 : chkA 3 (stepA [[0], [1], [2], [3]] 1 2) = true := by decide +kernel
theorem chk_1_3 : chkA 3 (stepA [[0], [1], [2], [3]] 1 3) = true := by decide +kernel
theorem chk_2_1 : chkA 3 (stepA [[0], [1], [2], [3]] 2 1) = true := by decide +kernel
theorem chk_2_2 : chkA 3 (stepA [[0], [1], [2], [3]] 2 2) = true := by decide +kernel
theorem chk_3_1 : chkA 3 (stepA [[0], [1], [2], [3]] 3 1) = true := by decide +kernel
theorem chkP_of {f : List (List Nat) → Bool} {th : List (List Nat)} {n : Nat} : ∀ {k : Nat}, chkP f th n k = true → ∀ p < k, chkQ f th p (min 3 (n - p)) = true
  | 0, _, p, hp => absurd hp (Nat.not_lt_zero _)
  | k + 1, h, p, hp => by
    have h' := Bool.and_eq_true_iff.mp h
    rcases Nat.lt_succ_iff_lt_or_eq.mp hp with hp | rfl
    · exact chkP_of h'.2 p hp
    · exact h'.1
theorem chkQ_of {f : List (List Nat) → Bool} {th : List (List Nat)} {p : Nat} : ∀ {n : Nat}, chkQ f th p n = true → ∀ q < n, f (stepA th p (q + 1)) = true
  | 0, _, q, hq => absurd hq (Nat.not_lt_zero _)
  | n + 1, h, q, hq => by
    have h' := Bool.and_eq_true_iff.mp h
    rcases Nat.lt_succ_iff_lt_or_eq.mp hq with hq | rfl
    · exact chkQ_of h'.2 q hq
    · exact h'.1
theorem stepA_clip (th : List (List Nat)) (p q : Nat) : stepA th p q = stepA th p (min q (th.length - p)) := by
  have e : (th.drop p).take q = (th.drop p).take (min q (th.length - p)) := by
    rw [← List.length_drop, List.take_eq_take_min]
    
  unfold stepA
  rw [e]
theorem chkA_step {k : Nat} {th : List (List Nat)} (h : chkA (k + 1) th = true) {p q : Nat} (hp : p < th.length) (hq : 1 ≤ q) (hq3 : q ≤ 3) : chkA k (stepA th p q) = true := by
  have h1 := chkP_of (f := chkA k) h p hp
  rw [stepA_clip]
  have h2 := chkQ_of h1 (min q (th.length - p) - 1) (by omega)
  rw [show min q (th.length - p) - 1 + 1 = min q (th.length - p) by omega] at h2
  exact h2
theorem chk_first {p q : Nat} (hp : p < 4) (hq : 1 ≤ q) (hq3 : q ≤ 3) : chkA 3 (stepA [[0], [1], [2], [3]] p q) = true := by
  rw [stepA_clip]
  match p, q, hp, hq, hq3 with
  | 0, 1, _, _, _ => exact chk_0_1
  | 0, 2, _, _, _ => exact chk_0_2
  | 0, 3, _, _, _ => exact chk_0_3
  | 1, 1, _, _, _ => exact chk_1_1
  | 1, 2, _, _, _ => exact chk_1_2
  | 1, 3, _, _, _ => exact chk_1_3
  | 2, 1, _, _, _ => exact chk_2_1
  | 2, 2, _, _, _ => exact chk_2_2
  | 2, 3, _, _, _ => exact chk_2_2
  | 3, 1, _, _, _ => exact chk_3_1
  | 3, 2, _, _, _ => exact chk_3_1
  | 3, 3, _, _, _ => exact chk_3_1
  | _ + 4, _, hp, _, _ => omega
  | 0, _ + 4, _, _, h => omega
  | 1, _ + 4, _, _, h => omega
  | 2, _ + 4, _, _, h => omega
  | 3, _ + 4, _, _, h => omega
  | 0, 0, _, h, _ => omega
  | 1, 0, _, h, _ => omega
  | 2, 0, _, h, _ => omega
  | 3, 0, _, h, _ => omega


-- PART AgP
theorem lnAgP : True := by
  k_with_none
  trivial
/-! NOLINES what again builds -/
noncomputable def againS (names : List Str) (dep : List Nat) (sh : List (List Nat)) : Nat → Nat → Nat → Nat → Str := agG (Str.ofString "") (· ++ ·) (fun i => names.getD i Str.empty) (fun x => Str.ofString "(" ++ x ++ Str.ofString ")") dep sh
noncomputable abbrev againL (names : List Str) (dep : List Nat) (sh : List (List Nat)) (f e lvl : Nat) : Nat → Nat → Str → Str := loopG (· ++ ·) (fun i => names.getD i Str.empty) (fun x => Str.ofString "(" ++ x ++ Str.ofString ")") dep sh (againS names dep sh f) e lvl
theorem nth_getD {β : Type} (d : β) : ∀ (l : List β) (k : Nat), nth d l k = l.getD k d
  | [], k => by simp [nth]
  | x :: r, 0 => rfl
  | x :: r, k + 1 => by
    show nth d r k = _
    rw [nth_getD d r k]; simp
theorem stopG_le {sh : List (List Nat)} {place lvl : Nat} : ∀ n stop, stop ≤ stopG sh place lvl n stop ∧ stopG sh place lvl n stop ≤ stop + n
  | 0, stop => ⟨Nat.le_refl _, Nat.le_refl _⟩
  | n + 1, stop => by
    unfold stopG
    cases Nat.blt lvl (nth 0 (nth [] sh stop) place) with
    | false => exact ⟨Nat.le_refl _, Nat.le_add_right _ _⟩
    | true =>
      have := stopG_le (sh := sh) (place := place) (lvl := lvl) n (stop + 1)
      show stop ≤ stopG sh place lvl n (stop + 1) ∧ _
      constructor
      · omega
      · show stopG sh place lvl n (stop + 1) ≤ _
        omega
/-- how far the inner loop has come -/
theorem stopG_go {sh : List (List Nat)} {place lvl e stop V : Nat} (hs : stop < e) (h : stopG sh place lvl (e - stop) stop = V) (hc : lvl < (sh.getD stop []).getD place 0) : stopG sh place lvl (e - (stop + 1)) (stop + 1) = V := by
  obtain ⟨n, hn⟩ : ∃ n, e - stop = n + 1 := ⟨e - stop - 1, by omega⟩
  rw [hn] at h
  unfold stopG at h
  have e1 : Nat.blt lvl (nth 0 (nth [] sh stop) place) = true := by rw [nth_getD, nth_getD]; exact Nat.ble_eq_true_of_le hc
  rw [e1] at h
  have e2 : e - (stop + 1) = n := by omega
  rw [e2]; exact h
theorem stopG_stop {sh : List (List Nat)} {place lvl e stop V : Nat} (hs : stop < e) (h : stopG sh place lvl (e - stop) stop = V) (hc : ¬ lvl < (sh.getD stop []).getD place 0) : stop = V := by
  obtain ⟨n, hn⟩ : ∃ n, e - stop = n + 1 := ⟨e - stop - 1, by omega⟩
  rw [hn] at h
  unfold stopG at h
  have e1 : Nat.blt lvl (nth 0 (nth [] sh stop) place) = false := by
    rw [nth_getD, nth_getD]
    cases q : Nat.blt lvl ((sh.getD stop []).getD place 0) with
    | false => rfl
    | true => exact absurd (Nat.le_of_ble_eq_true q) hc
  rw [e1] at h
  exact h
theorem stopG_end {sh : List (List Nat)} {place lvl e stop V : Nat} (hs : ¬ stop < e) (hs2 : stop ≤ e) (h : stopG sh place lvl (e - stop) stop = V) : stop = V := by
  rw [show e - stop = 0 by omega] at h
  exact h
section
variable {names : List Str} {dep : List Nat} {sh : List (List Nat)} {f e lvl : Nat} {V : Str}
theorem loop_leaf {n place : Nat} {text : Str} (hp : place < e) (hn : e - place ≤ n) (h : againL names dep sh f e lvl n place text = V) (hd : dep.getD place 0 ≤ lvl) :
    ∃ n', e - (place + 1) ≤ n' ∧ againL names dep sh f e lvl n' (place + 1) (text ++ names.getD place Str.empty) = V := by
  obtain ⟨k, rfl⟩ : ∃ k, n = k + 1 := ⟨n - 1, by omega⟩
  refine ⟨k, by omega, ?_⟩
  unfold againL loopG at h
  have e1 : Nat.blt place e = true := Nat.ble_eq_true_of_le hp
  have e2 : Nat.ble (nth 0 dep place) lvl = true := by rw [nth_getD]; exact Nat.ble_eq_true_of_le hd
  rw [e1, e2] at h
  exact h
theorem loop_group {n place stop : Nat} {text : Str} (hp : place < e) (hn : e - place ≤ n) (h : againL names dep sh f e lvl n place text = V) (hd : ¬ dep.getD place 0 ≤ lvl) (hs : stop = stopG sh place lvl (e - (place + 1)) (place + 1)) :
    ∃ n', e - stop ≤ n' ∧ againL names dep sh f e lvl n' stop (text ++ (Str.ofString "(" ++ againS names dep sh f place stop (lvl + 1) ++ Str.ofString ")")) = V := by
  obtain ⟨k, rfl⟩ : ∃ k, n = k + 1 := ⟨n - 1, by omega⟩
  have hge := (stopG_le (sh := sh) (place := place) (lvl := lvl) (e - (place + 1)) (place + 1)).1
  refine ⟨k, by omega, ?_⟩
  unfold againL loopG at h
  have e1 : Nat.blt place e = true := Nat.ble_eq_true_of_le hp
  have e2 : Nat.ble (nth 0 dep place) lvl = false := by
    rw [nth_getD]
    cases q : Nat.ble (dep.getD place 0) lvl with
    | false => rfl
    | true => exact absurd (Nat.le_of_ble_eq_true q) hd
  rw [e1, e2] at h
  rw [hs]
  exact h
theorem loop_end {n place : Nat} {text : Str} (hp : ¬ place < e) (h : againL names dep sh f e lvl n place text = V) : text = V := by
  cases n with
  | zero => exact h
  | succ k =>
    unfold againL loopG at h
    have e1 : Nat.blt place e = false := by
      cases q : Nat.blt place e with
      | false => rfl
      | true => exact absurd (Nat.le_of_ble_eq_true q) hp
    rw [e1] at h
    exact h
end


-- PART Again
theorem lnAgain : True := by
  k_with_none
  k_with "call builtin:str.lower" => ((k_here; (with_reducible show wpAny _ _ (call (Value.builtin "str.lower") [Value.str _ _]) _ _ _); (refine SCL.lower (by omega) ?_); intro _))
  k_with "subscriptTail Name Slice str ref" => (((with_reducible show wpAny _ _ (subscriptTail _ (Expr.Slice none (some (Expr.BoolOp _ _ _)) none _) _ _) _ _ _); (with_reducible rename Fr _ _ _ _ => F'); (with_reducible rename News _ _ _ _ => N'); (first | refine slice_strN_nn_len (s := ⟨_, _, _, _, _⟩) F' N' ?_ | refine slice_strN_ns_len (s := ⟨_, _, _, _, _⟩) F' N' ?_); intro _ _ _ _ _ _))
  k_with "tb_start" => (((try (show wpAny _ _ _ _ _ _)); (try k_fold); (repeat' ((fail_if_success (with_reducible show InvEndN _ _ _ _ _ _ _)); first | (k_unfold; (try dsimp only)) | (k_end; wrow_close) | walk1 | (dsimp only; walk1) | (dsimp only; k_unfold; (try dsimp only)) | (leave1; walk_say "STEP leave1"; try dsimp only) | fail "no step")); (all_goals (try dsimp only))))
  k_with "ktr_unf" => (repeat' ((fail_if_success (with_reducible show InvEndN _ _ _ _ _ _ _)); (fail_if_success (with_reducible show wpAny _ _ (exec (Stmt.While _ _ _ _) _) _ _ _)); (fail_if_success (with_reducible show wpAny _ _ (exec (Stmt.For _ _ _ _ _) _) _ _ _)); (fail_if_success (with_reducible show wpAny _ _ (pyIter _) _ _ _)); first | (k_unfold; (try dsimp only)) | (k_end; wrow_close) | walk1 | (dsimp only; walk1) | (dsimp only; k_unfold; (try dsimp only)) | (leave1; walk_say "STEP leave1"; try dsimp only) | fail "no step"))
  k_with "tb_nf" => (((repeat' ((fail_if_success (with_reducible show InvEndN _ _ _ _ _ _ _)); first | (k_unfold; (try dsimp only)) | (k_end; wrow_close) | walk1 | (dsimp only; walk1) | (dsimp only; k_unfold; (try dsimp only)) | (leave1; walk_say "STEP leave1"; try dsimp only) | fail "no step")); (all_goals (try dsimp only))))
  trivial
theorem item_ref {prog : Program} {w : World} {A : Around} {E : Value → Shared → Prop} {s : Shared} {value slice : Expr} {l : Addr} {S : List Addr} {k : Int} {u : Tok} {Q : Value → Shared → Prop} (hl : s.heap.IsList l (S.map Value.ref).toArray) (h0 : 0 ≤ k) (h1 : k < (S.length : Int)) (hhi : k < 2 ^ 63) (h : Q (.ref (S.getD k.toNat 0)) s)
    (hs : subscripted slice false (.ref l) (.int k u) = operate [.ref l, .int k u] (getItem (.ref l) (.int k u)) := by with_unfolding_all rfl) :
    wpAny (model prog w) A (subscriptTail value slice (.ref l) (.int k u)) Q E s := by
  have hlt : k.toNat < S.length := by omega
  refine tail_any hl.typeIs slot_list_getitem.lookup (wpAny_getItem_list hl h0 hhi (x := .ref (S.getD k.toNat 0)) ?_ h) hs
  simp [List.getD, hlt]
theorem item_nat {prog : Program} {w : World} {A : Around} {E : Value → Shared → Prop} {s : Shared} {value slice : Expr} {l : Addr} {vs : List Value} {ns : List Nat} {k : Int} {u : Tok} {Q : Value → Shared → Prop} (hl : s.heap.IsList l vs.toArray) (hi : IntsAre vs (ns.map fun (n : Nat) => (n : Int))) (h0 : 0 ≤ k) (h1 : k < (ns.length : Int)) (hhi : k < 2 ^ 63) (h : ∀ t, Q (.int ((ns.getD k.toNat 0 : Nat) : Int) t) s)
    (hs : subscripted slice false (.ref l) (.int k u) = operate [.ref l, .int k u] (getItem (.ref l) (.int k u)) := by with_unfolding_all rfl) :
    wpAny (model prog w) A (subscriptTail value slice (.ref l) (.int k u)) Q E s := by
  have hlt : k.toNat < ns.length := by omega
  obtain ⟨t, e⟩ := hi.get k.toNat ((ns.getD k.toNat 0 : Nat) : Int) (by simp [List.getD, hlt])
  exact tail_any hl.typeIs slot_list_getitem.lookup (wpAny_getItem_list hl h0 hhi (x := .int ((ns.getD k.toNat 0 : Nat) : Int) t) (by simpa using e) (h t)) hs
theorem app_len' (x y : Str) : (x ++ y).length = x.length + y.length := by
  show (x.cps ++ y.cps).size = _
  simp [Str.length]
theorem getD_le {l : List Nat} {x k : Nat} (h : ∀ y ∈ l, y ≤ x) : l.getD k 0 ≤ x := by
  by_cases hk : k < l.length
  · have e : l.getD k 0 = l[k] := by simp [List.getD, hk]
    rw [e]; exact h _ (List.getElem_mem hk)
  · have e : l.getD k 0 = 0 := by rw [List.getD_eq_getElem?_getD, List.getElem?_eq_none (by omega)]; rfl
    rw [e]; exact Nat.zero_le _
theorem lnAgain_0 : True := by
  k_with "subscriptTail" => ((k_here; (with_reducible show wpAny _ _ (subscriptTail _ _ (Value.ref _) (Value.int _ _)) _ _ _); k_dflt (first
  | (refine' KTb.item_list (News.isList (by k_asm) (by assumption)) (by assumption) (by omega) ?b (by omega) ?_; (case b => omega))
  | (refine' item_nat (News.isList (by k_asm) (by assumption)) (by assumption) (by omega) ?b (by omega) ?_; (case b => omega))
  | (refine' item_ref (News.isList (by k_asm) (by assumption)) (by omega) ?b (by omega) ?_; (case b => omega))); (try intro _); (try intro _)))
  trivial
noncomputable def AgCon (w : World) (loose : List Str) (mean : ExcName → Option Value) (mg mb : Str → Option Value) (led : List (Addr × Obj)) (NM DP SH : Addr) (names : List Str) (dep : List Nat) (rows : List (List Nat)) (f : Nat) : Prop :=
   ∀ (b e lvl : Nat) (tb te tl : Tok), b ≤ e → e ≤ 4 → (∀ x ∈ dep, x ≤ lvl + f) → lvl + f ≤ 100 →
   ∀ (dp un : Nat) (gd : Option (List Code)) (cn : Str) (cs : Scope) (ad : Addr) (ccd : Value) (cls : List (Str × Addr)) (outer : List Env) (A₀ : Around) (base h₀ : Heap) (L : Addr) (m : Str → Option Value) (s : Shared) (Q E : Value → Shared → Prop),
    Below A₀ base outer h₀ → Fr h₀ L s.heap m → (KK w.params).In h₀ → News h₀ L s.heap led → Top QQ loose mean mg mb h₀ → cs.kind = .function →
    dp + 2 + 2 * f < recursionLimit → un + 20 + 10 * f < cLine →
    (∀ (t : Tok) (h' : Heap) (tk' : Nat), Fr h₀ L h' m → News h₀ L h' led → Q (.str (againS names dep rows (f + 1) b e lvl) t) { s with heap := h', toks := tk' }) →
      wpAny (model PySem.Challenge.rw_sh0066_01.row.prog w) (ktrTop dp un gd cn cs L ad ccd cls outer) (call (.ref 239) [.ref NM, .ref DP, .ref SH, .int b tb, .int e te, .int lvl tl]) Q E s
/-- names behind the first ones are forgotten -/
theorem fr_drop {g h : Heap} {L : Addr} {u : Str → Option Value} {a b c d e f x y : Str × Value} {r : List (Str × Value)} (F : Fr g L h (ov u (a :: b :: c :: d :: e :: f :: x :: y :: r))) : Fr g L h (ov (ov u r) [a, b, c, d, e, f, x, y]) := F
inductive AgI (s : Shared) (g1 : Heap) (L1 : Addr) (led : List (Addr × Obj)) (NM DP SH : Addr) (names : List Str) (dep : List Nat) (rows : List (List Nat)) (f b e lvl : Nat) (tb te tl : Tok) : Nat → Shared → Prop
  | mk {n : Nat} (place k : Nat) (text : Str) (h : Heap) (tk : Nat) (tt tp : Tok) (u : Str → Option Value) (hpn : place + n = e) (F : Fr g1 L1 h (ov u [(Str.ofString "level", Value.int lvl tl), (Str.ofString "end", Value.int e te), (Str.ofString "begin", Value.int b tb), (Str.ofString "shared", .ref SH), (Str.ofString "depths", .ref DP), (Str.ofString "names", .ref NM), (Str.ofString "text", .str text tt), (Str.ofString "place", .int (place : Nat) tp)])) (N : News g1 L1 h led)
    (hek : e - place ≤ k) (hV : againL names dep rows f e lvl k place text = againS names dep rows (f + 1) b e lvl) (htl : text.length ≤ 3000 * place) : AgI s g1 L1 led NM DP SH names dep rows f b e lvl tb te tl n ⟨h, s.gens, s.drawn, tk, s.os⟩
inductive AgK (s : Shared) (g1 : Heap) (L1 : Addr) (led : List (Addr × Obj)) (NM DP SH : Addr) (rows : List (List Nat)) (u : Str → Option Value) (text : Str) (tt3 : Tok) (b e lvl place : Nat) (tb te tl tp3 : Tok) (T : Nat) : Nat → Shared → Prop
  | mk {n : Nat} (stop : Nat) (h : Heap) (tk : Nat) (ts : Tok) (hsn : stop + n = e) (hps : place < stop) (F : Fr g1 L1 h (ov u [(Str.ofString "level", Value.int lvl tl), (Str.ofString "end", Value.int e te), (Str.ofString "begin", Value.int b tb), (Str.ofString "shared", .ref SH), (Str.ofString "depths", .ref DP), (Str.ofString "names", .ref NM), (Str.ofString "text", .str text tt3), (Str.ofString "place", .int (place : Nat) tp3), (Str.ofString "stop", .int (stop : Nat) ts)])) (N : News g1 L1 h led)
    (hst : stopG rows place lvl (e - stop) stop = T) : AgK s g1 L1 led NM DP SH rows u text tt3 b e lvl place tb te tl tp3 T n ⟨h, s.gens, s.drawn, tk, s.os⟩
inductive AgD (s : Shared) (g1 : Heap) (L1 : Addr) (led : List (Addr × Obj)) (NM DP SH : Addr) (u : Str → Option Value) (text : Str) (tt3 : Tok) (b e lvl place : Nat) (tb te tl tp3 : Tok) (T : Nat) : Shared → Prop
  | mk (h : Heap) (tk : Nat) (ts : Tok) (F : Fr g1 L1 h (ov u [(Str.ofString "level", Value.int lvl tl), (Str.ofString "end", Value.int e te), (Str.ofString "begin", Value.int b tb), (Str.ofString "shared", .ref SH), (Str.ofString "depths", .ref DP), (Str.ofString "names", .ref NM), (Str.ofString "text", .str text tt3), (Str.ofString "place", .int (place : Nat) tp3), (Str.ofString "stop", .int (T : Nat) ts)])) (N : News g1 L1 h led) : AgD s g1 L1 led NM DP SH u text tt3 b e lvl place tb te tl tp3 T ⟨h, s.gens, s.drawn, tk, s.os⟩
theorem again_step (w : World) (loose : List Str) (mean : ExcName → Option Value) (mg mb : Str → Option Value) (led : List (Addr × Obj)) (NM DP SH : Addr) (kn kd ks : Nat) (vn vd : List Value) (names : List Str) (dep : List Nat) (S : List Addr) (rows : List (List Nat))
    (hN : (NM, W.listOf vn.toArray kn) ∈ led) (hNs : StrsAre vn names) (hD : (DP, W.listOf vd.toArray kd) ∈ led) (hDs : IntsAre vd (dep.map fun (n : Nat) => (n : Int))) (hS : (SH, W.listOf (S.map Value.ref).toArray ks) ∈ led)
    (hR : ∀ k < 4, ∃ vs n, (S.getD k 0, W.listOf vs.toArray n) ∈ led ∧ IntsAre vs ((rows.getD k []).map fun (n : Nat) => (n : Int)) ∧ (rows.getD k []).length = k) (hl1 : names.length = 4) (hl2 : dep.length = 4) (hl3 : S.length = 4) (hnl : ∀ k, (names.getD k Str.empty).length ≤ 30) (hag : ∀ f b e lvl, (againS names dep rows f b e lvl).length ≤ 2000)
    (f : Nat) (IH : ∀ f', f = f' + 1 → AgCon w loose mean mg mb led NM DP SH names dep rows f') : AgCon w loose mean mg mb led NM DP SH names dep rows f := by
  unfold AgCon
  k_fill
  intro b e lvl tb te tl hbe he4 hdl hlv dp un gd cn cs ad ccd cls outer A₀ base h₀ L m s Q E B F X N T hk hdp hu hret
  refine wpAny_call ?_
  k_dflt cell_enter
  rename_i g1 L1 h1 FG1 F1 N1 B1 X1 T1
  replace F1 := fr_bind F1 (l' := [(Str.ofString "level", Value.int lvl tl), (Str.ofString "end", Value.int e te), (Str.ofString "begin", Value.int b tb), (Str.ofString "shared", .ref SH), (Str.ofString "depths", .ref DP), (Str.ofString "names", .ref NM)]) rfl
  refine execs_cutC 2 (fun J => ∀ h tk tt tp, Fr g1 L1 h (ov (fun _ => none) [(Str.ofString "level", Value.int lvl tl), (Str.ofString "end", Value.int e te), (Str.ofString "begin", Value.int b tb), (Str.ofString "shared", .ref SH), (Str.ofString "depths", .ref DP), (Str.ofString "names", .ref NM), (Str.ofString "text", .str (Str.ofString "") tt), (Str.ofString "place", .int b tp)]) → News g1 L1 h led → J ⟨h, s.gens, s.drawn, tk, s.os⟩) (fun J hJ => ?_) ?_
  · dsimp only [List.take, List.drop]
    k_fold
    tb_start
    rename Fr _ _ _ _ => FF
    exact hJ _ _ _ _ (fr_ov2 FF rfl) (by assumption)
  · clear F1 N1
    intro h2 tk2 tt2 tp2 F2 N2
    dsimp only [List.take, List.drop]
    refine execs_cutC 1 (fun J => ∀ h tk tt tp u, Fr g1 L1 h (ov u [(Str.ofString "level", Value.int lvl tl), (Str.ofString "end", Value.int e te), (Str.ofString "begin", Value.int b tb), (Str.ofString "shared", .ref SH), (Str.ofString "depths", .ref DP), (Str.ofString "names", .ref NM), (Str.ofString "text", .str (againS names dep rows (f + 1) b e lvl) tt), (Str.ofString "place", .int e tp)]) → News g1 L1 h led → J ⟨h, s.gens, s.drawn, tk, s.os⟩) (fun J hJ => ?_) ?_
    · dsimp only [List.take, List.drop]
      refine wpAny_execs_cons (my_whileQ (AgI s g1 L1 led NM DP SH names dep rows f b e lvl tb te tl) (e - b) (.mk b (e - b) (Str.ofString "") h2 tk2 tt2 tp2 _ (by omega) F2 N2 (Nat.le_refl _) rfl (Nat.zero_le _)) ?_)
      clear F2 N2
      intro n s' hI K hK1 hK2 hK3 hK4
      clear hK2 hK4
      obtain ⟨place, k, text, h3, tk3, tt3, tp3, u, hpn, F3, N3, hek, hV, htl⟩ := hI
      have hp4 : place ≤ 4 := by omega
      show wpAny _ _ _ _ _ _
      k_fold
      have hnp : (names.getD ((place : Nat) : Int).toNat Str.empty).length ≤ 30 := hnl _
      have hdp1 := getD_le (k := place) hdl
      have F3' := F3
      ktr_unf
      · try dsimp only
        tb_start
        rename Fr g1 L1 _ _ => F9
        rename ((_ : Int) ≤ (lvl : Int)) => hle
        have hL := loop_leaf (by omega) hek hV (by simpa using hle)
        obtain ⟨k', hk', hV'⟩ := hL
        refine hK1 (n - 1) _ (.mk (place + 1) k' (text ++ names.getD place Str.empty) _ _ _ _ _ (by omega) (fr_drop (fr_ov3 F9 rfl)) (by assumption) hk' hV' ?_) (by omega)
        rw [app_len']
        have := hnl place
        omega
      · rename Fr g1 L1 _ _ => F4
        rename News g1 L1 _ _ => N4
        rename ¬ (_ : Int) ≤ (lvl : Int) => hle
        replace hle : ¬ dep.getD place 0 ≤ lvl := by simpa using hle
        replace F4 := fr_ov F4 rfl
        refine wpAny_mono (my_whileQ (Q := fun fl s' => fl = .next ∧ AgD s g1 L1 led NM DP SH u text tt3 b e lvl place tb te tl tp3 (stopG rows place lvl (e - (place + 1)) (place + 1)) s') (AgK s g1 L1 led NM DP SH rows u text tt3 b e lvl place tb te tl tp3 (stopG rows place lvl (e - (place + 1)) (place + 1)))
          (e - (place + 1)) (.mk (place + 1) _ _ _ (by omega) (by omega) F4 N4 rfl) ?turn) (fun fl s' hq => ?_) fun _ _ e => e
        case turn =>
          clear F4 N4
          intro n2 s2 hI K hK1 hK2 hK3 hK4
          clear hK2 hK4
          obtain ⟨stop, h4, tk4, ts4, hsn, hps, F4, N4, hst⟩ := hI
          by_cases hse : stop < e
          · obtain ⟨vr, nr, hr1, hr2, hr3⟩ := hR stop (by omega)
            have hr1' : (S.getD ((stop : Nat) : Int).toNat 0, W.listOf vr.toArray nr) ∈ led := hr1
            show wpAny _ _ _ _ _ _
            k_fold
            tb_start
            · have hc : lvl < (rows.getD stop []).getD place 0 := by
                have h := (by assumption : (lvl : Int) < (((rows.getD stop []).getD ((place : Nat) : Int).toNat 0 : Nat) : Int))
                simpa using h
              rename Fr g1 L1 _ _ => F9
              exact hK1 (n2 - 1) _ (.mk (stop + 1) _ _ _ (by omega) (by omega) (fr_ov F9 rfl) (by assumption) (stopG_go hse hst hc)) (by omega)
            · have hc : ¬ lvl < (rows.getD stop []).getD place 0 := by
                have h := (by assumption : ¬ (lvl : Int) < (((rows.getD stop []).getD ((place : Nat) : Int).toNat 0 : Nat) : Int))
                simpa using h
              refine hK3 _ ⟨rfl, ?_⟩
              rw [← stopG_stop hse hst hc]
              exact .mk _ _ _ (by assumption) (by assumption)
          · show wpAny _ _ _ _ _ _
            k_fold
            tb_start
            refine hK3 _ ⟨rfl, ?_⟩
            rw [← stopG_end hse (by omega) hst]
            exact .mk _ _ _ (by assumption) (by assumption)
        · obtain ⟨rfl, hq⟩ := hq
          obtain ⟨f', hf'⟩ : ∃ f', f = f' + 1 := ⟨f - 1, by omega⟩
          have hsl := stopG_le (sh := rows) (place := place) (lvl := lvl) (e - (place + 1)) (place + 1)
          obtain ⟨stop, hstop⟩ : ∃ stop, stop = stopG rows place lvl (e - (place + 1)) (place + 1) := ⟨_, rfl⟩
          rw [← hstop] at hsl hq
          obtain ⟨h6, tk6, ts6, F6, N6⟩ := hq
          dsimp only
          have hal := hag (f' + 1) place stop (lvl + 1)
          tb_start
          refine' IH f' hf' place stop (lvl + 1) _ _ _ (by omega) (by omega) (fun x hx => by have := hdl x hx; omega) (by omega) _ _ _ _ _ _ _ _ _ _ _ _ _ _ _ _ _ ?B ?F ?X ?N ?T ?kk ?kd ?ku ?_
          case B => k_asm
          case F => k_asm
          case X => k_asm
          case N => k_asm
          case T => k_asm
          case kk => exact rfl
          case kd => ktr_room
          case ku => ktr_units
          clear F6 N6
          intro t9 h9 tk9 F9 N9
          dsimp only
          tb_start
          rename Fr g1 L1 _ _ => F10
          have hL := loop_group (by omega) hek hV hle hstop
          obtain ⟨k', hk', hV'⟩ := hL
          refine hK1 (e - stop) _ (.mk stop k' (text ++ (Str.ofString "(" ++ againS names dep rows f place stop (lvl + 1) ++ Str.ofString ")")) _ _ _ _ _ (by omega) (fr_drop (fr_ov2 F10 (by rw [hf']; rfl))) (by assumption) hk' hV' ?_) (by omega)
          have e1 : (Str.ofString "(").length = 1 := by decide +kernel
          have e2 : (Str.ofString ")").length = 1 := by decide +kernel
          rw [app_len', app_len', app_len', e1, e2, hf']
          omega
      · have hpe : place = e := by omega
        have hVe := loop_end (by omega) hV
        refine hK3 _ (wpAny_execs_nil (hJ _ _ tt3 tp3 u ?_ (by assumption)))
        rw [hpe] at F3'
        rw [← hVe]
        exact F3'
    · clear F2 N2
      intro h7 tk7 tt7 tp7 u7 F7 N7
      dsimp only [List.take, List.drop]
      tb_start
      exact hret _ _ _ (by assumption) (by assumption)
theorem again_con (w : World) (loose : List Str) (mean : ExcName → Option Value) (mg mb : Str → Option Value) (led : List (Addr × Obj)) (NM DP SH : Addr) (kn kd ks : Nat) (vn vd : List Value) (names : List Str) (dep : List Nat) (S : List Addr) (rows : List (List Nat))
    (hN : (NM, W.listOf vn.toArray kn) ∈ led) (hNs : StrsAre vn names) (hD : (DP, W.listOf vd.toArray kd) ∈ led) (hDs : IntsAre vd (dep.map fun (n : Nat) => (n : Int))) (hS : (SH, W.listOf (S.map Value.ref).toArray ks) ∈ led)
    (hR : ∀ k < 4, ∃ vs n, (S.getD k 0, W.listOf vs.toArray n) ∈ led ∧ IntsAre vs ((rows.getD k []).map fun (n : Nat) => (n : Int)) ∧ (rows.getD k []).length = k) (hl1 : names.length = 4) (hl2 : dep.length = 4) (hl3 : S.length = 4) (hnl : ∀ k, (names.getD k Str.empty).length ≤ 30) (hag : ∀ f b e lvl, (againS names dep rows f b e lvl).length ≤ 2000) :
    ∀ f, AgCon w loose mean mg mb led NM DP SH names dep rows f
  | 0 => again_step w loose mean mg mb led NM DP SH kn kd ks vn vd names dep S rows hN hNs hD hDs hS hR hl1 hl2 hl3 hnl hag 0 fun f' h => by omega
  | f + 1 => again_step w loose mean mg mb led NM DP SH kn kd ks vn vd names dep S rows hN hNs hD hDs hS hR hl1 hl2 hl3 hnl hag (f + 1) fun f' h => by
    have e : f' = f := by omega
    subst e
    exact again_con w loose mean mg mb led NM DP SH kn kd ks vn vd names dep S rows hN hNs hD hDs hS hR hl1 hl2 hl3 hnl hag f'


-- PART Moved
theorem lnMoved : True := by
  k_with_none
  k_with "call builtin:str.lower" => ((k_here; (with_reducible show wpAny _ _ (call (Value.builtin "str.lower") [Value.str _ _]) _ _ _); (refine SCL.lower (by omega) ?_); intro _))
  k_with "subscriptTail Name Slice str ref" => (((with_reducible show wpAny _ _ (subscriptTail _ (Expr.Slice none (some (Expr.BoolOp _ _ _)) none _) _ _) _ _ _); (with_reducible rename Fr _ _ _ _ => F'); (with_reducible rename News _ _ _ _ => N'); (first | refine slice_strN_nn_len (s := ⟨_, _, _, _, _⟩) F' N' ?_ | refine slice_strN_ns_len (s := ⟨_, _, _, _, _⟩) F' N' ?_); intro _ _ _ _ _ _))
  k_with "tb_start" => (((try (show wpAny _ _ _ _ _ _)); (try k_fold); (repeat' ((fail_if_success (with_reducible show InvEndN _ _ _ _ _ _ _)); first | (k_unfold; (try dsimp only)) | (k_end; wrow_close) | walk1 | (dsimp only; walk1) | (dsimp only; k_unfold; (try dsimp only)) | (leave1; walk_say "STEP leave1"; try dsimp only) | fail "no step")); (all_goals (try dsimp only))))
  k_with "ktr_unf" => (repeat' ((fail_if_success (with_reducible show InvEndN _ _ _ _ _ _ _)); (fail_if_success (with_reducible show wpAny _ _ (exec (Stmt.While _ _ _ _) _) _ _ _)); (fail_if_success (with_reducible show wpAny _ _ (exec (Stmt.For _ _ _ _ _) _) _ _ _)); (fail_if_success (with_reducible show wpAny _ _ (pyIter _) _ _ _)); first | (k_unfold; (try dsimp only)) | (k_end; wrow_close) | walk1 | (dsimp only; walk1) | (dsimp only; k_unfold; (try dsimp only)) | (leave1; walk_say "STEP leave1"; try dsimp only) | fail "no step"))
  k_with "tb_nf" => (((repeat' ((fail_if_success (with_reducible show InvEndN _ _ _ _ _ _ _)); first | (k_unfold; (try dsimp only)) | (k_end; wrow_close) | walk1 | (dsimp only; walk1) | (dsimp only; k_unfold; (try dsimp only)) | (leave1; walk_say "STEP leave1"; try dsimp only) | fail "no step")); (all_goals (try dsimp only))))
  trivial
theorem lev_val (w : World) (loose : List Str) (mean : ExcName → Option Value) (mg mb : Str → Option Value) (news : List (Addr × Obj)) (a b : Str) (ta tb tc : Tok) (c V : Int) (hV : levF a b c = V) (hla : a.length ≤ 30) (hlb : b.length ≤ 30) :
   ∀ (dp un : Nat) (gd : Option (List Code)) (cn : Str) (cs : Scope) (ad : Addr) (ccd : Value) (cls : List (Str × Addr)) (outer : List Env) (A₀ : Around) (base h₀ : Heap) (L : Addr) (m : Str → Option Value) (s : Shared) (Q E : Value → Shared → Prop),
    Below A₀ base outer h₀ → Fr h₀ L s.heap m → (KK w.params).In h₀ → News h₀ L s.heap news → Top QQ loose mean mg mb h₀ → cs.kind = .function →
    dp + 3 < recursionLimit → un + 20 < cLine →
    (∀ (t : Tok) (h' : Heap) (tk' : Nat), Fr h₀ L h' m → News h₀ L h' news → Q (.int V t) { s with heap := h', toks := tk' }) →
      wpAny (model PySem.Challenge.rw_sh0066_01.row.prog w) (ktrTop dp un gd cn cs L ad ccd cls outer) (call (.ref 52) [.str a ta, .str b tb, .int c tc]) Q E s := by
  subst hV
  exact lev_con w loose mean mg mb news a b ta tb tc c hla hlb
theorem lnMoved_0 : True := by
  k_with "call ref" => ((k_here; k_dflt ((show wpAny _ _ (call (Value.ref 52) _) _ _ _); (refine' lev_val _ _ _ _ _ _ _ _ _ _ _ _ _ ?hV ?la ?lb _ _ _ _ _ _ _ _ _ _ _ _ _ _ _ _ _ ?B ?F ?X ?N ?T ?kk ?kd ?ku ?_); (case hV => first | with_reducible assumption | exact rfl); (case la => omega); (case lb => omega); (case B => k_asm); (case F => k_asm); (case X => k_asm); (case N => k_asm); (case T => k_asm); (case kk => first | exact rfl | assumption); (case kd => ktr_room); (case ku => ktr_units); k_whole; intro t9 h9 tk9 F9 N9; (try dsimp only))))
  trivial
structure MovedOk (w : Str) : Prop where
  len : w.length ≤ 20
  one : (w == Str.ofString "") = false → levF (Txt.slice w (some 1) none) w 2 = 2
  two : 1 < w.length → levF (Txt.slice w (some 1) (some (-1))) w 3 = 4 ∧ levF (Txt.slice w (some 1) (some (-1))) w 4 = 4 ∧ levF (Txt.slice w (some 1) none ++ Str.ofString "a") w 4 = 4
inductive MvJ (L1 WS : Addr) (lo : Obj) (news : List (Addr × Obj)) : List Itm → (Str → Option Value) → List (Addr × Obj) → Prop
  | mk (vs : List Value) (ws : List Str) (oC : Obj) (x : Option Value) (rest : List (Str × Value)) (hvs : StrsAre vs ws) (hok : ∀ w ∈ ws, MovedOk w) (dC : oC.data = .cell x) (hrest : rest = [] ∨ ∃ v, rest = [(Str.ofString "told", v)]) :
      MvJ L1 WS lo news (vs.map .val) (ov (fun _ => none) ([(Str.ofString "ways", Value.ref WS)] ++ rest)) ((L1 + 1, oC) :: (WS, lo) :: news)
theorem lnMoved_1 : True := by
  k_with "k_all" => (with_reducible assumption)
  k_with "exec Assign cons ListComp" => ((k_here; k_dflt ((with_reducible rename Fr _ _ _ _ => lF'); refine assign_comp_tup lF' rfl (by with_unfolding_all rfl) (by with_unfolding_all rfl) (by decide) (by rfl) (by decide) (by rfl) (by rfl) (by rfl) (by with_unfolding_all rfl) ?_)))
  k_with "CompRest" => (k_dflt (with_unfolding_all first
  | (refine rest_at (by rfl) ?_; intro R9 hR9 I' oI' C' oC' D' m' h' tk' E' hC' hx' F' N' off' ne'; (try dsimp only); (try k_fold))
  | (refine rest_rng ?_; intro t9'; intro R9 hR9 I' oI' C' oC' D' m' h' tk' E' hC' hx' F' N' off' ne'; (try dsimp only); (try k_fold))
  | refine LCg.CompRest.zero ?_))
  k_with "CompEnd" => (k_dflt (refine LCg.CompEnd.intro (by assumption) (by assumption) _ (by exact fun p hp => hp) (by assumption) ⟨_, .head _, rfl, _, rfl⟩ ?_; (try refine hR9 _ _ ?_); (try clear hR9)))
  trivial
theorem mv_fresh {a b : Addr} {o o' p : Obj} {news : List (Addr × Obj)} {ws : List (Addr × String)} : ∀ q ∈ (a, o') :: (b, p) :: news, (∃ x, (q.1, x) ∈ (a, o) :: (b, p) :: news) ∨ ∀ w ∈ ws, q.2.cls ≠ .type w.2 := by
  intro q hq
  rcases List.mem_cons.mp hq with rfl | hq
  · exact .inl ⟨_, .head _⟩
  rcases List.mem_cons.mp hq with rfl | hq
  · exact .inl ⟨_, .tail _ (.head _)⟩
  exact .inl ⟨_, .tail _ (.tail _ hq)⟩
theorem mv_sub {a b c d e i f g : Addr × Obj} {r : List (Addr × Obj)} {p : Addr × Obj} (hp : p ∈ [i] ++ f :: g :: r) : p ∈ a :: b :: c :: d :: e :: i :: f :: g :: r := by
  simp only [List.mem_cons, List.mem_append, List.not_mem_nil, or_false] at hp ⊢
  rcases hp with h | h | h | h <;> simp [h]
theorem moved_con (w : World) (loose : List Str) (mean : ExcName → Option Value) (mg mb : Str → Option Value) (news : List (Addr × Obj)) (WS : Addr) (n : Nat) (vs : List Value) (ws : List Str) (hvs : StrsAre vs ws) (hok : ∀ w ∈ ws, MovedOk w) (hWS : (WS, W.listOf vs.toArray n) ∈ news) :
   ∀ (dp un : Nat) (gd : Option (List Code)) (cn : Str) (cs : Scope) (ad : Addr) (ccd : Value) (cls : List (Str × Addr)) (outer : List Env) (A₀ : Around) (base h₀ : Heap) (L : Addr) (m : Str → Option Value) (s : Shared) (Q E : Value → Shared → Prop),
    Below A₀ base outer h₀ → Fr h₀ L s.heap m → (KK w.params).In h₀ → News h₀ L s.heap news → Top QQ loose mean mg mb h₀ → cs.kind = .function →
    dp + 6 < recursionLimit → un + 200 < cLine →
    (∀ (h' : Heap) (tk' : Nat), Fr h₀ L h' m → News h₀ L h' news → Q (.bool true) { s with heap := h', toks := tk' }) →
      wpAny (model PySem.Challenge.rw_sh0066_01.row.prog w) (ktrTop dp un gd cn cs L ad ccd cls outer) (call (.ref 251) [.ref WS]) Q E s := by
  k_fill
  intro dp un gd cn cs ad ccd cls outer A₀ base h₀ L m s Q E B F X N T hk hdp hu hret
  refine wpAny_call ?_
  k_dflt (refine' code_defC ?k1 ?k2 ?k3 ?k4 ?k5 ?kA ?kF ?kK ?k6 ?k7 ?k8 ?k9 ?kB ?kD ?_ ?c2 ?c3 ?c4; (case kA => exact rfl); (case kF => exact rfl); (case kK => assumption); (case k1 => k_asm); (case k2 => k_asm); (case k3 => k_asm); (case k4 => k_asm); (case k5 => k_asm); (case k6 => k_is); (case k7 => k_is); (case k8 => ktr_room); (case k9 => exact BindsTo.of_eq rfl); (case kB => exact rfl); (case kD => decide +kernel); (case c2 => exact rfl); (case c3 => exact rfl); (case c4 => exact rfl))
  intro g1 L1 h1 tk1 cells1 FG1 F1 N1 Y1 B1 X1 T1 l1
  obtain ⟨oC, rfl, dC⟩ := CellsAre.one Y1
  clear Y1
  change oC.data = .cell none at dC
  replace F1 : Fr g1 L1 h1 (ov (fun _ => none) [(Str.ofString "ways", Value.ref WS)]) := fr_eq F1 (by rfl)
  change News g1 L1 h1 ((L1 + 1, oC) :: news) at N1
  have hCn : ∀ p ∈ news, p.1 ≠ L1 + 1 := fun p hp => Nat.ne_of_lt (Nat.lt_succ_of_lt (l1 p hp))
  have hWL : @LT.lt Nat _ WS L1 := l1 _ hWS
  replace N1 : News g1 L1 h1 ((L1 + 1, oC) :: (WS, W.listOf vs.toArray n) :: news) := List.forall_mem_cons.mpr ⟨N1 _ (.head _), List.forall_mem_cons.mpr ⟨N1 _ (.tail _ hWS), fun p hp => N1 _ (.tail _ hp)⟩⟩
  clear l1
  refine execs_cutC 1 (fun J => ∀ h tk oC rest, Fr g1 L1 h (ov (fun _ => none) ([(Str.ofString "ways", Value.ref WS)] ++ rest)) → News g1 L1 h ((L1 + 1, oC) :: (WS, W.listOf vs.toArray n) :: news) → J ⟨h, s.gens, s.drawn, tk, s.os⟩) ?_ ?_
  · intro J hJc
    dsimp only [List.take, List.drop]
    refine wpAny_execs_cons (for_turns F1 ?h)
    show wpAny _ _ _ _ _ _
    tb_start
    refine list_for (MvJ L1 WS (W.listOf vs.toArray n) news) rfl F1 N1 (.tail _ (.head _)) rfl rfl (.mk vs ws oC _ [] hvs hok dC (.inl rfl)) ?turn ?done
    case done =>
      intro m5 led5 h5 tk5 hJ F5 N5
      generalize ([] : List Itm) = its at hJ
      obtain ⟨vs7, ws7, oC7, x7, rest7, _, _, _, _⟩ := hJ
      exact wpAny_execs_nil (hJc _ _ oC7 rest7 F5 N5)
    case turn =>
      clear F1 N1 dC oC
      intro I a r m5 led5 v5 h5 tk5 its hJ hv F5 hits N5 hap
      generalize hits5 : a :: r = itsA at hJ
      obtain ⟨vs5, ws5, oC, x, rest, hvs5, hok5, dC, hrest⟩ := hJ
      obtain ⟨oI, rfl, hoI⟩ := objs1 hits
      cases hvs5 with
      | nil => cases hits5
      | cons w5 t5 hvs5 =>
      rename_i vs5 ws5
      obtain ⟨ha, hr⟩ := List.cons.inj hits5
      subst ha
      have hv' : v5 = .str w5 t5 := hv
      subst hv'
      have hw5 := hok5 w5 (.head _)
      have hlen := hw5.len
      have hI1 : @Ne Nat I (L1 + 1) := (hap (L1 + 1, oC) (.head _) _ (.head _)).symm
      have hI2 : @Ne Nat I WS := (hap (WS, W.listOf vs.toArray n) (.tail _ (.head _)) _ (.head _)).symm
      change News g1 L1 h5 ((I, oI) :: (L1 + 1, oC) :: (WS, W.listOf vs.toArray n) :: news) at N5
      show wpAny _ _ _ _ _ _
      by_cases h0 : (w5 == Str.ofString "") = true
      · obtain rfl : w5 = Str.ofString "" := by simpa using h0
        tb_start
        rename Fr g1 L1 _ _ => F9
        rename News g1 L1 _ _ => N9
        rename Obj.data _ = Data.cell (some _) => d9
        exact Hold.mk ⟨_, _, _, _, rfl, F9, N9, mv_fresh, ⟨.tail _ (.head _), trivial⟩, hr ▸ .mk vs5 ws5 _ _ rest hvs5 (fun w hw => hok5 w (.tail _ hw)) d9 hrest⟩
      · have h1 := hw5.one (by simpa using h0)
        by_cases h2 : 1 < w5.length
        · obtain ⟨h21, h22, h23⟩ := hw5.two h2
          have h24 : (Txt.slice w5 (some 1) none ++ Str.ofString "a").length ≤ 30 := by
            have e1 := Txt.slice_le w5 (some 1) none
            have e2 : (Str.ofString "a").length = 1 := by decide +kernel
            have e3 : (Txt.slice w5 (some 1) none ++ Str.ofString "a").length = (Txt.slice w5 (some 1) none).length + (Str.ofString "a").length := by
              show ((Txt.slice w5 (some 1) none).cps ++ (Str.ofString "a").cps).size = _
              simp [Str.length]
            omega
          tb_start
          · refine Hold.mk ⟨_, _, _, rfl, by assumption, by assumption, ⟨_, .head _, rfl, _, rfl⟩, Nat.le_of_ble_eq_true rfl, fun g5 => ?_⟩
            tb_start
            rename Fr g1 L1 _ _ => F9
            rename News g1 L1 _ _ => N9
            rename Obj.data _ = Data.cell (some _) => d9
            simp only [ov_app] at F9
            obtain ⟨v9, F10⟩ : ∃ v, Fr g1 L1 _ (ov (fun _ => none) ([(Str.ofString "ways", Value.ref WS)] ++ [(Str.ofString "told", v)])) := by
              rcases hrest with rfl | ⟨_, rfl⟩ <;> exact ⟨_, fr_fix F9 rfl⟩
            exact Hold.mk ⟨_, _, _, (L1 + 1, _) :: (WS, _) :: news, rfl, F10, fun p hp => N9 p (mv_sub hp), mv_fresh, ⟨.tail _ (.head _), trivial⟩, hr ▸ .mk vs5 ws5 _ _ [_] hvs5 (fun w hw => hok5 w (.tail _ hw)) d9 (.inr ⟨_, rfl⟩)⟩
          · exfalso
            rename (w5 != Str.ofString "") = false => hx
            exact h0 (by simpa using hx)
        · tb_start
          · rename Fr g1 L1 _ _ => F9
            rename News g1 L1 _ _ => N9
            rename Obj.data _ = Data.cell (some _) => d9
            exact Hold.mk ⟨_, _, _, _, rfl, F9, N9, mv_fresh, ⟨.tail _ (.head _), trivial⟩, hr ▸ .mk vs5 ws5 _ _ rest hvs5 (fun w hw => hok5 w (.tail _ hw)) d9 hrest⟩
          · exfalso
            rename (w5 != Str.ofString "") = false => hx
            exact h0 (by simpa using hx)
  · clear F1 N1
    intro h7 tk7 oC7 rest7 F7 N7
    dsimp only [List.take, List.drop]
    tb_start
    rename News h₀ _ _ _ => N9
    exact hret _ _ (by assumption) fun p hp => N9 p (.tail _ (.tail _ hp))


-- PART Firm
theorem lnFirm : True := by
  k_with_none
  k_with "call builtin:str.lower" => ((k_here; (with_reducible show wpAny _ _ (call (Value.builtin "str.lower") [Value.str _ _]) _ _ _); (refine SCL.lower (by omega) ?_); intro _))
  k_with "subscriptTail Name Slice str ref" => (((with_reducible show wpAny _ _ (subscriptTail _ (Expr.Slice none (some (Expr.BoolOp _ _ _)) none _) _ _) _ _ _); (with_reducible rename Fr _ _ _ _ => F'); (with_reducible rename News _ _ _ _ => N'); (first | refine slice_strN_nn_len (s := ⟨_, _, _, _, _⟩) F' N' ?_ | refine slice_strN_ns_len (s := ⟨_, _, _, _, _⟩) F' N' ?_); intro _ _ _ _ _ _))
  k_with "tb_start" => (((try (show wpAny _ _ _ _ _ _)); (try k_fold); (repeat' ((fail_if_success (with_reducible show InvEndN _ _ _ _ _ _ _)); first | (k_unfold; (try dsimp only)) | (k_end; wrow_close) | walk1 | (dsimp only; walk1) | (dsimp only; k_unfold; (try dsimp only)) | (leave1; walk_say "STEP leave1"; try dsimp only) | fail "no step")); (all_goals (try dsimp only))))
  k_with "ktr_unf" => (repeat' ((fail_if_success (with_reducible show InvEndN _ _ _ _ _ _ _)); (fail_if_success (with_reducible show wpAny _ _ (exec (Stmt.While _ _ _ _) _) _ _ _)); (fail_if_success (with_reducible show wpAny _ _ (exec (Stmt.For _ _ _ _ _) _) _ _ _)); (fail_if_success (with_reducible show wpAny _ _ (pyIter _) _ _ _)); first | (k_unfold; (try dsimp only)) | (k_end; wrow_close) | walk1 | (dsimp only; walk1) | (dsimp only; k_unfold; (try dsimp only)) | (leave1; walk_say "STEP leave1"; try dsimp only) | fail "no step"))
  k_with "tb_nf" => (((repeat' ((fail_if_success (with_reducible show InvEndN _ _ _ _ _ _ _)); first | (k_unfold; (try dsimp only)) | (k_end; wrow_close) | walk1 | (dsimp only; walk1) | (dsimp only; k_unfold; (try dsimp only)) | (leave1; walk_say "STEP leave1"; try dsimp only) | fail "no step")); (all_goals (try dsimp only))))
  trivial
theorem lnFirm_0 : True := by
  k_with "call ref" => ((k_here; k_dflt ((show wpAny _ _ (call (Value.ref 52) _) _ _ _); (refine' lev_val _ _ _ _ _ _ _ _ _ _ _ _ _ ?hV ?la ?lb _ _ _ _ _ _ _ _ _ _ _ _ _ _ _ _ _ ?B ?F ?X ?N ?T ?kk ?kd ?ku ?_); (case hV => first | with_reducible assumption | exact rfl); (case la => omega); (case lb => omega); (case B => k_asm); (case F => k_asm); (case X => k_asm); (case N => k_asm); (case T => k_asm); (case kk => first | exact rfl | assumption); (case kd => ktr_room); (case ku => ktr_units); k_whole; intro t9 h9 tk9 F9 N9; (try dsimp only))))
  k_with "subscriptTail" => ((k_here; (with_reducible show wpAny _ _ (subscriptTail (Expr.Name _ _) (Expr.Subscript _ _ _) (Value.ref _) (Value.int _ _)) _ _ _); k_dflt (refine' KTb.item_list (News.isList (by k_asm) (by k_mem)) (by with_reducible assumption) (by omega) ?b (by omega) ?_; (case b => omega)); intro _ _))
  trivial
noncomputable abbrev PrD := Addr × Nat × Nat × Int
noncomputable def PrIn (news : List (Addr × Obj)) (e : PrD) : Prop := ∃ ti tj, (e.1, pairObj (.int (e.2.1 : Int) ti) (.int (e.2.2.1 : Int) tj)) ∈ news
noncomputable def FirmOk (ws : List Str) (e : PrD) : Prop := e.2.1 < ws.length ∧ e.2.2.1 < ws.length ∧ levF (ws.getD ((e.2.2.1 : Nat) : Int).toNat Str.empty) (ws.getD ((e.2.1 : Nat) : Int).toNat Str.empty) e.2.2.2 = e.2.2.2 ∧
  levF (ws.getD ((e.2.1 : Nat) : Int).toNat Str.empty) (ws.getD ((e.2.2.1 : Nat) : Int).toNat Str.empty) (e.2.2.2 - 1) = e.2.2.2
inductive FmJ (WS PR CS : Addr) (news : List (Addr × Obj)) (ws : List Str) : List Itm → (Str → Option Value) → List (Addr × Obj) → Prop
  | mk (ps : List PrD) (cv : List Value) (rest : List (Str × Value)) (hcv : IntsAre cv (ps.map fun e => e.2.2.2)) (hok : ∀ e ∈ ps, PrIn news e ∧ FirmOk ws e)
      (hrest : rest = [] ∨ ∃ v1 v2 v3 v4, rest = [(Str.ofString "pair", v1), (Str.ofString "cost", v2), (Str.ofString "one", v3), (Str.ofString "two", v4)]) :
      FmJ WS PR CS news ws (zipItems (ps.map fun e => Value.ref e.1) cv) (ov (fun _ => none) ([(Str.ofString "costs", Value.ref CS), (Str.ofString "pairs", Value.ref PR), (Str.ofString "ways", Value.ref WS)] ++ rest)) news
theorem firm_con (w : World) (loose : List Str) (mean : ExcName → Option Value) (mg mb : Str → Option Value) (news : List (Addr × Obj)) (WS PR CS : Addr) (n1 n2 n3 : Nat) (vs : List Value) (ws : List Str) (ps : List PrD) (cv : List Value) (hvs : StrsAre vs ws) (hwl : ∀ k : Nat, (ws.getD k Str.empty).length ≤ 20) (hcv : IntsAre cv (ps.map fun e => e.2.2.2)) (hok : ∀ e ∈ ps, PrIn news e ∧ FirmOk ws e) (hln : ws.length ≤ 100)
    (hWS : (WS, W.listOf vs.toArray n1) ∈ news) (hPR : (PR, W.listOf (ps.map fun e => Value.ref e.1).toArray n2) ∈ news) (hCS : (CS, W.listOf cv.toArray n3) ∈ news) :
   ∀ (dp un : Nat) (gd : Option (List Code)) (cn : Str) (cs : Scope) (ad : Addr) (ccd : Value) (cls : List (Str × Addr)) (outer : List Env) (A₀ : Around) (base h₀ : Heap) (L : Addr) (m : Str → Option Value) (s : Shared) (Q E : Value → Shared → Prop),
    Below A₀ base outer h₀ → Fr h₀ L s.heap m → (KK w.params).In h₀ → News h₀ L s.heap news → Top QQ loose mean mg mb h₀ → cs.kind = .function →
    dp + 6 < recursionLimit → un + 200 < cLine →
    (∀ (h' : Heap) (tk' : Nat), Fr h₀ L h' m → News h₀ L h' news → Q (.bool true) { s with heap := h', toks := tk' }) →
      wpAny (model PySem.Challenge.rw_sh0066_01.row.prog w) (ktrTop dp un gd cn cs L ad ccd cls outer) (call (.ref 246) [.ref WS, .ref PR, .ref CS]) Q E s := by
  k_fill
  intro dp un gd cn cs ad ccd cls outer A₀ base h₀ L m s Q E B F X N T hk hdp hu hret
  refine wpAny_call ?_
  k_dflt cell_enter
  rename_i g1 L1 h1 FG1 F1 N1 B1 X1 T1
  replace F1 := fr_bind F1 (l' := [(Str.ofString "costs", Value.ref CS), (Str.ofString "pairs", Value.ref PR), (Str.ofString "ways", Value.ref WS)]) rfl
  refine execs_cutC 1 (fun J => ∀ h tk rest, Fr g1 L1 h (ov (fun _ => none) ([(Str.ofString "costs", Value.ref CS), (Str.ofString "pairs", Value.ref PR), (Str.ofString "ways", Value.ref WS)] ++ rest)) → News g1 L1 h news → J ⟨h, s.gens, s.drawn, tk, s.os⟩) ?_ ?_
  · intro J hJc
    dsimp only [List.take, List.drop]
    refine wpAny_execs_cons (for_turns F1 ?h)
    show wpAny _ _ _ _ _ _
    k_fold
    tb_start
    refine zip_for (FmJ WS PR CS news ws) rfl F1 N1 hPR rfl rfl hCS rfl rfl (.mk ps cv [] hcv hok (.inl rfl)) ?turn ?done
    case done =>
      intro m5 led5 h5 tk5 hJ F5 N5
      generalize ([] : List Itm) = its at hJ
      obtain ⟨ps, cv, rest, _, _, _⟩ := hJ
      exact wpAny_execs_nil (hJc _ _ rest F5 N5)
    case turn =>
      clear F1 N1 hcv hok
      intro I a r m5 led5 v5 h5 tk5 its hJ hv F5 hits N5 hap
      generalize hits5 : a :: r = itsA at hJ
      obtain ⟨ps, cv, rest, hcv, hok, hrest⟩ := hJ
      obtain ⟨o1, o2, o3, o4, o5, rfl⟩ := objs5 hits
      cases ps with
      | nil => cases hits5
      | cons e ps =>
      obtain ⟨P, i, j, c⟩ := e
      cases hcv with
      | cons _ t hcv =>
      rename_i cv
      obtain ⟨ha, hr⟩ := List.cons.inj hits5
      subst ha
      obtain ⟨T9, t9, rfl, hT⟩ := hv
      replace hT : IsTup h5 T9 #[.ref P, .int c t] := hT
      obtain ⟨⟨ti, tj, hP⟩, hi, hj, hf1, hf2⟩ := hok _ (.head _)
      dsimp only at hi hj hf1 hf2 hP
      have hl1 := hwl ((i : Nat) : Int).toNat
      have hl2 := hwl ((j : Nat) : Int).toNat
      have N6 := news_add (news_add N5 (List.mem_append_right _ hWS)) (.tail _ (List.mem_append_right _ hP))
      clear N5
      show wpAny _ _ _ _ _ _
      tb_start
      · exfalso; omega
      · exfalso; omega
      · rename Fr g1 L1 _ _ => F9
        rename News g1 L1 _ _ => N9
        simp only [ov_app] at F9
        obtain ⟨v1, v2, v3, v4, F10⟩ : ∃ v1 v2 v3 v4, Fr g1 L1 _ (ov (fun _ => none) ([(Str.ofString "costs", Value.ref CS), (Str.ofString "pairs", Value.ref PR), (Str.ofString "ways", Value.ref WS)] ++ [(Str.ofString "pair", v1), (Str.ofString "cost", v2), (Str.ofString "one", v3), (Str.ofString "two", v4)])) := by
          rcases hrest with rfl | ⟨_, _, _, _, rfl⟩ <;> exact ⟨_, _, _, _, fr_fix F9 rfl⟩
        exact Hold.mk ⟨_, _, _, _, rfl, F10, fun p hp => N9 p (.tail _ (.tail _ hp)), fun q hq => .inl ⟨_, hq⟩, ⟨hPR, hCS, trivial⟩, hr ▸ .mk ps cv _ hcv (fun e he => hok e (.tail _ he)) (.inr ⟨_, _, _, _, rfl⟩)⟩
  · clear F1 N1
    intro h7 tk7 rest7 F7 N7
    dsimp only [List.take, List.drop]
    tb_start
    exact hret _ _ (by assumption) (by assumption)


-- PART Common
theorem lnCommon : True := by
  k_with_none
  k_with "call builtin:str.lower" => ((k_here; (with_reducible show wpAny _ _ (call (Value.builtin "str.lower") [Value.str _ _]) _ _ _); (refine SCL.lower (by omega) ?_); intro _))
  k_with "subscriptTail Name Slice str ref" => (((with_reducible show wpAny _ _ (subscriptTail _ (Expr.Slice none (some (Expr.BoolOp _ _ _)) none _) _ _) _ _ _); (with_reducible rename Fr _ _ _ _ => F'); (with_reducible rename News _ _ _ _ => N'); (first | refine slice_strN_nn_len (s := ⟨_, _, _, _, _⟩) F' N' ?_ | refine slice_strN_ns_len (s := ⟨_, _, _, _, _⟩) F' N' ?_); intro _ _ _ _ _ _))
  k_with "tb_start" => (((try (show wpAny _ _ _ _ _ _)); (try k_fold); (repeat' ((fail_if_success (with_reducible show InvEndN _ _ _ _ _ _ _)); first | (k_unfold; (try dsimp only)) | (k_end; wrow_close) | walk1 | (dsimp only; walk1) | (dsimp only; k_unfold; (try dsimp only)) | (leave1; walk_say "STEP leave1"; try dsimp only) | fail "no step")); (all_goals (try dsimp only))))
  k_with "ktr_unf" => (repeat' ((fail_if_success (with_reducible show InvEndN _ _ _ _ _ _ _)); (fail_if_success (with_reducible show wpAny _ _ (exec (Stmt.While _ _ _ _) _) _ _ _)); (fail_if_success (with_reducible show wpAny _ _ (exec (Stmt.For _ _ _ _ _) _) _ _ _)); (fail_if_success (with_reducible show wpAny _ _ (pyIter _) _ _ _)); first | (k_unfold; (try dsimp only)) | (k_end; wrow_close) | walk1 | (dsimp only; walk1) | (dsimp only; k_unfold; (try dsimp only)) | (leave1; walk_say "STEP leave1"; try dsimp only) | fail "no step"))
  k_with "tb_nf" => (((repeat' ((fail_if_success (with_reducible show InvEndN _ _ _ _ _ _ _)); first | (k_unfold; (try dsimp only)) | (k_end; wrow_close) | walk1 | (dsimp only; walk1) | (dsimp only; k_unfold; (try dsimp only)) | (leave1; walk_say "STEP leave1"; try dsimp only) | fail "no step")); (all_goals (try dsimp only))))
  trivial
theorem lnCommon_0 : True := by
  k_with "call builtin:max" => ((k_here; (with_reducible show wpAny _ _ (call (Value.builtin _) [Value.int _ _, Value.int _ _]) _ _ _); (refine' max_op ?hh ?F ?N ?_); (case hh => with_unfolding_all rfl); (case F => k_asm); (case N => k_asm); intro x9 t9 h9 tk9 hx9 F9 N9))
  k_with "subscriptTail" => ((k_here; (with_reducible show wpAny _ _ (subscriptTail (Expr.Name _ _) (Expr.Subscript _ _ _) (Value.ref _) (Value.int _ _)) _ _ _); k_dflt (first
  | (refine' KTb.item_list (News.isList (by k_asm) (by k_mem)) (by with_reducible assumption) (by omega) ?b (by omega) ?_; (case b => omega))
  | (refine' item_nat (News.isList (by k_asm) (by k_mem)) (by with_reducible assumption) (by omega) ?b (by omega) ?_; (case b => omega))); (try intro _); (try intro _)))
  k_with "call builtin:list.append" => ((k_here; (with_reducible show wpAny _ _ (call (Value.builtin _) [Value.ref _, _]) _ _ _); k_dflt (refine' append_K ?k1 ?k2 (Upd.head (by with_reducible assumption)) ?_ ?z; (case k1 => k_asm); (case k2 => k_asm); (case z => with_reducible assumption); k_whole); intro h' F' N'; (try k_sweep)))
  trivial
noncomputable abbrev CmD := Addr × Nat × Nat × Int × Nat
noncomputable def CmIn (news : List (Addr × Obj)) (e : CmD) : Prop := ∃ ti tj, (e.1, pairObj (.int (e.2.1 : Int) ti) (.int (e.2.2.1 : Int) tj)) ∈ news
noncomputable def CmOk (names : List Str) (dep : List Nat) (e : CmD) : Prop := e.2.1 < names.length ∧ e.2.2.1 < names.length ∧ (0 ≤ e.2.2.2.1 ∧ e.2.2.2.1 ≤ 1000) ∧
  (Txt.isupper (names.getD ((e.2.1 : Nat) : Int).toNat Str.empty) = Txt.isupper (names.getD ((e.2.2.1 : Nat) : Int).toNat Str.empty) → max ((dep.getD ((e.2.1 : Nat) : Int).toNat 0 : Nat) : Int) ((dep.getD ((e.2.2.1 : Nat) : Int).toNat 0 : Nat) : Int) - e.2.2.2.1.fdiv 2 = (e.2.2.2.2 : Int)) ∧
  (Txt.isupper (names.getD ((e.2.1 : Nat) : Int).toNat Str.empty) ≠ Txt.isupper (names.getD ((e.2.2.1 : Nat) : Int).toNat Str.empty) → 2 * max ((dep.getD ((e.2.1 : Nat) : Int).toNat 0 : Nat) : Int) ((dep.getD ((e.2.2.1 : Nat) : Int).toNat 0 : Nat) : Int) - e.2.2.2.1 = (e.2.2.2.2 : Int))
inductive CmJ (NM DP PR CS CM : Addr) (news : List (Addr × Obj)) (names : List Str) (dep : List Nat) (tot : List Int) : List Itm → (Str → Option Value) → List (Addr × Obj) → Prop
  | mk (ps : List CmD) (cv cm : List Value) (ds : List Int) (n : Nat) (rest : List (Str × Value)) (hcv : IntsAre cv (ps.map fun e => e.2.2.2.1)) (hok : ∀ e ∈ ps, CmIn news e ∧ CmOk names dep e) (hcm : IntsAre cm ds) (hds : ds ++ ps.map (fun e => (e.2.2.2.2 : Int)) = tot)
      (hrest : rest = [] ∨ ∃ v1 v2 v3, rest = [(Str.ofString "pair", v1), (Str.ofString "cost", v2), (Str.ofString "most", v3)]) :
      CmJ NM DP PR CS CM news names dep tot (zipItems (ps.map fun e => Value.ref e.1) cv) (ov (fun _ => none) ([(Str.ofString "costs", Value.ref CS), (Str.ofString "pairs", Value.ref PR), (Str.ofString "deep", Value.ref DP), (Str.ofString "names", Value.ref NM), (Str.ofString "common", Value.ref CM)] ++ rest)) ((CM, W.listOf cm.toArray n) :: news)
theorem cm_n6 {g h : Heap} {L : Addr} {its news : List (Addr × Obj)} {c p x y : Addr × Obj} (N : News g L h (its ++ c :: news)) (hp : p ∈ news) (hx : x ∈ news) (hy : y ∈ news) : News g L h (c :: p :: x :: y :: (its ++ news)) :=
  List.forall_mem_cons.mpr ⟨N _ (List.mem_append_right _ (.head _)), List.forall_mem_cons.mpr ⟨N _ (List.mem_append_right _ (.tail _ hp)), List.forall_mem_cons.mpr ⟨N _ (List.mem_append_right _ (.tail _ hx)), List.forall_mem_cons.mpr ⟨N _ (List.mem_append_right _ (.tail _ hy)),
    fun q hq => N q ((List.mem_append.mp hq).elim (fun h => List.mem_append_left _ h) fun h => List.mem_append_right _ (.tail _ h))⟩⟩⟩⟩
theorem cm_all {C : Addr} {its news : List (Addr × Obj)} {p x y : Addr × Obj} (hC : ∀ p ∈ news, p.1 ≠ C) (hI : ∀ q ∈ its, q.1 ≠ C) (hp : p ∈ news) (hx : x ∈ news) (hy : y ∈ news) : ∀ q ∈ p :: x :: y :: (its ++ news), q.1 ≠ C :=
  List.forall_mem_cons.mpr ⟨hC _ hp, List.forall_mem_cons.mpr ⟨hC _ hx, List.forall_mem_cons.mpr ⟨hC _ hy, fun q hq => (List.mem_append.mp hq).elim (hI q) (hC q)⟩⟩⟩
theorem ints_snoc {vs : List Value} {ns : List Int} (h : IntsAre vs ns) (y : Int) (t : Tok) : IntsAre (vs ++ [.int y t]) (ns ++ [y]) := by
  induction h with
  | nil => exact .cons _ _ .nil
  | cons n t' _ ih => exact .cons _ _ ih
theorem cm_fresh {a : Addr} {o o' : Obj} {news : List (Addr × Obj)} {ws : List (Addr × String)} : ∀ q ∈ (a, o') :: news, (∃ x, (q.1, x) ∈ (a, o) :: news) ∨ ∀ w ∈ ws, q.2.cls ≠ .type w.2 := by
  intro q hq
  rcases List.mem_cons.mp hq with rfl | hq
  · exact .inl ⟨_, .head _⟩
  exact .inl ⟨_, .tail _ hq⟩
theorem cm_news {h₀ h : Heap} {L : Addr} {a b c d : Addr × Obj} {its news : List (Addr × Obj)} (N : News h₀ L h (a :: b :: c :: d :: (its ++ news))) : News h₀ L h (its ++ a :: news) := fun p hp => by
  rcases List.mem_append.mp hp with hp | hp
  · exact N p (.tail _ (.tail _ (.tail _ (.tail _ (List.mem_append_left _ hp)))))
  rcases List.mem_cons.mp hp with rfl | hp
  · exact N _ (.head _)
  · exact N p (.tail _ (.tail _ (.tail _ (.tail _ (List.mem_append_right _ hp)))))
theorem common_con (w : World) (loose : List Str) (mean : ExcName → Option Value) (mg mb : Str → Option Value) (news : List (Addr × Obj)) (NM DP PR CS : Addr) (n0 n1 n2 n3 : Nat) (vn vd : List Value) (names : List Str) (dep : List Nat) (ps : List CmD) (cv : List Value) (hvn : StrsAre vn names) (hvd : IntsAre vd (dep.map fun (n : Nat) => (n : Int))) (hnl : ∀ k : Nat, (names.getD k Str.empty).length ≤ 20) (hdl : ∀ k : Nat, dep.getD k 0 ≤ 20)
    (hcv : IntsAre cv (ps.map fun e => e.2.2.2.1)) (hok : ∀ e ∈ ps, CmIn news e ∧ CmOk names dep e) (hln : names.length = dep.length) (hl2 : names.length ≤ 100) (hpl : ps.length ≤ 100)
    (hNM : (NM, W.listOf vn.toArray n0) ∈ news) (hDP : (DP, W.listOf vd.toArray n1) ∈ news) (hPR : (PR, W.listOf (ps.map fun e => Value.ref e.1).toArray n2) ∈ news) (hCS : (CS, W.listOf cv.toArray n3) ∈ news) :
   ∀ (dp un : Nat) (gd : Option (List Code)) (cn : Str) (cs : Scope) (ad : Addr) (ccd : Value) (cls : List (Str × Addr)) (outer : List Env) (A₀ : Around) (base h₀ : Heap) (L : Addr) (m : Str → Option Value) (s : Shared) (Q E : Value → Shared → Prop),
    Below A₀ base outer h₀ → Fr h₀ L s.heap m → (KK w.params).In h₀ → News h₀ L s.heap news → Top QQ loose mean mg mb h₀ → cs.kind = .function →
    dp + 6 < recursionLimit → un + 200 < cLine →
    (∀ (CM : Addr) (cm : List Value) (n : Nat) (h' : Heap) (tk' : Nat), IntsAre cm (ps.map fun e => (e.2.2.2.2 : Int)) → Fr h₀ L h' m → News h₀ L h' ((CM, W.listOf cm.toArray n) :: news) → Q (.ref CM) { s with heap := h', toks := tk' }) →
      wpAny (model PySem.Challenge.rw_sh0066_01.row.prog w) (ktrTop dp un gd cn cs L ad ccd cls outer) (call (.ref 258) [.ref NM, .ref DP, .ref PR, .ref CS]) Q E s := by
  k_fill
  intro dp un gd cn cs ad ccd cls outer A₀ base h₀ L m s Q E B F X N T hk hdp hu hret
  refine wpAny_call ?_
  k_dflt cell_enter
  rename_i g1 L1 h1 FG1 F1 N1 B1 X1 T1
  replace F1 := fr_bind F1 (l' := [(Str.ofString "costs", Value.ref CS), (Str.ofString "pairs", Value.ref PR), (Str.ofString "deep", Value.ref DP), (Str.ofString "names", Value.ref NM)]) rfl
  refine execs_cutC 1 (fun J => ∀ h tk CM, (∀ p ∈ news, p.1 ≠ CM) → Fr g1 L1 h (ov (fun _ => none) [(Str.ofString "costs", Value.ref CS), (Str.ofString "pairs", Value.ref PR), (Str.ofString "deep", Value.ref DP), (Str.ofString "names", Value.ref NM), (Str.ofString "common", Value.ref CM)]) → News g1 L1 h ((CM, W.listOf #[] 0) :: news) → J ⟨h, s.gens, s.drawn, tk, s.os⟩) ?_ ?_
  · intro J hJc
    dsimp only [List.take, List.drop]
    k_fold
    tb_start
    rename Fr _ _ _ _ => FF
    simp only [ov_app] at FF
    exact hJc _ _ _ (fun p hp => Nat.ne_of_lt ((by assumption : ∀ p ∈ news, p.1 < _) p hp)) (fr_fix FF rfl) (by assumption)
  · clear F1 N1
    intro h2 tk2 CM hCM F2 N2
    dsimp only [List.take, List.drop]
    refine execs_cutC 1 (fun J => ∀ h tk cm n rest, IntsAre cm (ps.map fun e => (e.2.2.2.2 : Int)) → Fr g1 L1 h (ov (fun _ => none) ([(Str.ofString "costs", Value.ref CS), (Str.ofString "pairs", Value.ref PR), (Str.ofString "deep", Value.ref DP), (Str.ofString "names", Value.ref NM), (Str.ofString "common", Value.ref CM)] ++ rest)) → News g1 L1 h ((CM, W.listOf cm.toArray n) :: news) → J ⟨h, s.gens, s.drawn, tk, s.os⟩) ?_ ?_
    · intro J hJc
      dsimp only [List.take, List.drop]
      refine wpAny_execs_cons (for_turns F2 ?h)
      show wpAny _ _ _ _ _ _
      k_fold
      tb_start
      refine zip_for (CmJ NM DP PR CS CM news names dep (ps.map fun e => (e.2.2.2.2 : Int))) rfl F2 N2 (.tail _ hPR) rfl rfl (.tail _ hCS) rfl rfl (.mk ps cv [] [] 0 [] hcv hok .nil rfl (.inl rfl)) ?turn ?done
      case done =>
        intro m5 led5 h5 tk5 hJ F5 N5
        generalize hits7 : ([] : List Itm) = its7 at hJ
        obtain ⟨ps7, cv7, cm7, ds7, n7, rest7, hcv7, hok7, hcm7, hds7, hrest7⟩ := hJ
        refine wpAny_execs_nil (hJc _ _ cm7 n7 rest7 ?_ F5 N5)
        cases ps7 with
        | nil => rw [← hds7]; simpa using hcm7
        | cons e ps7 =>
          cases hcv7 with
          | cons _ _ _ => cases hits7
      case turn =>
        clear F2 N2
        generalize htot : ps.map (fun e => (e.2.2.2.2 : Int)) = tot
        have hPR' := hPR
        intro I a r m5 led5 v5 h5 tk5 its hJ hv F5 hits N5 hap
        generalize hits5 : a :: r = itsA at hJ
        obtain ⟨ps5, cv5, cm, ds, n5, rest, hcv5, hok5, hcm, hds, hrest⟩ := hJ
        obtain ⟨o1, o2, o3, o4, o5, rfl⟩ := objs5 hits
        cases ps5 with
        | nil => cases hits5
        | cons e ps5 =>
        obtain ⟨P, i, j, c, ce⟩ := e
        cases hcv5 with
        | cons _ t hcv5 =>
        rename_i cv5
        obtain ⟨ha, hr⟩ := List.cons.inj hits5
        subst ha
        obtain ⟨T9, t9, rfl, hT⟩ := hv
        replace hT : IsTup h5 T9 #[.ref P, .int c t] := hT
        obtain ⟨⟨ti, tj, hP⟩, hi, hj, hcb, hf1, hf2⟩ := hok5 _ (.head _)
        dsimp only at hi hj hcb hf1 hf2 hP
        have hl1 := hnl ((i : Nat) : Int).toNat
        have hl2 := hnl ((j : Nat) : Int).toNat
        have hd1 := hdl ((i : Nat) : Int).toNat
        have hd2 := hdl ((j : Nat) : Int).toNat
        have N6 : News g1 L1 h5 ((CM, W.listOf cm.toArray n5) :: (P, pairObj (.int (i : Int) ti) (.int (j : Int) tj)) :: (NM, W.listOf vn.toArray n0) :: (DP, W.listOf vd.toArray n1) :: ([(I + 4, o1), (I + 2, o2), (I + 3, o3), (I, o4), (I + 1, o5)] ++ news)) := cm_n6 N5 hP hNM hDP
        have hI := hap (CM, W.listOf cm.toArray n5) (.head _)
        have hall := cm_all (its := [(I + 4, o1), (I + 2, o2), (I + 3, o3), (I, o4), (I + 1, o5)]) hCM (List.forall_mem_cons.mpr ⟨(hI _ (.head _)).symm, List.forall_mem_cons.mpr ⟨(hI _ (.tail _ (.head _))).symm, List.forall_mem_cons.mpr ⟨(hI _ (.tail _ (.tail _ (.head _)))).symm, List.forall_mem_cons.mpr ⟨(hI _ (.tail _ (.tail _ (.tail _ (.head _))))).symm, List.forall_mem_cons.mpr ⟨(hI _ (.tail _ (.tail _ (.tail _ (.tail _ (.head _)))))).symm, List.forall_mem_nil _⟩⟩⟩⟩⟩) hP hNM hDP
        clear hI
        have hsz : cm.toArray.size ≤ sizeLine := by
          have e1 := hcm.length
          have e2 := congrArg List.length (hds.trans htot.symm)
          rw [List.length_append, List.length_map, List.length_map] at e2
          have e3 : 100 ≤ sizeLine := by decide
          rw [List.size_toArray]
          omega
        clear N5
        show wpAny _ _ _ _ _ _
        tb_start
        · rename Fr g1 L1 _ _ => F9
          rename News g1 L1 _ _ => N9
          rename _ = max _ _ => hx9
          rename (_ == _) = true => hq
          have hval := hf1 (by simpa using hq)
          rw [← hx9] at hval
          rw [hval, List.push_toArray] at N9
          simp only [ov_app] at F9
          obtain ⟨v1, v2, v3, F10⟩ : ∃ v1 v2 v3, Fr g1 L1 _ (ov (fun _ => none) ([(Str.ofString "costs", Value.ref CS), (Str.ofString "pairs", Value.ref PR), (Str.ofString "deep", Value.ref DP), (Str.ofString "names", Value.ref NM), (Str.ofString "common", Value.ref CM)] ++ [(Str.ofString "pair", v1), (Str.ofString "cost", v2), (Str.ofString "most", v3)])) := by
            rcases hrest with rfl | ⟨_, _, _, rfl⟩ <;> exact ⟨_, _, _, fr_fix F9 rfl⟩
          obtain ⟨t7, N10⟩ : ∃ t7, News g1 L1 _ ([(I + 4, o1), (I + 2, o2), (I + 3, o3), (I, o4), (I + 1, o5)] ++ (CM, W.listOf (cm ++ [Value.int (ce : Int) t7]).toArray (n5 + 1)) :: news) := ⟨_, cm_news N9⟩
          exact Hold.mk ⟨_, _, _, _, rfl, F10, N10, cm_fresh, ⟨.tail _ hPR', .tail _ hCS, trivial⟩, hr ▸ .mk ps5 cv5 _ (ds ++ [(ce : Int)]) (n5 + 1) _ hcv5 (fun e he => hok5 e (.tail _ he)) (ints_snoc hcm _ _) (by rw [← hds]; simp) (.inr ⟨_, _, _, rfl⟩)⟩
        · rename Fr g1 L1 _ _ => F9
          rename News g1 L1 _ _ => N9
          rename _ = max _ _ => hx9
          rename (_ == _) = false => hq
          have hval := hf2 (by simpa using hq)
          rw [← hx9] at hval
          rw [hval, List.push_toArray] at N9
          simp only [ov_app] at F9
          obtain ⟨v1, v2, v3, F10⟩ : ∃ v1 v2 v3, Fr g1 L1 _ (ov (fun _ => none) ([(Str.ofString "costs", Value.ref CS), (Str.ofString "pairs", Value.ref PR), (Str.ofString "deep", Value.ref DP), (Str.ofString "names", Value.ref NM), (Str.ofString "common", Value.ref CM)] ++ [(Str.ofString "pair", v1), (Str.ofString "cost", v2), (Str.ofString "most", v3)])) := by
            rcases hrest with rfl | ⟨_, _, _, rfl⟩ <;> exact ⟨_, _, _, fr_fix F9 rfl⟩
          obtain ⟨t7, N10⟩ : ∃ t7, News g1 L1 _ ([(I + 4, o1), (I + 2, o2), (I + 3, o3), (I, o4), (I + 1, o5)] ++ (CM, W.listOf (cm ++ [Value.int (ce : Int) t7]).toArray (n5 + 1)) :: news) := ⟨_, cm_news N9⟩
          exact Hold.mk ⟨_, _, _, _, rfl, F10, N10, cm_fresh, ⟨.tail _ hPR', .tail _ hCS, trivial⟩, hr ▸ .mk ps5 cv5 _ (ds ++ [(ce : Int)]) (n5 + 1) _ hcv5 (fun e he => hok5 e (.tail _ he)) (ints_snoc hcm _ _) (by rw [← hds]; simp) (.inr ⟨_, _, _, rfl⟩)⟩
    · clear F2 N2
      intro h7 tk7 cm7 n7 rest7 hcm7 F7 N7
      dsimp only [List.take, List.drop]
      tb_start
      exact hret _ cm7 n7 _ _ hcm7 (by assumption) (by assumption)


-- PART Comp2
theorem lnComp2 : True := by
  k_with_none
  trivial
/-! NOLINES a comprehension with two clauses -/
section
variable {prog : Program} {w : World} {A : Around} {E : Value → Shared → Prop} {R : Result → Shared → Prop} {s : Shared}
theorem compTurn2_0 (elt t0 i0 t1 i1 : Expr) (scope : Scope) (pos : Pos) (it acc : Value) (env : Env) :
    compTurn (.ListComp elt [⟨t0, i0, [], 0⟩, ⟨t1, i1, [], 0⟩] scope pos) 0 it acc env = (do
      standAt i0.pos
      match ← pyNext it with
      | none => pure (.done .next)
      | some v =>
        letOwnedTupleGo t0 it v
        assign t0 env v
        let mut ok := true
        for c in ([] : List Expr) do
          if ok then ok ← isTrue c env (eval c env)
        if ok then
          let x ← eval i1 env
          standAt i1.pos
          let x ← foldedSetIterable i1 env x
          let _ ← runOwn (.compStart (.ListComp elt [⟨t0, i0, [], 0⟩, ⟨t1, i1, [], 0⟩] scope pos) 1 (← holding [x] (pyIter x)) acc env) env
        again (.compLoop (.ListComp elt [⟨t0, i0, [], 0⟩, ⟨t1, i1, [], 0⟩] scope pos) 0 it acc env)) := by rfl
theorem compTurn2_1 (elt t0 i0 t1 i1 : Expr) (scope : Scope) (pos : Pos) (it acc : Value) (env : Env) :
    compTurn (.ListComp elt [⟨t0, i0, [], 0⟩, ⟨t1, i1, [], 0⟩] scope pos) 1 it acc env = (do
      standAt i1.pos
      match ← pyNext it with
      | none => pure (.done .next)
      | some v =>
        letOwnedTupleGo t1 it v
        assign t1 env v
        let mut ok := true
        for c in ([] : List Expr) do
          if ok then ok ← isTrue c env (eval c env)
        if ok then
          (do let _ ← call (.builtin "list.append") [acc, ← eval elt env])
        again (.compLoop (.ListComp elt [⟨t0, i0, [], 0⟩, ⟨t1, i1, [], 0⟩] scope pos) 1 it acc env)) := by rfl
theorem comp2_inner {elt t0 i0 t1 i1 : Expr} {scope : Scope} {pos : Pos} {it acc : Value} {env : Env} (I : Nat → Shared → Prop)
    (turn : ∀ n s, I n s → wpAny (model prog w) A (pyNext it) (fun r s₁ => match r with
      | none => R (.ok .next) s₁
      | some v => wpAny (model prog w) A (letOwnedTupleGo t1 it v) (fun _ s₀ => wpAny (model prog w) A (assign t1 env v) (fun _ s₂ =>
          wpAny (model prog w) A (eval elt env) (fun x s₄ =>
            wpAny (model prog w) A (call (.builtin "list.append") [acc, x]) (fun _ s₅ => ∃ m, m < n ∧ I m s₅) (fun _ _ => False) s₄) (fun _ _ => False) s₂)
          (fun _ _ => False) s₀) (fun _ _ => False) s₁) (fun _ _ => False) s)
    (n : Nat) (h : I n s) : codeAny (model prog w) A (.compLoop (.ListComp elt [⟨t0, i0, [], 0⟩, ⟨t1, i1, [], 0⟩] scope pos) 1 it acc env) R s := by
  refine codeAny_loop rfl I (fun n s hI => ?_) n h
  show wpAny _ A ((compTurn (.ListComp elt [⟨t0, i0, [], 0⟩, ⟨t1, i1, [], 0⟩] scope pos) 1 it acc env).onRaise (fun x => do noteFrame x env; theTreesLotGoes x)) _ _ s
  refine wpAny_noted ?_
  rw [compTurn2_1]
  refine wpAny_bind (wpAny_standAt (wpAny_bind (wpAny_mono (turn n s hI) (fun r s₁ h₁ => ?_) fun _ _ e => e.elim)))
  cases r with
  | none => exact wpAny_pure h₁
  | some v =>
    refine wpAny_bind (wpAny_mono h₁ (fun _ s₀ h₀' => ?_) fun _ _ e => e.elim)
    refine wpAny_bind (wpAny_mono h₀' (fun _ s₂ h₂ => ?_) fun _ _ e => e.elim)
    refine wpAny_bind (wpAny_tests_nil ?_)
    exact wpAny_bind (wpAny_bind (wpAny_mono h₂ (fun x s₄ h₄ => wpAny_bind (wpAny_mono h₄ (fun _ s₅ h₅ => wpAny_pure (wpAny_pure ⟨rfl, h₅⟩)) fun _ _ e => e.elim)) fun _ _ e => e.elim))
theorem comp2_start {elt t0 i0 t1 i1 : Expr} {scope : Scope} {pos : Pos} {it acc : Value} {env : Env}
    (h0 : codeAny (model prog w) A (.compLoop (.ListComp elt [⟨t0, i0, [], 0⟩, ⟨t1, i1, [], 0⟩] scope pos) 1 it acc env) R s)
    (h : wpAny (model prog w) A (pyIter it) (fun it' s' => codeAny (model prog w) A (.compLoop (.ListComp elt [⟨t0, i0, [], 0⟩, ⟨t1, i1, [], 0⟩] scope pos) 1 it' acc env) R s') (fun _ _ => False) s) :
    codeAny (model prog w) A (.compStart (.ListComp elt [⟨t0, i0, [], 0⟩, ⟨t1, i1, [], 0⟩] scope pos) 1 it acc env) R s := by
  refine codeAny_of_tree ?_
  show wpAny _ _ ((compStart (.ListComp elt [⟨t0, i0, [], 0⟩, ⟨t1, i1, [], 0⟩] scope pos) 1 it acc env).onRaise _) _ _ s
  refine wpAny_onRaise (wpAny_mono (Q := fun fin s' => match fin with | .done f => R (.ok f) s' | .again c' => c'.quiet = true ∧ codeAny (model prog w) A c' R s') (E := fun _ _ => False) ?_ (fun fin s' q => q) fun _ _ e => e.elim)
  unfold compStart
  show wpAny _ _ (ask >>= _) _ _ s
  refine wpAny_bind (wpAny_askSetting (wpAny_ite ?_))
  split
  · first
      | exact wpAny_bind (wpAny_pure (wpAny_pure (And.intro rfl h0)))
      | exact wpAny_pure (And.intro rfl h0)
  · first
      | exact wpAny_bind (wpAny_rule (wpAny_bind (wpAny_standAt (wpAny_bind (wpAny_mono h (fun it' s' h' => wpAny_pure (And.intro rfl h')) fun _ _ x => x.elim)))))
      | (refine wpAny_bind (wpAny_rule ?_); show wpAny _ _ (standAt i1.pos >>= _) _ _ s; exact wpAny_bind (wpAny_standAt (wpAny_bind (wpAny_mono h (fun it' s' h' => wpAny_pure (And.intro rfl h')) fun _ _ x => x.elim))))
theorem comp2_outer {elt t0 i0 t1 i1 : Expr} {scope : Scope} {pos : Pos} {it acc : Value} {env : Env} (I : Nat → Shared → Prop)
    (turn : ∀ n s, I n s → wpAny (model prog w) A (pyNext it) (fun r s₁ => match r with
      | none => R (.ok .next) s₁
      | some v => wpAny (model prog w) A (letOwnedTupleGo t0 it v) (fun _ s₀ => wpAny (model prog w) A (assign t0 env v) (fun _ s₂ =>
          wpAny (model prog w) A (eval i1 env) (fun x s₄ => wpAny (model prog w) A (pyIter x) (fun it1 s₅ =>
            codeAny (model prog w) (A.mark none) (.compStart (.ListComp elt [⟨t0, i0, [], 0⟩, ⟨t1, i1, [], 0⟩] scope pos) 1 it1 acc env) (fun r s₆ => r = .ok .next ∧ ∃ m, m < n ∧ I m s₆) s₅) (fun _ _ => False) s₄) (fun _ _ => False) s₂)
          (fun _ _ => False) s₀) (fun _ _ => False) s₁) (fun _ _ => False) s)
    (n : Nat) (h : I n s) (hs : ∀ x, foldedSetIterable i1 env x = pure x := by intro _; rfl) : codeAny (model prog w) A (.compLoop (.ListComp elt [⟨t0, i0, [], 0⟩, ⟨t1, i1, [], 0⟩] scope pos) 0 it acc env) R s := by
  refine codeAny_loop rfl I (fun n s hI => ?_) n h
  show wpAny _ A ((compTurn (.ListComp elt [⟨t0, i0, [], 0⟩, ⟨t1, i1, [], 0⟩] scope pos) 0 it acc env).onRaise (fun x => do noteFrame x env; theTreesLotGoes x)) _ _ s
  refine wpAny_noted ?_
  rw [compTurn2_0]
  refine wpAny_bind (wpAny_standAt (wpAny_bind (wpAny_mono (turn n s hI) (fun r s₁ h₁ => ?_) fun _ _ e => e.elim)))
  cases r with
  | none => exact wpAny_pure h₁
  | some v =>
    refine wpAny_bind (wpAny_mono h₁ (fun _ s₀ h₀' => ?_) fun _ _ e => e.elim)
    refine wpAny_bind (wpAny_mono h₀' (fun _ s₂ h₂ => ?_) fun _ _ e => e.elim)
    refine wpAny_bind (wpAny_tests_nil ?_)
    simp only [if_true]
    refine wpAny_bind (wpAny_mono h₂ (fun x s₄ h₄ => ?_) fun _ _ e => e.elim)
    refine wpAny_bind (wpAny_standAt ?_)
    rw [hs x]
    refine wpAny_bind (wpAny_pure ?_)
    refine wpAny_bind (wpAny_holding (wpAny_mono h₄ (fun it1 s₅ h₅ => ?_) fun _ _ e => e.elim))
    refine wpAny_bind (wpAny_runOwn (codeAny_mono h₅ (fun r s₆ h₆ => ?_)))
    obtain ⟨rfl, h₆⟩ := h₆
    exact wpAny_pure ⟨rfl, h₆⟩
end
section
variable {prog : Program} {w : World} {A : Around} {E : Value → Shared → Prop} {s : Shared} {h₀ : Heap} {L : Addr} {m : Str → Option Value} {env : Env}
open LCg LCp
/-- the pairs (i, j) with j below i below n, in their order -/
noncomputable def pairsUp : Nat → List (Nat × Nat)
  | 0 => []
  | i + 1 => pairsUp i ++ (List.range i).map fun j => (i, j)
inductive PrsAre : List (Addr × Value × Value) → List (Nat × Nat) → Prop
  | nil : PrsAre [] []
  | cons (T : Addr) (i j : Nat) (t u : Tok) {P ps} : PrsAre P ps → PrsAre ((T, .int (i : Int) t, .int (j : Int) u) :: P) ((i, j) :: ps)
theorem PrsAre.snoc {P ps} (h : PrsAre P ps) (T : Addr) (i j : Nat) (t u : Tok) : PrsAre (P ++ [(T, .int (i : Int) t, .int (j : Int) u)]) (ps ++ [(i, j)]) := by
  induction h with
  | nil => exact .cons T i j t u .nil
  | cons T' i' j' t' u' _ ih => exact .cons T' i' j' t' u' ih
theorem PrsAre.len {P ps} (h : PrsAre P ps) : P.length = ps.length := by
  induction h with
  | nil => rfl
  | cons _ _ _ _ _ _ ih => simp [ih]
theorem pairsUp_len : ∀ n, n ≤ 8 → (pairsUp n).length ≤ 28 := by decide
/-- how the heap stands between the turns: all that was is kept, the list holds the pairs so far -/
structure PrAt (hb : Heap) (L D C : Addr) (ps : List (Nat × Nat)) (P : List (Addr × Value × Value)) (h : Heap) : Prop where
  keep : ∀ b o, b ≠ L → hb.get? b = some o → h.get? b = some o
  are : PrsAre P ps
  list : h.get? D = some (LCg.lst (P.map fun e => Value.ref e.1))
  tup : ∀ e ∈ P, h.get? e.1 = some (pairObj e.2.1 e.2.2) ∧ hb.objs.size ≤ e.1 ∧ e.1 ≠ D ∧ e.1 ≠ C
theorem PrAt.up {hb h h' : Heap} {L D C : Addr} {ps : List (Nat × Nat)} {P : List (Addr × Value × Value)} (x : PrAt hb L D C ps P h) (hk : ∀ b o, b ≠ C → h.get? b = some o → h'.get? b = some o) (hC : hb.objs.size ≤ C) (hDC : D ≠ C) : PrAt hb L D C ps P h' where
  keep := fun b o hb e => hk b o (fun q => Nat.lt_irrefl _ (Nat.lt_of_lt_of_le (q ▸ Heap.lt_size e) hC)) (x.keep b o hb e)
  are := x.are
  list := hk D _ hDC x.list
  tup := fun e he => ⟨hk _ _ (x.tup e he).2.2.2 (x.tup e he).1, (x.tup e he).2⟩
end


-- PART Pairs
theorem lnPairs : True := by
  k_with_none
  trivial
/-! NOLINES the pairs (i, j), j below i, by a comprehension over two ranges -/
section
variable {prog : Program} {w : World} {A : Around} {E : Value → Shared → Prop} {s : Shared} {h₀ : Heap} {L : Addr} {m : Str → Option Value} {env : Env}
open LCg LCp
theorem pair_elt {x x₂ : Str} {px px₂ pt : Pos} {kk : Nat} {scope : Scope} {cl : List (Str × Addr)} {C : Addr} {mC : Str → Option Value} {vx vy : Value} {Q : Value → Shared → Prop} (hn : s.heap.Ns C mC) (hvx : mC x = some vx) (hvy : mC x₂ = some vy)
    (hk : (compEnvC scope cl C env).scope.kind = .function) (hl : (compEnvC scope cl C env).kindOf x = some .local) (hl₂ : (compEnvC scope cl C env).kindOf x₂ = some .local) (hd : (x == ("__debug__" : Str)) = false) (hd₂ : (x₂ == ("__debug__" : Str)) = false)
    (h : Q (.ref s.heap.objs.size) { s with heap := s.heap.push (pairObj vx vy) }) :
    wpAny (model prog w) A (eval (.Tuple [.Name x px, .Name x₂ px₂] kk pt) (compEnvC scope cl C env)) Q E s := by
  refine Tuple_ (spliced_more (ldVarK hn hvx ?_ hk hl hd))
  refine spliced_more (ldVarK hn hvy ?_ hk hl₂ hd₂)
  refine spliced_none ?_
  exact wpAny_newTuple h
theorem pairs_inner {x x₂ : Str} {px px₂ pe pe₂ pt : Pos} {kk : Nat} {i0 i1 : Expr} {scope : Scope} {cl : List (Str × Addr)} {pos : Pos} {C D I0 I1 : Addr} {o0 : Obj} {hb h : Heap} {tk i : Nat} {ti : Tok} {mC : Str → Option Value} {P : List (Addr × Value × Value)} {s₂ : Shared} (hh : A.handled = none)
    (hk : (compEnvC scope cl C env).scope.kind = .function) (hl : (compEnvC scope cl C env).kindOf x = some .local) (hl₂ : (compEnvC scope cl C env).kindOf x₂ = some .local) (hd : (x == ("__debug__" : Str)) = false) (hd₂ : (x₂ == ("__debug__" : Str)) = false) (hxx : x ≠ x₂)
    (hp : ((compEnvC scope cl C env).scope.kind == .class || ((compEnvC scope cl C env).scope.kind == .module && (compEnvC scope cl C env).locals != (compEnvC scope cl C env).globals)) = false)
    (hCb : hb.objs.size ≤ C) (hDb : hb.objs.size ≤ D) (hIb : hb.objs.size ≤ I1) (hDC : D ≠ C) (hIC : I1 ≠ C) (hID : I1 ≠ D) (hi : i ≤ 8)
    (hP : PrAt hb L D C (pairsUp i) P h) (hPI : ∀ e ∈ P, e.1 ≠ I1) (hn : h.Ns C mC) (hx : mC x = some (.int (i : Int) ti)) (hit : IsRangeIter h I1 0 (i : Int) 1) (h0 : h.get? I0 = some o0) (h0C : I0 ≠ C) (h0D : I0 ≠ D) (h01 : I0 ≠ I1) (hP0 : ∀ e ∈ P, e.1 ≠ I0) (hPl : (pairsUp i).length ≤ 100) :
    codeAny (model prog w) A (.compLoop (.ListComp (.Tuple [.Name x pe, .Name x₂ pe₂] kk pt) [⟨.Name x px, i0, [], 0⟩, ⟨.Name x₂ px₂, i1, [], 0⟩] scope pos) 1 (.ref I1) (.ref D) (compEnvC scope cl C env))
      (fun r s₃ => r = .ok .next ∧ ∃ h' tk' P' mC', s₃ = { s₂ with heap := h', toks := tk' } ∧ PrAt hb L D C (pairsUp (i + 1)) P' h' ∧ h'.Ns C mC' ∧ (∀ b o, b ≠ C → b ≠ D → b ≠ I1 → h.get? b = some o → h'.get? b = some o) ∧ ∀ e ∈ P', e.1 ≠ I0) { s₂ with heap := h, toks := tk } := by
  refine comp2_inner (fun k s₃ => ∃ j h' tk' P' mC', k = i + 1 - j ∧ j ≤ i ∧ s₃ = { s₂ with heap := h', toks := tk' } ∧ PrAt hb L D C (pairsUp i ++ (List.range j).map fun j => (i, j)) P' h' ∧ (∀ e ∈ P', e.1 ≠ I1) ∧ h'.Ns C mC' ∧ mC' x = some (.int (i : Int) ti) ∧ IsRangeIter h' I1 (0 + (j : Nat) * 1) ((i : Nat) - (j : Nat)) 1 ∧
      (∀ b o, b ≠ C → b ≠ D → b ≠ I1 → h.get? b = some o → h'.get? b = some o) ∧ ∀ e ∈ P', e.1 ≠ I0) ?_ (i + 1)
    ⟨0, h, tk, P, mC, rfl, Nat.zero_le _, rfl, by simpa using hP, hPI, hn, hx, by simpa using hit, fun _ _ _ _ _ e => e, hP0⟩
  rintro k s₃ ⟨j, h₁, tk₁, P₁, mC₁, rfl, hj, rfl, hP₁, hPI₁, hn₁, hx₁, hit₁, hk₁, hPn₁⟩
  have W := range_walks (prog := prog) (w := w) (I := I1) hh 0 i
  by_cases hji : j < i
  · refine W.item j _ _ _ hji hit₁ fun v h₂ tk₂ hv hit₂ hk₂ => ?_
    obtain ⟨t, rfl⟩ := hv
    have up₂ : ∀ b o, b ≠ I1 → h₁.get? b = some o → h₂.get? b = some o := fun b o hb e => hk₂ b o (by simpa using hb) e
    show wpAny _ A (pure ()) _ _ _
    refine wpAny_pure ?_
    refine wpAny_assign_Name (wpAny_storeName_local hl₂ (hn₁.at' fun o e => up₂ _ o hIC.symm e) (fun h₃ hn₃ hs₃ => ?_) hp)
    replace hs₃ : Heap.SameBut C h₂ h₃ := hs₃
    have up₃ : ∀ b o, b ≠ I1 → b ≠ C → h₁.get? b = some o → h₃.get? b = some o := fun b o h1 h2 e => hs₃.extBut b o h2 (up₂ b o h1 e)
    have hit₃ : IsRangeIter h₃ I1 (0 + ((j + 1 : Nat) : Int) * 1) ((i : Int) - ((j + 1 : Nat) : Int)) 1 := hs₃.extBut _ _ hIC hit₂
    have hsz₃ : h₃.objs.size = h₂.objs.size := hs₃.1
    have hD₃ : h₃.get? D = some (LCg.lst (P₁.map fun e => Value.ref e.1)) := up₃ D _ hID.symm hDC hP₁.list
    refine pair_elt hn₃ (vx := .int (i : Int) ti) (vy := .int ((j : Nat) : Int) t) (by simp [hxx, hx₁]) (by simp) hk hl hl₂ hd hd₂ ?_
    have hlen : P₁.length ≤ 110 := by
      have e1 := hP₁.are.len
      rw [List.length_append, List.length_map, List.length_range] at e1
      omega
    refine append_at (hsz := by
      have e3 : 200 ≤ sizeLine := by decide
      simp only [List.size_toArray, List.length_map]; omega) (Heap.get?_push_of_some _ hD₃) fun h₄ hs₄ hD₄ => ?_
    have hTD : h₃.objs.size ≠ D := Nat.ne_of_gt (Heap.lt_size hD₃)
    have hlt₂ : ∀ b o, h₁.get? b = some o → b ≠ I1 → b ≠ C → b < h₃.objs.size := fun b o e h1 h2 => Heap.lt_size (up₃ b o h1 h2 e)
    have hIlt : I1 < h₃.objs.size := Heap.lt_size hit₃
    have hClt : C < h₃.objs.size := hn₃.lt
    have h0lt : I0 < h₃.objs.size := Heap.lt_size (up₃ _ _ h01 h0C (hk₁ _ _ h0C h0D h01 h0))
    have up₄ : ∀ b o, b ≠ I1 → b ≠ C → b ≠ D → h₁.get? b = some o → h₄.get? b = some o := fun b o h1 h2 h3 e => hs₄.extBut b o h3 (Heap.get?_push_of_some _ (up₃ b o h1 h2 e))
    have hsb : hb.objs.size ≤ h₃.objs.size := Nat.le_trans hCb (Nat.le_of_lt hClt)
    refine ⟨i + 1 - (j + 1), by omega, j + 1, h₄, _, P₁ ++ [(h₃.objs.size, .int (i : Int) ti, .int ((j : Nat) : Int) t)], _, rfl, hji, rfl, ⟨fun b o hbL e => ?_, ?_, ?_, ?_⟩, ?_, hn₃.at' fun o e => hs₄.extBut _ _ hDC.symm (Heap.get?_push_of_some _ e), by simp [hxx, hx₁], hs₄.extBut _ _ hID (Heap.get?_push_of_some _ hit₃), fun b o h1 h2 h3 e => up₄ b o h3 h1 h2 (hk₁ b o h1 h2 h3 e), ?_⟩
    · have hlt := Heap.lt_size e
      exact up₄ b o (fun q => Nat.lt_irrefl _ (Nat.lt_of_lt_of_le (q ▸ hlt) hIb)) (fun q => Nat.lt_irrefl _ (Nat.lt_of_lt_of_le (q ▸ hlt) hCb)) (fun q => Nat.lt_irrefl _ (Nat.lt_of_lt_of_le (q ▸ hlt) hDb)) (hP₁.keep b o hbL e)
    · rw [List.range_succ, List.map_append, ← List.append_assoc]
      exact hP₁.are.snoc _ _ _ _ _
    · rw [hD₄, List.map_append]
      exact congrArg some (LCg.lst_snoc _ _)
    · intro e he
      rcases List.mem_append.mp he with he | he
      · obtain ⟨q1, q2, q3, q4⟩ := hP₁.tup e he
        exact ⟨up₄ _ _ (hPI₁ e he) q4 q3 q1, q2, q3, q4⟩
      · rw [List.mem_singleton.mp he]
        exact ⟨hs₄.extBut _ _ hTD (Heap.get?_push_size _ rfl), hsb, hTD, Nat.ne_of_gt hClt⟩
    · intro e he
      rcases List.mem_append.mp he with he | he
      · exact hPI₁ e he
      · rw [List.mem_singleton.mp he]; exact Nat.ne_of_gt hIlt
    · intro e he
      rcases List.mem_append.mp he with he | he
      · exact hPn₁ e he
      · rw [List.mem_singleton.mp he]; exact Nat.ne_of_gt h0lt
  · have hij : j = i := by omega
    subst hij
    refine W.done _ _ _ hit₁ fun h₂ tk₂ hk₂ => ?_
    have up₂ : ∀ b o, b ≠ I1 → h₁.get? b = some o → h₂.get? b = some o := fun b o hb e => hk₂ b o (by simpa using hb) e
    refine ⟨rfl, h₂, tk₂, P₁, mC₁, rfl, ⟨fun b o hbL e => up₂ b o (fun q => Nat.lt_irrefl _ (Nat.lt_of_lt_of_le (q ▸ Heap.lt_size e) hIb)) (hP₁.keep b o hbL e), hP₁.are, up₂ _ _ hID.symm hP₁.list, fun e he => ⟨up₂ _ _ (hPI₁ e he) (hP₁.tup e he).1, (hP₁.tup e he).2⟩⟩, hn₁.at' fun o e => up₂ _ o hIC.symm e, fun b o h1 h2 h3 e => up₂ b o h3 (hk₁ b o h1 h2 h3 e), hPn₁⟩
theorem keep_led {h h' : Heap} {C : Addr} {oC : Obj} {led : List (Addr × Obj)} (hled : ∀ b o, b ≠ L → b ≠ C → h₀.get? b = none → h.get? b = some o → (b, o) ∈ led) (F : Fr h₀ L h m) (F' : Fr h₀ L h' m) (N' : News h₀ L h' ((C, oC) :: led)) (hC : h.get? C = some oC) : ∀ b o, b ≠ L → h.get? b = some o → h'.get? b = some o := by
  intro b o hb e
  by_cases hbC : b = C
  · subst hbC
    rw [hC] at e
    exact e ▸ (N' _ (.head _)).1
  · cases h0 : h₀.get? b with
    | some o' =>
      have e1 := F.keep b o' h0
      rw [e] at e1
      exact e1 ▸ F'.keep b o' h0
    | none => exact (N' _ (.tail _ (hled b o hb hbC h0 e))).1
theorem range_small8 : ∀ n : Nat, n ≤ 8 → Builtin.Range.small 0 (n : Int) 1 = true ∧ Builtin.Range.rangeSize 0 (n : Int) 1 = (n : Int) := by decide
theorem assign_pairs {x x₂ y : Str} {px px₂ pe pe₂ pt py : Pos} {kk : Nat} {i0 i1 : Expr} {scope : Scope} {cl : List (Str × Addr)} {pos spos : Pos} {Q : Flow → Shared → Prop} (F₀ : Fr h₀ L s.heap m) (hLe : env.locals = L)
    (hsw : swapsWith (.ListComp (.Tuple [.Name x pe, .Name x₂ pe₂] kk pt) [⟨.Name x px, i0, [], 0⟩, ⟨.Name x₂ px₂, i1, [], 0⟩] scope pos) (some (.Name y py)) spos.line env = pure true)
    (hclos : closureFor scope env = pure cl) (hcell : ∀ z ∈ scope.names, z.2 ≠ .cell) (hkind : scope.kind = .function)
    (hnames : ∀ z ∈ scope.names, z.2 = .local → scope.names.lookup z.1 = some .local) (hx : scope.names.lookup x = some .local) (hx₂ : scope.names.lookup x₂ = some .local) (hxx : x ≠ x₂) (hd : (x == ("__debug__" : Str)) = false) (hd₂ : (x₂ == ("__debug__" : Str)) = false)
    (hy : env.kindOf y = some .local) (hp : (env.scope.kind == .class || (env.scope.kind == .module && env.locals != env.globals)) = false) (hh : A.handled = none)
    (h : wpAny (model prog w) A (eval i0 env) (fun v s₁ => Hold (∃ (r : Addr) (t u st : Tok) (n : Nat) (news : List (Addr × Obj)), v = .ref r ∧ IsRange s₁.heap r 0 (n : Int) 1 t u st ∧ n ≤ 8 ∧ Fr h₀ L s₁.heap m ∧ News h₀ L s₁.heap news ∧
      (∀ (C : Addr) (oC : Obj) (i : Nat) (ti : Tok) (mC : Str → Option Value) (h : Heap) (tk : Nat) (led : List (Addr × Obj)), i < n → NsObj oC mC → mC x = some (.int (i : Int) ti) → Fr h₀ L h m → News h₀ L h ((C, oC) :: led) →
        wpAny (model prog w) A (eval i1 (compEnvC scope cl C env)) (fun v s₃ => Hold (∃ r t u st h' tk', v = .ref r ∧ s₃ = { s₁ with heap := h', toks := tk' } ∧ IsRange h' r 0 (i : Int) 1 t u st ∧ Fr h₀ L h' m ∧ News h₀ L h' ((C, oC) :: led))) (fun _ _ => False) { s₁ with heap := h, toks := tk }) ∧
      ∀ (D : Addr) (P : List (Addr × Value × Value)) (h' : Heap) (tk' : Nat), PrsAre P (pairsUp n) → Fr h₀ L h' (fun z => if z = y then some (.ref D) else m z) → News h₀ L h' ((D, W.listOf (P.map fun e => Value.ref e.1).toArray P.length) :: ((P.map fun e => (e.1, pairObj e.2.1 e.2.2)) ++ news)) → Q .next { s₁ with heap := h', toks := tk' })) E s)
    (hs : ∀ x, foldedSetIterable i0 env x = pure x := by intro _; rfl) (hs₁ : ∀ C x, foldedSetIterable i1 (compEnvC scope cl C env) x = pure x := by intro _ _; rfl) :
    wpAny (model prog w) A (exec (.Assign [.Name y py] (.ListComp (.Tuple [.Name x pe, .Name x₂ pe₂] kk pt) [⟨.Name x px, i0, [], 0⟩, ⟨.Name x₂ px₂, i1, [], 0⟩] scope pos) spos) env) Q E s := by
  subst hLe
  rw [exec_Assign_Name_used _ _ _ _ hsw]
  refine wpAny_bind (wpAny_standAt (wpAny_bind ?_))
  show wpAny _ A (do let _ ← comprehension (.ListComp (.Tuple [.Name x pe, .Name x₂ pe₂] kk pt) [⟨.Name x px, i0, [], 0⟩, ⟨.Name x₂ px₂, i1, [], 0⟩] scope pos) scope env _ (newList []) false (eval i0 env) (some (assign (.Name y py) env))) _ _ s
  refine wpAny_bind (wpAny_mono (wpAny_comprehension_free (use := some (assign (.Name y py) env)) (Q := fun _ s' => Q .next s') rfl hs hclos hkind hnames
    (wpAny_mono h (fun xv s₁ h₁ => ?_) fun _ _ e => e)) (fun _ s' hq => wpAny_pure (wpAny_pure hq)) fun _ _ e => e)
  obtain ⟨r, t, u, st, n, news, rfl, hr, hn8, F, N, hin, fin⟩ := h₁
  obtain ⟨hsm, hrs⟩ := range_small8 n hn8
  refine wpAny_pyIter_range hr hsm ?_
  generalize hI0 : s₁.heap.objs.size = I0
  generalize hH1 : s₁.heap.push { cls := .type "range_iterator", data := .fields #[rawInt 0, rawInt (Builtin.Range.rangeSize 0 (n : Int) 1), rawInt 1] } = H1
  have up1 : ∀ b o, s₁.heap.get? b = some o → H1.get? b = some o := fun b o e => hH1 ▸ Heap.get?_push_of_some _ e
  have hz1 : H1.objs.size = I0 + 1 := by rw [← hH1, Heap.size_push, hI0]
  have hit1 : IsRangeIter H1 I0 0 (n : Int) 1 := by
    rw [← hH1, ← hI0]
    have e := Heap.get?_push_size s₁.heap (o := { cls := .type "range_iterator", data := .fields #[rawInt 0, rawInt (Builtin.Range.rangeSize 0 (n : Int) 1), rawInt 1] }) rfl
    rw [hrs] at e ⊢
    exact e
  refine wpAny_newObj_type (wpAny_newFunctionEnv hcell (by intro y hy; simp at hy) (fun h₁ hns₁ hsb₁ => ?_) hkind)
  dsimp only at hns₁ hsb₁ ⊢
  generalize hH2 : H1.push { cls := .type "list", dict := none, data := .seq ([] : List Value).toArray } = H2 at hns₁ hsb₁ ⊢
  generalize hD : H1.objs.size = D at *
  have hC : H2.objs.size = D + 1 := by rw [← hH2, Heap.size_push, hD]
  generalize hCg : H2.objs.size = C at *
  have hLI : @LT.lt Nat _ env.locals I0 := hI0 ▸ F.ns.lt
  have hDI : D = I0 + 1 := hz1
  have up2 : ∀ b o, H1.get? b = some o → H2.get? b = some o := fun b o e => hH2 ▸ Heap.get?_push_of_some _ e
  have upC : ∀ b o, b ≠ C → H2.get? b = some o → h₁.get? b = some o := fun b o hb e => hsb₁.extBut b o hb (Heap.get?_push_of_some _ e)
  have hID : I0 ≠ D := by omega
  have hIC : I0 ≠ C := by omega
  have hDC : D ≠ C := by omega
  have hLD : env.locals ≠ D := Nat.ne_of_lt (by rw [hDI]; exact Nat.lt_succ_of_lt hLI)
  have hLC : env.locals ≠ C := Nat.ne_of_lt (by rw [hC, hDI]; exact Nat.lt_succ_of_lt (Nat.lt_succ_of_lt hLI))
  have h0none : ∀ a, I0 ≤ a → h₀.get? a = none := fun a ha => by
    cases e : h₀.get? a with
    | none => rfl
    | some o => exact absurd (Heap.lt_size (F.keep a o e)) (Nat.not_lt_of_le (hI0 ▸ ha))
  have hbelow : ∀ b o, s₁.heap.get? b = some o → @LT.lt Nat _ b I0 := fun b o e => hI0 ▸ Heap.lt_size e
  have old : ∀ b o, s₁.heap.get? b = some o → h₁.get? b = some o := fun b o e => upC b o (fun q => by have := hbelow b o e; omega) (up2 b o (up1 b o e))
  have hP0 : PrAt s₁.heap env.locals D C (pairsUp 0) [] h₁ := ⟨fun b o _ e => old b o e, .nil, upC D _ hDC (hH2 ▸ hD ▸ Heap.get?_push_size _ rfl), fun e he => nomatch he⟩
  have hitA : IsRangeIter h₁ I0 0 (n : Int) 1 := upC _ _ hIC (up2 _ _ hit1)
  have loop : ∀ s₃ : Shared, s₃ = { s₁ with heap := h₁, toks := s₁.toks + ([] : List (Str × Value)).length } →
      codeAny (model prog w) A (.compLoop (.ListComp (.Tuple [.Name x pe, .Name x₂ pe₂] kk pt) [⟨.Name x px, i0, [], 0⟩, ⟨.Name x₂ px₂, i1, [], 0⟩] scope pos) 0 (.ref I0) (.ref D) (compEnvC scope cl C env))
        (compPost (model prog w) A E (some (assign (.Name y py) env)) (fun _ s' => Q .next s') (.ref D) C) s₃ := by
    rintro s₃ rfl
    refine comp2_outer (fun k s' => ∃ i h tk P mC, k = n + 1 - i ∧ i ≤ n ∧ s' = { s₁ with heap := h, toks := tk } ∧ PrAt s₁.heap env.locals D C (pairsUp i) P h ∧ (∀ e ∈ P, e.1 ≠ I0) ∧ h.Ns C mC ∧ IsRangeIter h I0 (0 + (i : Nat) * 1) ((n : Nat) - (i : Nat)) 1 ∧ Fr h₀ env.locals h m) ?_ (n + 1)
      ⟨0, h₁, _, [], _, rfl, Nat.zero_le _, rfl, hP0, (fun e he => nomatch he), hns₁, by simpa using hitA, F.keeps old⟩ (hs₁ C)
    rintro k s' ⟨i, h, tk, P, mC, rfl, hi, rfl, hP, hPI, hn, hit, Fh⟩
    have W := range_walks (prog := prog) (w := w) (I := I0) hh 0 n
    have hkx : (compEnvC scope cl C env).scope.kind = .function := by simp [compEnvC, relabel, hkind]
    have hpx : ((compEnvC scope cl C env).scope.kind == .class || ((compEnvC scope cl C env).scope.kind == .module && (compEnvC scope cl C env).locals != (compEnvC scope cl C env).globals)) = false := by simp [compEnvC, relabel, hkind]
    by_cases hin' : i < n
    · refine W.item i _ _ _ hin' hit fun v h₂ tk₂ hv hit₂ hk₂ => ?_
      obtain ⟨ti, rfl⟩ := hv
      rw [Int.zero_add]
      have u2 : ∀ b o, b ≠ I0 → h.get? b = some o → h₂.get? b = some o := fun b o hb e => hk₂ b o (by simpa using hb) e
      show wpAny _ A (pure ()) _ _ _
      refine wpAny_pure ?_
      refine wpAny_assign_Name (wpAny_storeName_local (lookup_relabel_local hx) (hn.at' fun o e => u2 _ o hIC.symm e) (fun h₃ hn₃ hs₃ => ?_) hpx)
      replace hs₃ : Heap.SameBut C h₂ h₃ := hs₃
      have u3 : ∀ b o, b ≠ I0 → b ≠ C → h.get? b = some o → h₃.get? b = some o := fun b o h1 h2 e => hs₃.extBut b o h2 (u2 b o h1 e)
      have F₃ : Fr h₀ env.locals h₃ m := ⟨Fh.ns.at' fun o e => u3 _ o (Nat.ne_of_lt hLI) hLC e, fun b o e => u3 b o (fun q => by rw [q, h0none I0 (Nat.le_refl _)] at e; cases e) (fun q => by rw [q, h0none C (by omega)] at e; cases e) (Fh.keep b o e), Fh.above⟩
      obtain ⟨oC, hoC, hNs⟩ := ns_obj hn₃
      let fp : List Addr := (List.range h₃.objs.size).filter fun b => !(b == env.locals) && !(b == C)
      have hfp : ∀ b o, b ≠ env.locals → b ≠ C → h₃.get? b = some o → b ∈ fp := fun b o h1 h2 e => List.mem_filter.mpr ⟨List.mem_range.mpr (Heap.lt_size e), by simp [h1, h2]⟩
      have hLf : env.locals ∉ fp := fun hm => by
        have := (List.mem_filter.mp hm).2
        simp at this
      refine wpAny_mono (hin C oC i ti _ h₃ _ (ownOf h₀ fp h₃) hin' hNs (by simp) F₃ fun p hp => ?_) (fun xv s₄ h₄ => ?_) fun _ _ e => e
      · rcases List.mem_cons.mp hp with rfl | hp
        · exact ⟨hoC, hLC.symm, h0none C (by omega)⟩
        · exact news_ownOf hLf p hp
      obtain ⟨r', t', u', st', h₄, tk₄, rfl, rfl, hr', F₄, N₄⟩ := h₄
      have k4 := keep_led (h := h₃) (fun b o h1 h2 h3 e => mem_ownOf (hfp b o h1 h2 e) h3 e) F₃ F₄ N₄ hoC
      obtain ⟨hsm', hrs'⟩ := range_small8 i (by omega)
      refine wpAny_pyIter_range hr' hsm' ?_
      generalize hI1 : h₄.objs.size = I1
      rw [hrs']
      generalize hH5 : h₄.push { cls := .type "range_iterator", data := .fields #[rawInt 0, rawInt (i : Int), rawInt 1] } = H5
      have u5 : ∀ b o, h₄.get? b = some o → H5.get? b = some o := fun b o e => hH5 ▸ Heap.get?_push_of_some _ e
      have hit5 : IsRangeIter H5 I1 0 (i : Int) 1 := by
        rw [← hH5, ← hI1]
        exact Heap.get?_push_size _ rfl
      have uAll : ∀ b o, b ≠ I0 → b ≠ C → b ≠ env.locals → h.get? b = some o → H5.get? b = some o := fun b o h1 h2 h3 e => u5 b o (k4 b o h3 (u3 b o h1 h2 e))
      have hCH : H5.get? C = some oC := u5 _ _ (N₄ _ (.head _)).1
      have hIt5 : IsRangeIter H5 I0 (0 + ((i + 1 : Nat) : Int) * 1) ((n : Int) - ((i + 1 : Nat) : Int)) 1 := u5 _ _ (k4 _ _ (Nat.ne_of_gt hLI) (hs₃.extBut _ _ hIC hit₂))
      have hlt4 : ∀ b o, h₄.get? b = some o → b ≠ I1 := fun b o e => hI1 ▸ Nat.ne_of_lt (Heap.lt_size e)
      have hI1I0 : I0 ≠ I1 := hlt4 _ _ (k4 _ _ (Nat.ne_of_gt hLI) (hs₃.extBut _ _ hIC hit₂))
      have hI1C : I1 ≠ C := (hlt4 _ _ (N₄ _ (.head _)).1).symm
      have hD4 := k4 _ _ hLD.symm (u3 _ _ hID.symm hDC hP.list)
      have hI1D : I1 ≠ D := (hlt4 _ _ hD4).symm
      have hI1L : I1 ≠ env.locals := hI1 ▸ Nat.ne_of_gt F₄.ns.lt
      have hge : s₁.heap.objs.size ≤ I1 := by
        rw [hI0]
        have : @LT.lt Nat _ I0 I1 := hI1 ▸ Heap.lt_size (k4 _ _ (Nat.ne_of_gt hLI) (hs₃.extBut _ _ hIC hit₂))
        exact Nat.le_of_lt this
      have hP5 : PrAt s₁.heap env.locals D C (pairsUp i) P H5 := ⟨fun b o hbL e => by
          have := hbelow b o e
          exact uAll b o (by omega) (by omega) hbL (hP.keep b o hbL e), hP.are, uAll _ _ hID.symm hDC hLD.symm hP.list, fun e he => ⟨uAll _ _ (hPI e he) (hP.tup e he).2.2.2 (Nat.ne_of_gt (Nat.lt_of_lt_of_le (hI0.symm ▸ hLI) (hP.tup e he).2.1)) (hP.tup e he).1, (hP.tup e he).2⟩⟩
      have hPI1 : ∀ e ∈ P, e.1 ≠ I1 := fun e he => hlt4 _ _ (k4 _ _ (Nat.ne_of_gt (Nat.lt_of_lt_of_le (hI0.symm ▸ hLI) (hP.tup e he).2.1)) (u3 _ _ (hPI e he) (hP.tup e he).2.2.2 (hP.tup e he).1))
      have inner := pairs_inner (prog := prog) (w := w) (A := A.mark none) (env := env) (L := env.locals) (x := x) (x₂ := x₂) (px := px) (px₂ := px₂) (pe := pe) (pe₂ := pe₂) (pt := pt) (kk := kk) (i0 := i0) (i1 := i1) (scope := scope) (cl := cl) (pos := pos) (tk := tk₄) (s₂ := s₁) (ti := ti) (by rw [Around.mark_none]; exact hh) hkx (lookup_relabel_local hx) (lookup_relabel_local hx₂) hd hd₂ hxx hpx (by rw [hI0]; omega) (by rw [hI0]; omega) hge hDC hI1C hI1D (by omega) hP5 hPI1 (hNs.ns hCH) (by simp) hit5 hIt5 hIC hID hI1I0 hPI (Nat.le_trans (pairsUp_len i (by omega)) (by decide))
      have fin' : ∀ (r : Result) (s₆ : Shared), (r = Except.ok Flow.next ∧ ∃ h' tk' P' mC', s₆ = { s₁ with heap := h', toks := tk' } ∧ PrAt s₁.heap env.locals D C (pairsUp (i + 1)) P' h' ∧ h'.Ns C mC' ∧ (∀ b o, b ≠ C → b ≠ D → b ≠ I1 → H5.get? b = some o → h'.get? b = some o) ∧ ∀ e ∈ P', e.1 ≠ I0) →
          (r = .ok .next ∧ ∃ m₁, m₁ < n + 1 - i ∧ ∃ i h tk P mC, m₁ = n + 1 - i ∧ i ≤ n ∧ s₆ = { s₁ with heap := h, toks := tk } ∧ PrAt s₁.heap env.locals D C (pairsUp i) P h ∧ (∀ e ∈ P, e.1 ≠ I0) ∧ h.Ns C mC ∧ IsRangeIter h I0 (0 + (i : Nat) * 1) ((n : Nat) - (i : Nat)) 1 ∧ Fr h₀ env.locals h m) := by
        rintro r s₆ ⟨rfl, h', tk', P', mC', rfl, hP', hn', hk', hPI'⟩
        refine ⟨rfl, n + 1 - (i + 1), by omega, i + 1, h', tk', P', mC', rfl, hin', rfl, hP', hPI', hn', hk' _ _ hIC hID hI1I0 hIt5, ⟨F₄.ns.at' fun o e => hk' _ o hLC hLD hI1L.symm (u5 _ o e), fun b o e => ?_, F₄.above⟩⟩
        refine hk' b o (fun q => by rw [q, h0none C (by omega)] at e; cases e) (fun q => by rw [q, h0none D (by omega)] at e; cases e) (fun q => by rw [q, h0none I1 (hI0 ▸ hge)] at e; cases e) (u5 _ _ (F₄.keep b o e))
      refine comp2_start (codeAny_mono inner fin') (wpAny_pyIter_rangeiter hit5 (codeAny_mono inner fin'))
    · have hie : i = n := by omega
      subst hie
      refine W.done _ _ _ hit fun h₂ tk₂ hk₂ => ?_
      have u2 : ∀ b o, b ≠ I0 → h.get? b = some o → h₂.get? b = some o := fun b o hb e => hk₂ b o (by simpa using hb) e
      have F₂ : Fr h₀ env.locals h₂ m := ⟨Fh.ns.at' fun o e => u2 _ o (Nat.ne_of_lt hLI) e, fun b o e => u2 b o (fun q => by rw [q, h0none I0 (Nat.le_refl _)] at e; cases e) (Fh.keep b o e), Fh.above⟩
      show wpAny _ A (assign (.Name y py) env (.ref D)) _ _ _
      refine wpAny_assign_Name (wpAny_storeName_local hy F₂.ns (fun h₆ hn₆ hs₆ => ?_) hp)
      have hL₀ : h₀.get? env.locals = none := Heap.get?_none_of_le F₂.above
      have F₆ : Fr h₀ env.locals h₆ (fun z => if z = y then some (.ref D) else m z) := ⟨hn₆, fun b o e => hs₆.extBut b o (fun q => by rw [q, hL₀] at e; cases e) (F₂.keep b o e), F₂.above⟩
      refine ⟨mC, (hn.at' fun o e => u2 _ o hIC.symm e).sameBut hs₆ hLC.symm, fun h'' hs'' => fin D P h'' _ hP.are (F₆.change hs'' hLC.symm (h0none C (by omega))) fun p hp => ?_⟩
      have u7 : ∀ b o, b ≠ I0 → b ≠ env.locals → b ≠ C → h.get? b = some o → h''.get? b = some o := fun b o h1 h2 h3 e => hs''.extBut b o h3 (hs₆.extBut b o h2 (u2 b o h1 e))
      rcases List.mem_cons.mp hp with rfl | hp
      · have e1 : P.length = (P.map fun e => Value.ref e.1).length := by simp
        refine ⟨?_, hLD.symm, h0none D (by omega)⟩
        rw [e1]
        exact u7 _ _ hID.symm hLD.symm hDC hP.list
      rcases List.mem_append.mp hp with hp | hp
      · obtain ⟨e, he, rfl⟩ := List.mem_map.mp hp
        obtain ⟨q1, q2, q3, q4⟩ := hP.tup e he
        have hne : e.1 ≠ env.locals := Nat.ne_of_gt (Nat.lt_of_lt_of_le (hI0.symm ▸ hLI) q2)
        exact ⟨u7 _ _ (hPI e he) hne q4 q1, hne, h0none _ (hI0 ▸ q2)⟩
      · have z := N p hp
        have := hbelow _ _ z.1
        exact ⟨u7 _ _ (by omega) z.2.1 (by omega) (hP.keep _ _ z.2.1 z.1), z.2⟩
  exact codeAny_compStart_list (loop _ rfl) (wpAny_pyIter_rangeiter hitA (loop _ rfl))
end


-- PART AgLen
theorem lnAgLen : True := by
  k_with_none
  trivial
/-! NOLINES how long again's text can be -/
section
variable (names : List Str) (dep : List Nat)
noncomputable def wgt (p lvl : Nat) : Nat := (if p < 4 then 30 else 0) + 2 * (dep.getD p 0 - lvl)
noncomputable def sumW (lvl : Nat) : Nat → Nat → Nat
  | 0, _ => 0
  | n + 1, b => wgt dep b lvl + sumW lvl n (b + 1)
variable {names dep}
theorem sumW_add (lvl a : Nat) : ∀ n b, sumW dep lvl (n + a) b = sumW dep lvl n b + sumW dep lvl a (b + n)
  | 0, b => by rw [Nat.zero_add]; simp [sumW]
  | n + 1, b => by
    rw [show n + 1 + a = (n + a) + 1 by omega]
    show wgt dep b lvl + sumW dep lvl (n + a) (b + 1) = wgt dep b lvl + sumW dep lvl n (b + 1) + sumW dep lvl a (b + (n + 1))
    rw [sumW_add lvl a n (b + 1), show b + 1 + n = b + (n + 1) by omega]; omega
theorem wgt_mono (p lvl : Nat) : wgt dep p (lvl + 1) ≤ wgt dep p lvl := by unfold wgt; omega
theorem sumW_mono (lvl : Nat) : ∀ n b, sumW dep (lvl + 1) n b ≤ sumW dep lvl n b
  | 0, _ => Nat.le_refl _
  | n + 1, b => by
    have := wgt_mono (dep := dep) b lvl
    have := sumW_mono lvl n (b + 1)
    show wgt dep b (lvl + 1) + sumW dep (lvl + 1) n (b + 1) ≤ wgt dep b lvl + sumW dep lvl n (b + 1)
    omega
theorem sumW_group {lvl n b : Nat} (hn : 1 ≤ n) (hd : lvl < dep.getD b 0) : sumW dep (lvl + 1) n b + 2 ≤ sumW dep lvl n b := by
  obtain ⟨k, rfl⟩ : ∃ k, n = k + 1 := ⟨n - 1, by omega⟩
  have := sumW_mono (dep := dep) lvl k (b + 1)
  show wgt dep b (lvl + 1) + sumW dep (lvl + 1) k (b + 1) + 2 ≤ wgt dep b lvl + sumW dep lvl k (b + 1)
  unfold wgt; omega
theorem sumW_le {D : Nat} (h4 : dep.length ≤ 4) (hD : ∀ k, dep.getD k 0 ≤ D) (lvl : Nat) : ∀ n b, sumW dep lvl n b ≤ (4 - b) * (30 + 2 * D)
  | 0, _ => Nat.zero_le _
  | n + 1, b => by
    have ih := sumW_le h4 hD lvl n (b + 1)
    show wgt dep b lvl + sumW dep lvl n (b + 1) ≤ _
    by_cases hb : b < 4
    · have hd := hD b
      have e : 4 - b = (4 - (b + 1)) + 1 := by omega
      rw [e, Nat.add_mul, Nat.one_mul]
      unfold wgt
      rw [if_pos hb]
      omega
    · have e0 : dep.getD b 0 = 0 := by rw [List.getD_eq_getElem?_getD, List.getElem?_eq_none (by omega)]; rfl
      have e1 : 4 - (b + 1) = 0 := by omega
      rw [e1, Nat.zero_mul] at ih
      unfold wgt
      rw [if_neg hb, e0]
      omega
theorem app_len2 (x y : Str) : (x ++ y).length = x.length + y.length := by
  show (x.cps ++ y.cps).size = _
  simp [Str.length]
theorem againS_len {sh : List (List Nat)} (hn4 : names.length ≤ 4) (hnl : ∀ k : Nat, (names.getD k Str.empty).length ≤ 30) : ∀ f b e lvl, (againS names dep sh f b e lvl).length ≤ sumW dep lvl (e - b) b
  | 0, b, e, lvl => by
    have e0 : (Str.ofString "").length = 0 := by decide +kernel
    show (Str.ofString "").length ≤ _
    omega
  | f + 1, b, e, lvl => by
    have ih := againS_len (sh := sh) hn4 hnl f
    have key : ∀ n place (text : Str), (againL names dep sh f e lvl n place text).length ≤ text.length + sumW dep lvl (e - place) place := by
      intro n
      induction n with
      | zero => intro place text; exact Nat.le_add_right _ _
      | succ n ihn =>
        intro place text
        unfold againL loopG
        cases hp : Nat.blt place e with
        | false => exact Nat.le_add_right _ _
        | true =>
          have hpe : place < e := Nat.le_of_ble_eq_true hp
          have es : e - place = (e - (place + 1)) + 1 := by omega
          cases hd : Nat.ble (nth 0 dep place) lvl with
          | true =>
            refine Nat.le_trans (ihn (place + 1) (text ++ names.getD place Str.empty)) ?_
            rw [app_len2, es]
            show _ ≤ text.length + (wgt dep place lvl + sumW dep lvl (e - (place + 1)) (place + 1))
            have hw : (names.getD place Str.empty).length ≤ wgt dep place lvl := by
              unfold wgt
              by_cases h4 : place < 4
              · rw [if_pos h4]; have := hnl place; omega
              · have e0 : names.getD place Str.empty = Str.empty := by rw [List.getD_eq_getElem?_getD, List.getElem?_eq_none (by omega)]; rfl
                rw [e0]; exact Nat.zero_le _
            omega
          | false =>
            have hdl : lvl < dep.getD place 0 := by
              rw [nth_getD] at hd
              exact Nat.lt_of_not_le fun h => by rw [Nat.ble_eq_true_of_le h] at hd; cases hd
            have hst := stopG_le (sh := sh) (place := place) (lvl := lvl) (e - (place + 1)) (place + 1)
            show (againL names dep sh f e lvl n (stopG sh place lvl (e - (place + 1)) (place + 1)) (text ++ (Str.ofString "(" ++ againS names dep sh f place (stopG sh place lvl (e - (place + 1)) (place + 1)) (lvl + 1) ++ Str.ofString ")"))).length ≤ _
            generalize stopG sh place lvl (e - (place + 1)) (place + 1) = stop at hst ⊢
            refine Nat.le_trans (ihn stop _) ?_
            have e1 : (Str.ofString "(").length = 1 := by decide +kernel
            have e2 : (Str.ofString ")").length = 1 := by decide +kernel
            have i1 := ih place stop (lvl + 1)
            have i2 := sumW_group (dep := dep) (lvl := lvl) (n := stop - place) (b := place) (by omega) hdl
            have i3 := sumW_add (dep := dep) lvl (e - stop) (stop - place) place
            rw [show stop - place + (e - stop) = e - place by omega, show place + (stop - place) = stop by omega] at i3
            rw [app_len2, app_len2, app_len2, e1, e2]
            omega
    have e0 : (Str.ofString "").length = 0 := by decide +kernel
    have := key (e - b) b (Str.ofString "")
    rw [e0, Nat.zero_add] at this
    exact this
end
section
variable {α β : Type} (f : α → β) {nil : α} {app : α → α → α} {name : Nat → α} {br : α → α} {nil' : β} {app' : β → β → β} {name' : Nat → β} {br' : β → β} {dep : List Nat} {sh : List (List Nat)}
theorem agG_hom (h0 : f nil = nil') (ha : ∀ x y, f (app x y) = app' (f x) (f y)) (hn : ∀ i, i < 4 → f (name i) = name' i) (hb : ∀ x, f (br x) = br' (f x)) : ∀ k b e lvl, e ≤ 4 → f (agG nil app name br dep sh k b e lvl) = agG nil' app' name' br' dep sh k b e lvl
  | 0, _, _, _, _ => h0
  | k + 1, b, e, lvl, he => by
    have ih := agG_hom h0 ha hn hb k
    have key : ∀ n place (text : α), f (loopG app name br dep sh (agG nil app name br dep sh k) e lvl n place text) = loopG app' name' br' dep sh (agG nil' app' name' br' dep sh k) e lvl n place (f text) := by
      intro n
      induction n with
      | zero => intro place text; rfl
      | succ n ihn =>
        intro place text
        unfold loopG
        cases hp : Nat.blt place e with
        | false => rfl
        | true =>
          have hpe : place < e := Nat.le_of_ble_eq_true hp
          cases hd : Nat.ble (nth 0 dep place) lvl with
          | true =>
            show f (loopG app name br dep sh _ e lvl n (place + 1) (app text (name place))) = loopG app' name' br' dep sh _ e lvl n (place + 1) (app' (f text) (name' place))
            rw [ihn, ha, hn place (by omega)]
          | false =>
            have hst := stopG_le (sh := sh) (place := place) (lvl := lvl) (e - (place + 1)) (place + 1)
            show f (loopG app name br dep sh _ e lvl n (stopG sh place lvl (e - (place + 1)) (place + 1)) (app text (br (agG nil app name br dep sh k place (stopG sh place lvl (e - (place + 1)) (place + 1)) (lvl + 1))))) = loopG app' name' br' dep sh _ e lvl n (stopG sh place lvl (e - (place + 1)) (place + 1)) (app' (f text) (br' (agG nil' app' name' br' dep sh k place (stopG sh place lvl (e - (place + 1)) (place + 1)) (lvl + 1))))
            rw [ihn, ha, hb, ih _ _ _ (by omega)]
    show f (loopG app name br dep sh _ e lvl (e - b) b nil) = loopG app' name' br' dep sh _ e lvl (e - b) b nil'
    rw [key, h0]
end


-- PART Pcs
theorem lnPcs : True := by
  k_with_none
  trivial
/-! NOLINES the dressed text in pieces: clean ones and quoted ones -/
theorem escs_cf (i c : Nat) (r : List Nat) : escs i false (c :: r) = if c = 92 then escs (i + 1) true r else (i, [c]) :: escs (i + 1) false r := by rw [escs]
theorem escs_app : ∀ (x y : List Nat) (i : Nat) (b : Bool), escs i b (x ++ y) = escs i b x ++ escs (i + x.length) (escEnd b x) y
  | [], y, i, b => by simp [escs, escEnd]
  | c :: r, y, i, true => by
    show (i, [92, c]) :: escs (i + 1) false (r ++ y) = (i, [92, c]) :: escs (i + 1) false r ++ escs (i + (c :: r).length) (escEnd false r) y
    rw [escs_app r y (i + 1) false, List.length_cons, show i + 1 + r.length = i + (r.length + 1) by omega]; rfl
  | c :: r, y, i, false => by
    rw [List.cons_append, escs_cf, escs_cf]
    by_cases h : c = 92
    · rw [if_pos h, if_pos h, escs_app r y (i + 1) true, List.length_cons, show i + 1 + r.length = i + (r.length + 1) by omega]
      subst h; rfl
    · rw [if_neg h, if_neg h, escs_app r y (i + 1) false, List.length_cons, show i + 1 + r.length = i + (r.length + 1) by omega]
      have e : escEnd false (c :: r) = escEnd false r := by
        show escEnd (c == 92) r = _
        rw [beq_eq_false_iff_ne.mpr h]
      rw [e]; rfl
theorem escEnd_app : ∀ (x y : List Nat) (b : Bool), escEnd b (x ++ y) = escEnd (escEnd b x) y
  | [], _, _ => rfl
  | _ :: r, y, true => escEnd_app r y false
  | c :: r, y, false => escEnd_app r y (c == 92)
/-- a piece: quoted or clean, its text -/
noncomputable abbrev Pc := Bool × List Nat
noncomputable def pcText (p : Pc) : List Nat := if p.1 then 34 :: p.2 ++ [34] else p.2
noncomputable def pcBare (p : Pc) : List Nat := if p.1 then [] else p.2
noncomputable def PcOk (p : Pc) : Prop := (∀ e ∈ escs 0 false p.2, e.2 ≠ [34]) ∧ escEnd false p.2 = false
noncomputable def pcsText (ps : List Pc) : List Nat := (ps.map pcText).flatten
noncomputable def pcsBare (ps : List Pc) : List Nat := (ps.map pcBare).flatten
theorem escs_shift : ∀ (x : List Nat) (i j : Nat) (b : Bool), (escs i b x).map (·.2) = (escs j b x).map (·.2)
  | [], _, _, _ => rfl
  | c :: r, i, j, true => by simp [escs, escs_shift r (i + 1) (j + 1) false]
  | c :: r, i, j, false => by
    unfold escs
    split
    · exact escs_shift r (i + 1) (j + 1) true
    · simp [escs_shift r (i + 1) (j + 1) false]
theorem PcOk.at {p : Pc} (h : PcOk p) (i : Nat) : ∀ e ∈ escs i false p.2, e.2 ≠ [34] := fun e he => by
  have hm : e.2 ∈ (escs i false p.2).map (·.2) := List.mem_map.mpr ⟨e, he, rfl⟩
  rw [escs_shift p.2 i 0] at hm
  obtain ⟨e', he', q⟩ := List.mem_map.mp hm
  exact q ▸ h.1 e' he'
theorem fold_noq {l : List Nat} : ∀ (es : List (Nat × List Nat)), (∀ e ∈ es, e.2 ≠ [34]) → ∀ st, es.foldl (stStep l) st = st
  | [], _, _ => rfl
  | e :: r, h, st => by
    rw [List.foldl_cons, fold_noq r fun x hx => h x (.tail _ hx)]
    simp [stStep, h e (.head _)]
theorem pcText_end {p : Pc} (h : PcOk p) : escEnd false (pcText p) = false := by
  obtain ⟨q, y⟩ := p
  cases q with
  | false => exact h.2
  | true =>
    show escEnd (34 == 92) (y ++ [34]) = false
    rw [escEnd_app]
    show escEnd (escEnd false y) [34] = false
    rw [h.2]; rfl
theorem drop_take_pre {pre r : List Nat} {sp : Nat} (h : sp ≤ pre.length) : ((pre ++ r).drop sp).take (pre.length - sp) = pre.drop sp := by
  rw [List.drop_append_of_le_length h, List.take_append_of_le_length (by rw [List.length_drop]; omega), List.take_of_length_le (by rw [List.length_drop]; omega)]
theorem strip_go {l : List Nat} : ∀ (ps : List Pc) (pre : List Nat) (sp : Nat) (rs : List (List Nat)), (∀ p ∈ ps, PcOk p) → l = pre ++ pcsText ps → sp ≤ pre.length →
    ∃ sp' rs', ((escs pre.length false (pcsText ps)).foldl (stStep l) (sp, none, rs)) = (sp', none, rs') ∧ sp' ≤ l.length ∧ rs'.flatten ++ l.drop sp' = (rs.flatten ++ pre.drop sp) ++ pcsBare ps
  | [], pre, sp, rs, _, hl, hs => by
    have e : l = pre := by rw [hl]; simp [pcsText]
    subst e
    exact ⟨sp, rs, rfl, hs, by simp [pcsBare]⟩
  | p :: ps, pre, sp, rs, hok, hl, hs => by
    have hp := hok p (.head _)
    have et : pcsText (p :: ps) = pcText p ++ pcsText ps := by simp [pcsText]
    have eb : pcsBare (p :: ps) = pcBare p ++ pcsBare ps := by simp [pcsBare]
    rw [et, escs_app, pcText_end hp, List.foldl_append, ← List.length_append]
    have hl2 : l = (pre ++ pcText p) ++ pcsText ps := by rw [hl, et, List.append_assoc]
    have hok2 : ∀ q ∈ ps, PcOk q := fun q hq => hok q (.tail _ hq)
    obtain ⟨q, y⟩ := p
    cases q with
    | false =>
      rw [show pcText (false, y) = y from rfl, fold_noq _ (hp.at _)]
      obtain ⟨sp', rs', h1, h2, h3⟩ := strip_go ps (pre ++ y) sp rs hok2 hl2 (by rw [List.length_append]; omega)
      refine ⟨sp', rs', h1, h2, ?_⟩
      rw [h3, eb, List.drop_append_of_le_length hs]
      show _ = _ ++ (y ++ _)
      simp [List.append_assoc]
    | true =>
      have e1 : escs pre.length false (pcText (true, y)) = (pre.length, [34]) :: (escs (pre.length + 1) false y ++ [(pre.length + 1 + y.length, [34])]) := by
        show escs pre.length false (34 :: (y ++ [34])) = _
        rw [escs_cf, if_neg (by decide), escs_app, hp.2, escs_cf, if_neg (by decide)]; rfl
      rw [e1, List.foldl_cons, List.foldl_append]
      have s1 : stStep l (sp, none, rs) (pre.length, [34]) = (sp, some pre.length, rs) := rfl
      rw [s1, fold_noq _ (hp.at _)]
      have s2 : [(pre.length + 1 + y.length, [34])].foldl (stStep l) (sp, some pre.length, rs) = (pre.length + 1 + y.length + 1, none, if sp = pre.length then rs else rs ++ [(l.drop sp).take (pre.length - sp)]) := rfl
      rw [s2]
      have el : (pre ++ pcText (true, y)).length = pre.length + 1 + y.length + 1 := by simp [pcText]; omega
      obtain ⟨sp', rs', h1, h2, h3⟩ := strip_go ps (pre ++ pcText (true, y)) (pre.length + 1 + y.length + 1) (if sp = pre.length then rs else rs ++ [(l.drop sp).take (pre.length - sp)]) hok2 hl2 (by omega)
      refine ⟨sp', rs', h1, h2, ?_⟩
      have e3 : (pre ++ pcText (true, y)).drop (pre.length + 1 + y.length + 1) = [] := List.drop_of_length_le (by omega)
      rw [h3, eb, e3, List.append_nil]
      show _ = _ ++ ([] ++ _)
      rw [List.nil_append]
      congr 1
      split
      · next h => rw [h, List.drop_length, List.append_nil]
      · rw [hl, drop_take_pre hs]; simp
theorem strip_pieces {ps : List Pc} (h : ∀ p ∈ ps, PcOk p) : stripF (pcsText ps) = pcsBare ps := by
  obtain ⟨sp, rs, h1, h2, h3⟩ := strip_go (l := pcsText ps) ps [] 0 [] h rfl (Nat.le_refl _)
  unfold stripF
  rw [show escs 0 false (pcsText ps) = escs ([] : List Nat).length false (pcsText ps) from rfl, h1]
  unfold stFin
  dsimp only
  have h3' : rs.flatten ++ (pcsText ps).drop sp = pcsBare ps := by simpa using h3
  split
  · rw [← h3']; simp
  · rw [← h3', List.drop_of_length_le (by omega), List.append_nil]
/-- a thing: its full text in pieces, the bare one the clean pieces -/
noncomputable def Dressed (bare full : Str) : Prop := ∃ ps, (∀ p ∈ ps, PcOk p) ∧ cl full = pcsText ps ∧ cl bare = pcsBare ps
theorem pcsText_app (a b : List Pc) : pcsText (a ++ b) = pcsText a ++ pcsText b := by simp [pcsText]
theorem pcsBare_app (a b : List Pc) : pcsBare (a ++ b) = pcsBare a ++ pcsBare b := by simp [pcsBare]
theorem cl_app (x y : Str) : cl (x ++ y) = cl x ++ cl y := by
  show (x.cps ++ y.cps).toList = _
  simp [cl]
theorem Dressed.app {a b c d : Str} (h : Dressed a b) (h' : Dressed c d) : Dressed (a ++ c) (b ++ d) := by
  obtain ⟨ps, h1, h2, h3⟩ := h
  obtain ⟨qs, q1, q2, q3⟩ := h'
  refine ⟨ps ++ qs, fun p hp => (List.mem_append.mp hp).elim (h1 p) (q1 p), ?_, ?_⟩
  · rw [cl_app, h2, q2, pcsText_app]
  · rw [cl_app, h3, q3, pcsBare_app]
theorem Dressed.end {a b : Str} (h : Dressed a b) : escEnd false (cl b) = false ∧ stripF (cl b) = cl a := by
  obtain ⟨ps, h1, h2, h3⟩ := h
  refine ⟨?_, by rw [h2, strip_pieces h1, h3]⟩
  rw [h2]
  clear h2 h3
  induction ps with
  | nil => rfl
  | cons p ps ih =>
    have et : pcsText (p :: ps) = pcText p ++ pcsText ps := by simp [pcsText]
    rw [et, escEnd_app, pcText_end (h1 p (.head _))]
    exact ih fun q hq => h1 q (.tail _ hq)
theorem dressed_clean {x : Str} (h : PcOk (false, cl x)) : Dressed x x := ⟨[(false, cl x)], fun p hp => by rw [List.mem_singleton.mp hp]; exact h, by simp [pcsText, pcText], by simp [pcsBare, pcBare]⟩
theorem dressed_join {es : List (Str × Str)} (h : ∀ e ∈ es, Dressed e.1 e.2) : Dressed (Txt.join (Str.ofString "") (es.map (·.1))) (Txt.join (Str.ofString "") (es.map (·.2))) := by
  have key : ∃ ps, (∀ p ∈ ps, PcOk p) ∧ ((es.map (·.2)).map cl).flatten = pcsText ps ∧ ((es.map (·.1)).map cl).flatten = pcsBare ps := by
    induction es with
    | nil => exact ⟨[], (fun p hp => nomatch hp), rfl, rfl⟩
    | cons e es ih =>
      obtain ⟨ps, h1, h2, h3⟩ := h e (.head _)
      obtain ⟨qs, q1, q2, q3⟩ := ih fun x hx => h x (.tail _ hx)
      refine ⟨ps ++ qs, fun p hp => (List.mem_append.mp hp).elim (h1 p) (q1 p), ?_, ?_⟩
      · rw [pcsText_app, ← h2, ← q2]; simp
      · rw [pcsBare_app, ← h3, ← q3]; simp
  obtain ⟨ps, h1, h2, h3⟩ := key
  exact ⟨ps, h1, by rw [cl_join, h2], by rw [cl_join, h3]⟩
theorem rider_pcs (k : Nat) : ∃ ps, (∀ p ∈ ps, PcOk p) ∧ cl (riders.getD k Str.empty) = pcsText ps ∧ pcsBare ps = [] := by
  match k with
  | 0 => exact ⟨[], (fun p hp => nomatch hp), by decide +kernel, rfl⟩
  | 1 => exact ⟨[(true, [40])], (fun p hp => by rw [List.mem_singleton.mp hp]; exact ⟨by decide, rfl⟩), by decide +kernel, rfl⟩
  | 2 => exact ⟨[(true, [41, 92, 34])], (fun p hp => by rw [List.mem_singleton.mp hp]; exact ⟨by decide, rfl⟩), by decide +kernel, rfl⟩
  | 3 => exact ⟨[(true, [101])], (fun p hp => by rw [List.mem_singleton.mp hp]; exact ⟨by decide, rfl⟩), by decide +kernel, rfl⟩
  | n + 4 => exact ⟨[], (fun p hp => nomatch hp), by rfl, rfl⟩
noncomputable def leafKd (d : Int) : Nat := ((d.fdiv 144).fmod 3).toNat
theorem leafKd_lt (d : Int) : leafKd d < 3 := by
  have h1 := Int.fmod_nonneg_of_pos (d.fdiv 144) (show (0 : Int) < 3 by decide)
  have h2 := Int.fmod_lt_of_pos (d.fdiv 144) (show (0 : Int) < 3 by decide)
  unfold leafKd; omega
noncomputable def leafT (i k : Nat) : List Nat := match k with
  | 0 => [97 + i]
  | 1 => [65 + i]
  | _ => [92, match i with | 0 => 40 | 1 => 41 | 2 => 34 | _ => 92]
theorem leaf_cl : ∀ i, i < 4 → ∀ k, k < 3 → cl ((leafMenu i).getD k Str.empty) = leafT i k := by decide +kernel
theorem leafS_cl {i : Nat} (hi : i < 4) (d : Int) : cl (leafS i d) = leafT i (leafKd d) := leaf_cl i hi _ (leafKd_lt d)
theorem leafT_ok : ∀ i, i < 4 → ∀ k, k < 3 → (∀ e ∈ escs 0 false (leafT i k), e.2 ≠ [34]) ∧ escEnd false (leafT i k) = false := by decide +kernel
theorem leaf_dressed {i : Nat} (hi : i < 4) (d : Int) : Dressed (leafS i d) (leafS i d) := dressed_clean (by
  rw [leafS_cl hi]
  exact leafT_ok i hi _ (leafKd_lt d))
theorem dressed_step {es : List (Str × Str)} (h : ∀ e ∈ es, Dressed e.1 e.2) (d : Int) : Dressed (plainOf (es.map (·.1))) (dressOf (riderOf d) (es.map (·.2))) := by
  have ho : Dressed (Str.ofString "(") (Str.ofString "(") := dressed_clean ⟨by decide +kernel, by decide +kernel⟩
  have hc : Dressed (Str.ofString ")") (Str.ofString ")") := dressed_clean ⟨by decide +kernel, by decide +kernel⟩
  have hr : Dressed (Str.ofString "") (riderOf d) := by
    obtain ⟨ps, h1, h2, h3⟩ := rider_pcs ((d.fdiv 36).fmod 4).toNat
    exact ⟨ps, h1, h2, by rw [h3]; decide +kernel⟩
  have hj := dressed_join h
  have e : plainOf (es.map (·.1)) = (Str.ofString "(" ++ Str.ofString "" ++ Txt.join (Str.ofString "") (es.map (·.1))) ++ Str.ofString ")" := by
    have e0 : Str.ofString "(" ++ Str.ofString "" = Str.ofString "(" := by decide +kernel
    rw [e0]; rfl
  rw [e]
  exact ((ho.app hr).app hj).app hc
theorem thF_dressed (d0 d1 d2 d3 : Int) : ∀ k, ∀ e ∈ thF d0 d1 d2 d3 k, Dressed e.1 e.2 := by
  have step : ∀ th d, (∀ e ∈ th, Dressed e.1 e.2) → ∀ e ∈ thStep th d, Dressed e.1 e.2 := fun th d h e he => by
    unfold thStep at he
    rcases List.mem_append.mp he with he | he
    · rcases List.mem_append.mp he with he | he
      · exact h e (List.mem_of_mem_take he)
      · rw [List.mem_singleton.mp he]
        exact dressed_step (fun e he => h e (List.mem_of_mem_drop (List.mem_of_mem_take he))) d
    · exact h e (List.mem_of_mem_drop he)
  intro k
  unfold thF
  generalize [d0, d1, d2, d3].take k = ds
  have h0 : ∀ e ∈ th0 d0 d1 d2 d3, Dressed e.1 e.2 := fun e he => by
    simp only [th0, List.mem_cons, List.not_mem_nil, or_false] at he
    rcases he with rfl | rfl | rfl | rfl
    · exact leaf_dressed (by decide) d0
    · exact leaf_dressed (by decide) d1
    · exact leaf_dressed (by decide) d2
    · exact leaf_dressed (by decide) d3
  revert h0
  generalize th0 d0 d1 d2 d3 = th
  intro h0
  induction ds generalizing th with
  | nil => exact h0
  | cons d ds ih => exact ih _ (step th d h0)


-- PART Tok
theorem lnTok : True := by
  k_with_none
  trivial
/-! NOLINES the bare text's tokens -/
noncomputable def tokT (kd : Nat → Nat) (t : Nat) : List Nat := if t = 4 then [40] else if t = 5 then [41] else leafT t (kd t)
noncomputable def textA (kd : Nat → Nat) (ts : List Nat) : List Nat := (ts.map (tokT kd)).flatten
theorem textA_app (kd : Nat → Nat) (a b : List Nat) : textA kd (a ++ b) = textA kd a ++ textA kd b := by simp [textA]
theorem tok_one : ∀ t, t < 6 → ∀ k, k < 3 → (escs 0 false (if t = 4 then [40] else if t = 5 then [41] else leafT t k)).map (·.2) = [if t = 4 then [40] else if t = 5 then [41] else leafT t k] ∧ escEnd false (if t = 4 then [40] else if t = 5 then [41] else leafT t k) = false := by decide +kernel
theorem escs_text {kd : Nat → Nat} (hk : ∀ t, kd t < 3) : ∀ (ts : List Nat) (i : Nat), (∀ t ∈ ts, t < 6) → (escs i false (textA kd ts)).map (·.2) = ts.map (tokT kd) ∧ escEnd false (textA kd ts) = false
  | [], _, _ => ⟨rfl, rfl⟩
  | t :: r, i, h => by
    obtain ⟨h1, h2⟩ := tok_one t (h t (.head _)) (kd t) (hk t)
    have e : textA kd (t :: r) = tokT kd t ++ textA kd r := by simp [textA]
    have ih := escs_text hk r (i + (tokT kd t).length) fun x hx => h x (.tail _ hx)
    have e2 : escEnd false (tokT kd t) = false := h2
    rw [e, escs_app, escEnd_app, e2, List.map_append, ih.1, escs_shift _ i 0]
    exact ⟨by rw [show (escs 0 false (tokT kd t)).map (·.2) = [tokT kd t] from h1]; rfl, ih.2⟩
theorem plain_text {kd : Nat → Nat} {es : List (Str × Str)} {ta : List (List Nat)} (h : es.map (fun e => cl e.1) = ta.map (textA kd)) : cl (plainOf (es.map (·.1))) = textA kd (4 :: ta.flatten ++ [5]) := by
  have e1 : cl (Str.ofString "(") = [40] := by decide +kernel
  have e2 : cl (Str.ofString ")") = [41] := by decide +kernel
  have hf : ∀ ta : List (List Nat), textA kd ta.flatten = (ta.map (textA kd)).flatten := by
    intro ta
    induction ta with
    | nil => rfl
    | cons a r ih => rw [List.flatten_cons, textA_app, ih]; rfl
  unfold plainOf
  rw [cl_app, cl_app, cl_join, e1, e2, List.cons_append, textA_app]
  have e3 : textA kd (4 :: ta.flatten) = [40] ++ textA kd ta.flatten := by simp [textA, tokT]
  have e4 : textA kd [5] = [41] := by simp [textA, tokT]
  rw [e3, e4, hf, ← h, List.map_map]; rfl
/-- the kinds of the four leaves -/
noncomputable def kinds (d0 d1 d2 d3 : Int) (t : Nat) : Nat := match t with | 0 => leafKd d0 | 1 => leafKd d1 | 2 => leafKd d2 | 3 => leafKd d3 | _ => 0
theorem kinds_lt (d0 d1 d2 d3 : Int) (t : Nat) : kinds d0 d1 d2 d3 t < 3 := by
  unfold kinds
  split
  · exact leafKd_lt _
  · exact leafKd_lt _
  · exact leafKd_lt _
  · exact leafKd_lt _
  · decide
theorem step_text {kd : Nat → Nat} {th : List (Str × Str)} {ta : List (List Nat)} (h : th.map (fun e => cl e.1) = ta.map (textA kd)) (d : Int) : (thStep th d).map (fun e => cl e.1) = (stepA ta (placeOf th.length d) (manyOf d)).map (textA kd) := by
  have hl : th.length = ta.length := by simpa using congrArg List.length h
  unfold thStep stepA
  generalize placeOf th.length d = p
  generalize manyOf d = q
  have hm : ((th.drop p).take q).map (fun e => cl e.1) = ((ta.drop p).take q).map (textA kd) := by rw [List.map_take, List.map_drop, h, List.map_take, List.map_drop]
  have hml : ((th.drop p).take q).length = ((ta.drop p).take q).length := by simp [hl]
  rw [hml]
  simp only [List.map_append, List.map_cons, List.map_nil]
  rw [plain_text hm, List.map_take, h, List.map_drop, h, ← List.map_take, ← List.map_drop]
theorem forest_text (d0 d1 d2 d3 : Int) (h0 : 0 ≤ d0) (h1 : 0 ≤ d1) (h2 : 0 ≤ d2) (h3 : 0 ≤ d3) : ∃ ts, goodA ts = true ∧ cl (Txt.join (Str.ofString "") ((thF d0 d1 d2 d3 4).map (·.1))) = textA (kinds d0 d1 d2 d3) ts := by
  have hq : ∀ d : Int, 1 ≤ manyOf d ∧ manyOf d ≤ 3 := fun d => by
    have a1 := Int.fmod_nonneg_of_pos (d.fdiv 12) (show (0 : Int) < 3 by decide)
    have a2 := Int.fmod_lt_of_pos (d.fdiv 12) (show (0 : Int) < 3 by decide)
    unfold manyOf; omega
  let kd := kinds d0 d1 d2 d3
  have r0 : (th0 d0 d1 d2 d3).map (fun e => cl e.1) = [[0], [1], [2], [3]].map (textA kd) := by
    simp only [th0, List.map_cons, List.map_nil]
    rw [leafS_cl (by decide), leafS_cl (by decide), leafS_cl (by decide), leafS_cl (by decide)]
    simp [textA, tokT, kd, kinds]
  have k0 := th0_ok d0 d1 d2 d3
  have l : ∀ {th : List (Str × Str)} {ta : List (List Nat)}, th.map (fun e => cl e.1) = ta.map (textA kd) → th.length = ta.length := fun h => by simpa using congrArg List.length h
  have r1 := step_text r0 d0
  have k1 := thStep_ok k0 h0
  have p1 := (place_lt (d := d0) k0.one h0).1
  have c1 := chk_first (p := placeOf (th0 d0 d1 d2 d3).length d0) (q := manyOf d0) p1 (hq d0).1 (hq d0).2
  have r2 := step_text r1 d1
  have k2 := thStep_ok k1 h1
  have p2 := (place_lt (d := d1) k1.one h1).1
  have c2 := chkA_step c1 (p := placeOf (thStep (th0 d0 d1 d2 d3) d0).length d1) (q := manyOf d1) (by rw [← l r1]; exact p2) (hq d1).1 (hq d1).2
  have r3 := step_text r2 d2
  have k3 := thStep_ok k2 h2
  have p3 := (place_lt (d := d2) k2.one h2).1
  have c3 := chkA_step c2 (p := placeOf (thStep (thStep (th0 d0 d1 d2 d3) d0) d1).length d2) (q := manyOf d2) (by rw [← l r2]; exact p3) (hq d2).1 (hq d2).2
  have r4 := step_text r3 d3
  have p4 := (place_lt (d := d3) k3.one h3).1
  have c4 := chkA_step c3 (p := placeOf (thStep (thStep (thStep (th0 d0 d1 d2 d3) d0) d1) d2).length d3) (q := manyOf d3) (by rw [← l r3]; exact p4) (hq d3).1 (hq d3).2
  refine ⟨_, c4, ?_⟩
  rw [cl_join, List.map_map]
  show ((thF d0 d1 d2 d3 4).map fun e => cl e.1).flatten = _
  have hf : ∀ ta : List (List Nat), textA kd ta.flatten = (ta.map (textA kd)).flatten := by
    intro ta
    induction ta with
    | nil => rfl
    | cons a r ih => rw [List.flatten_cons, textA_app, ih]; rfl
  rw [hf]
  exact congrArg List.flatten r4


-- PART LevA
theorem lnLevA : True := by
  k_with_none
  trivial
/-! NOLINES the distances of the ways, by a finite check -/
noncomputable def wyL (u : Bool) (w : List Nat) : List Nat := w.map fun x => (bif u then 75 else 107) + x
/-- rising lists within n numbers from k on -/
noncomputable def ups : Nat → Nat → List (List Nat)
  | 0, _ => [[]]
  | n + 1, k => ups n (k + 1) ++ (ups n (k + 1)).map (k :: ·)
theorem mem_ups : ∀ (n k : Nat), k + n = 4 → ∀ w, wayA k w = true → w ∈ ups n k
  | 0, k, hk, [], _ => .head _
  | 0, k, hk, x :: r, h => by
    unfold wayA at h
    have h1 := Bool.and_eq_true_iff.mp h
    have h2 := Bool.and_eq_true_iff.mp h1.1
    have a1 := Nat.le_of_ble_eq_true h2.1
    have a2 : x < 4 := Nat.le_of_ble_eq_true h2.2
    omega
  | n + 1, k, hk, [], _ => List.mem_append.mpr (.inl (mem_ups n (k + 1) (by omega) [] rfl))
  | n + 1, k, hk, x :: r, h => by
    have h' := h
    unfold wayA at h'
    have h1 := Bool.and_eq_true_iff.mp h'
    have h2 := Bool.and_eq_true_iff.mp h1.1
    have a1 := Nat.le_of_ble_eq_true h2.1
    by_cases hx : x = k
    · subst hx
      exact List.mem_append.mpr (.inr (List.mem_map.mpr ⟨r, mem_ups n (x + 1) (by omega) r h1.2, rfl⟩))
    · refine List.mem_append.mpr (.inl (mem_ups n (k + 1) (by omega) (x :: r) ?_))
      unfold wayA
      rw [Bool.and_eq_true_iff, Bool.and_eq_true_iff]
      exact ⟨⟨Nat.ble_eq_true_of_le (by omega), h2.2⟩, h1.2⟩
theorem way_mem {w : List Nat} (h : wayA 0 w = true) : w ∈ ups 4 0 := mem_ups 4 0 rfl w h
noncomputable def costA (u v : Bool) (a b : List Nat) : Int := levL (wyL u a) (wyL v b) (2 * max (a.length : Int) (b.length : Int))
noncomputable def levOk (u v : Bool) (a b : List Nat) : Bool :=
  let c := costA u v a b
  decide (levL (wyL v b) (wyL u a) c = c) && decide (levL (wyL u a) (wyL v b) (c - 1) = c) && decide (0 ≤ c) && decide (c ≤ 1000) &&
    (bif u == v then decide (max (a.length : Int) (b.length : Int) - c.fdiv 2 = (preA a b : Int)) else decide (2 * max (a.length : Int) (b.length : Int) - c = (preA a b : Int)))
noncomputable def levAll (u v : Bool) (a : List Nat) : Bool := (ups 4 0).all fun b => !(pairA a b) || levOk u v a b
theorem ups_eq : ups 4 0 = [[], [3], [2], [2, 3], [1], [1, 3], [1, 2], [1, 2, 3], [0], [0, 3], [0, 2], [0, 2, 3], [0, 1], [0, 1, 3], [0, 1, 2], [0, 1, 2, 3]] := by decide +kernel
theorem lev_00 : (ups 4 0).all (levAll false false) = true := by decide +kernel
theorem lev_01 : (ups 4 0).all (levAll false true) = true := by decide +kernel
theorem lev_10 : (ups 4 0).all (levAll true false) = true := by decide +kernel
theorem lev_11 : (ups 4 0).all (levAll true true) = true := by decide +kernel
noncomputable def oneOk (u : Bool) (a : List Nat) : Bool :=
  let w := wyL u a
  decide (levL w [] 0 = 2 * (a.length : Int)) && (a.isEmpty || decide (levL (w.drop 1) w 2 = 2)) && (Nat.ble a.length 1 || (decide (levL ((w.drop 1).dropLast) w 3 = 4) && decide (levL ((w.drop 1).dropLast) w 4 = 4) && decide (levL (w.drop 1 ++ [97]) w 4 = 4)))
theorem one_0 : (ups 4 0).all (oneOk false) = true := by decide +kernel
theorem one_1 : (ups 4 0).all (oneOk true) = true := by decide +kernel
theorem lev_ok {u v : Bool} {a b : List Nat} (ha : wayA 0 a = true) (hb : wayA 0 b = true) (hp : pairA a b = true) : levOk u v a b = true := by
  have key : (ups 4 0).all (levAll u v) = true := by
    cases u <;> cases v
    · exact lev_00
    · exact lev_01
    · exact lev_10
    · exact lev_11
  have h1 := List.all_eq_true.mp key a (way_mem ha)
  have h2 := List.all_eq_true.mp h1 b (way_mem hb)
  rw [hp] at h2
  exact h2
theorem one_ok {u : Bool} {a : List Nat} (ha : wayA 0 a = true) : oneOk u a = true := by
  have key : (ups 4 0).all (oneOk u) = true := by
    cases u
    · exact one_0
    · exact one_1
  exact List.all_eq_true.mp key a (way_mem ha)
theorem way_len {a : List Nat} (ha : wayA 0 a = true) : a.length ≤ 4 := by
  have h : ∀ a ∈ ups 4 0, a.length ≤ 4 := by decide +kernel
  exact h a (way_mem ha)


-- PART Miss
theorem lnMiss : True := by
  k_with_none
  trivial
/-! NOLINES the two patterns find nothing in names and ways -/
section
open PySem.Builtin.Re
noncomputable def leaf12 : List (List Nat) := [[97], [98], [99], [100], [65], [66], [67], [68], [92, 40], [92, 41], [92, 34], [92, 92]]
theorem miss81 (w : World) {c : List Nat} (hc : c ∈ leaf12) : MissAt (KK w.params) 81 ⟨c.toArray⟩ := by
  unfold MissAt
  refine ⟨_, _, _, _, _, _, rfl, rfl, rfl, rfl, rfl, rfl, rfl, rfl, ?_, ?_⟩
  · have h : ∀ c ∈ leaf12, (⟨c.toArray⟩ : Str).cps.size < 1000 := by decide +kernel
    exact h c hc
  · revert c
    decide +kernel
theorem miss86 (w : World) {u : Bool} {a : List Nat} (ha : a ∈ ups 4 0) : MissAt (KK w.params) 86 ⟨(wyL u a).toArray⟩ := by
  unfold MissAt
  refine ⟨_, _, _, _, _, _, rfl, rfl, rfl, rfl, rfl, rfl, rfl, rfl, ?_, ?_⟩
  · have h : ∀ u : Bool, ∀ a ∈ ups 4 0, (⟨(wyL u a).toArray⟩ : Str).cps.size < 1000 := by decide +kernel
    exact h u a ha
  · revert u a
    decide +kernel
end


-- PART TabA
theorem lnTabA : True := by
  k_with_none
  trivial
/-! NOLINES the table's fold is the tokens' fold -/
noncomputable def nmS (kd : Nat → Nat) (t : Nat) : Str := ⟨(leafT t (kd t)).toArray⟩
noncomputable def wyS (u : Bool) (w : List Nat) : Str := ⟨(wyL u w).toArray⟩
noncomputable def entA (kd : Nat → Nat) (e : Nat × List Nat) : Str × Str := (nmS kd e.1, wyS (Nat.beq (kd e.1) 1) e.2)
noncomputable def convA (kd : Nat → Nat) (st : SA) : TSt := (wyS false st.1, st.2.1, st.2.2.map (entA kd))
theorem leaf_up : ∀ t, t < 4 → ∀ k, k < 3 → Txt.isupper ⟨(leafT t k).toArray⟩ = Nat.beq k 1 := by decide +kernel
theorem leaf_br : ∀ t, t < 4 → ∀ k, k < 3 → leafT t k ≠ [40] ∧ leafT t k ≠ [41] := by decide +kernel
theorem way_upper : ∀ w ∈ ups 4 0, Txt.upper (wyS false w) = wyS true w := by decide +kernel
theorem wyS_snoc (w : List Nat) (n : Nat) : wyS false w ++ (⟨#[107 + n]⟩ : Str) = wyS false (w ++ [n]) := by
  refine str_ext ?_
  rw [cl_app]
  show (wyL false w).toArray.toList ++ [107 + n] = (wyL false (w ++ [n])).toArray.toList
  simp [wyL]
theorem wyS_len (u : Bool) (w : List Nat) : (wyS u w).length = w.length := by
  rw [len_cl]
  show (wyL u w).toArray.toList.length = _
  simp [wyL]
theorem slice_nil : Txt.slice ⟨#[]⟩ none (some (-1)) = (⟨#[]⟩ : Str) := by decide +kernel
theorem wyS_pop (w : List Nat) : Txt.slice (wyS false w) none (some (-1)) = wyS false w.dropLast := by
  cases w with
  | nil => exact slice_nil
  | cons x r =>
    have e := sl_toneg (x := wyS false (x :: r)) (k := 1) (by omega) (by rw [wyS_len, List.length_cons]; omega)
    refine str_ext ?_
    have e0 : ((1 : Nat) : Int) = 1 := rfl
    rw [e0] at e
    rw [e, wyS_len, List.dropLast_eq_take]
    show (wyL false (x :: r)).toArray.toList.take _ = (wyL false _).toArray.toList
    simp only [wyL, List.map_take]
theorem conv_step {kd : Nat → Nat} (hk : ∀ t, kd t < 3) {st : SA} {t p : Nat} (hw : wayA 0 st.1 = true) (ht : t < 6) : tabStep (convA kd st) (p, tokT kd t) = convA kd (stA st t) := by
  obtain ⟨w, n, es⟩ := st
  by_cases h4 : t = 4
  · subst h4
    show (wyS false w ++ ⟨#[107 + n]⟩, n + 1, es.map (entA kd)) = (wyS false (w ++ [n]), n + 1, es.map (entA kd))
    rw [wyS_snoc]
  by_cases h5 : t = 5
  · subst h5
    show (Txt.slice (wyS false w) none (some (-1)), n, es.map (entA kd)) = (wyS false w.dropLast, n, es.map (entA kd))
    rw [wyS_pop]
  have ht4 : t < 4 := by omega
  have hb := leaf_br t ht4 (kd t) (hk t)
  have hu := leaf_up t ht4 (kd t) (hk t)
  have e1 : tokT kd t = leafT t (kd t) := by unfold tokT; rw [if_neg h4, if_neg h5]
  have e2 : stA (w, n, es) t = (w, n, es ++ [(t, w)]) := by
    have b4 : Nat.beq t 4 = false := by cases q : Nat.beq t 4 with | false => rfl | true => exact absurd (Nat.eq_of_beq_eq_true q) h4
    have b5 : Nat.beq t 5 = false := by cases q : Nat.beq t 5 with | false => rfl | true => exact absurd (Nat.eq_of_beq_eq_true q) h5
    unfold stA
    rw [b4, b5]; rfl
  rw [e1, e2]
  unfold tabStep
  rw [if_neg hb.1, if_neg hb.2]
  dsimp only
  rw [hu]
  show (wyS false w, n, es.map (entA kd) ++ [(nmS kd t, _)]) = (wyS false w, n, (es ++ [(t, w)]).map (entA kd))
  rw [List.map_append]
  show _ = (wyS false w, n, es.map (entA kd) ++ [(nmS kd t, wyS (Nat.beq (kd t) 1) w)])
  cases Nat.beq (kd t) 1 with
  | false => rfl
  | true => rw [if_pos rfl, show (convA kd (w, n, es)).1 = wyS false w from rfl, way_upper w (way_mem hw)]
/-- what holds of a state behind some tokens -/
noncomputable def StOk (st : SA) : Prop := ∀ e ∈ st.2.2, e.1 < 4 ∧ wayA 0 e.2 = true
theorem ok_step {st : SA} {t : Nat} (h : StOk st) (hw : wayA 0 st.1 = true) (ht : t < 6) : StOk (stA st t) := by
  unfold stA
  cases h4 : Nat.beq t 4 with
  | true => exact h
  | false =>
    cases h5 : Nat.beq t 5 with
    | true => exact h
    | false =>
      intro e he
      rcases List.mem_append.mp he with he | he
      · exact h e he
      · rw [List.mem_singleton.mp he]
        refine ⟨?_, hw⟩
        show t < 4
        have n4 : t ≠ 4 := fun q => by subst q; cases h4
        have n5 : t ≠ 5 := fun q => by subst q; cases h5
        omega
theorem okA_cons {st : SA} {t : Nat} {r : List Nat} (h : okA st (t :: r) = true) : wayA 0 st.1 = true ∧ t < 6 ∧ newA t st.2.2 = true ∧ okA (stA st t) r = true := by
  unfold okA at h
  have h1 := Bool.and_eq_true_iff.mp h
  have h2 := Bool.and_eq_true_iff.mp h1.1
  have h3 := Bool.and_eq_true_iff.mp h2.1
  exact ⟨h3.1, Nat.le_of_ble_eq_true h3.2, h2.2, h1.2⟩
/-- the fold, and what holds at each place -/
theorem conv_fold {kd : Nat → Nat} (hk : ∀ t, kd t < 3) : ∀ (ts : List Nat) (st : SA), okA st ts = true → StOk st → ∀ (es : List (Nat × List Nat)), es.map (·.2) = ts.map (tokT kd) →
    ∀ j, (es.take j).foldl tabStep (convA kd st) = convA kd ((ts.take j).foldl stA st) ∧ StOk ((ts.take j).foldl stA st) ∧ ∀ t, ts[j]? = some t → t < 6 ∧ wayA 0 ((ts.take j).foldl stA st).1 = true ∧ newA t ((ts.take j).foldl stA st).2.2 = true
  | [], st, _, hs, [], _, j => by simpa using hs
  | [], st, _, hs, _ :: _, h, j => nomatch h
  | t :: r, st, h, hs, [], he, j => nomatch he
  | t :: r, st, h, hs, (p, c) :: es, he, 0 => by
    obtain ⟨h1, h2, h3, h4⟩ := okA_cons h
    refine ⟨rfl, hs, fun t' ht => ?_⟩
    cases ht
    exact ⟨h2, h1, h3⟩
  | t :: r, st, h, hs, (p, c) :: es, he, j + 1 => by
    obtain ⟨h1, h2, h3, h4⟩ := okA_cons h
    have hc : c = tokT kd t := (List.cons.inj he).1
    subst hc
    have ih := conv_fold hk r (stA st t) h4 (ok_step hs h1 h2) es (List.cons.inj he).2 j
    rw [List.take_succ_cons, List.take_succ_cons, List.foldl_cons, List.foldl_cons, conv_step hk h1 h2]
    exact ih
theorem newA_ne {t : Nat} : ∀ {es : List (Nat × List Nat)}, newA t es = true → ∀ e ∈ es, e.1 ≠ t
  | [], _, e, he => nomatch he
  | x :: r, h, e, he => by
    unfold newA at h
    have h1 := Bool.and_eq_true_iff.mp h
    rcases List.mem_cons.mp he with rfl | he
    · intro q
      rw [q] at h1
      have : Nat.beq t t = true := Nat.beq_refl t
      rw [this] at h1
      exact nomatch h1.1
    · exact newA_ne h1.2 e he
theorem names_ne : ∀ t, t < 4 → ∀ t', t' < 4 → t' ≠ t → ∀ k, k < 3 → ∀ k', k' < 3 → (Txt.lower ⟨(leafT t' k').toArray⟩ == Txt.lower ⟨(leafT t k).toArray⟩) = false := by decide +kernel
theorem tok_ok : ∀ t, t < 6 → ∀ k, k < 3 → TokOk (if t = 4 then [40] else if t = 5 then [41] else leafT t k) := by
  have h : ∀ t, t < 6 → ∀ k, k < 3 → ((if t = 4 then [40] else if t = 5 then [41] else leafT t k) = [40] ∨ (if t = 4 then [40] else if t = 5 then [41] else leafT t k) = [41] ∨ (if t = 4 then [40] else if t = 5 then [41] else leafT t k) ∈ leafList) := by decide +kernel
  exact h
theorem tok_leaf : ∀ t, t < 6 → ∀ k, k < 3 → (if t = 4 then [40] else if t = 5 then [41] else leafT t k) ∈ leafList → t < 4 := by decide +kernel
theorem leaf_in : ∀ t, t < 4 → ∀ k, k < 3 → leafT t k ∈ leaf12 ∧ cl (Txt.lower ⟨(leafT t k).toArray⟩) ∈ leaf12 ∧ cl (Txt.lower (Txt.swapcase ⟨(leafT t k).toArray⟩)) ∈ leaf12 := by decide +kernel
theorem miss81' (w : World) {x : Str} (h : cl x ∈ leaf12) : MissAt (KK w.params) 81 x := by
  have e : x = ⟨(cl x).toArray⟩ := str_ext (by simp [cl])
  rw [e]; exact miss81 w h
section
variable {kd : Nat → Nat} (hk : ∀ t, kd t < 3) {ts : List Nat} (hok : okA ([], 0, []) ts = true) (hlen : ts.length < 20) (w : World)
include hk hok
theorem tabAt_conv (j : Nat) : tabAt (textA kd ts) j = convA kd ((ts.take j).foldl stA ([], 0, [])) ∧ StOk ((ts.take j).foldl stA ([], 0, [])) ∧ ∀ t, ts[j]? = some t → t < 6 ∧ wayA 0 ((ts.take j).foldl stA ([], 0, [])).1 = true ∧ newA t ((ts.take j).foldl stA ([], 0, [])).2.2 = true := by
  have hlt : ∀ (ts : List Nat) (st : SA), okA st ts = true → ∀ t ∈ ts, t < 6 := by
    intro ts
    induction ts with
    | nil => intro st _ t ht; cases ht
    | cons x r ih =>
      intro st h t ht
      obtain ⟨_, h2, _, h4⟩ := okA_cons h
      rcases List.mem_cons.mp ht with rfl | ht
      · exact h2
      · exact ih _ h4 t ht
  have e := (escs_text hk ts 0 (hlt ts _ hok)).1
  have h := conv_fold hk ts ([], 0, []) hok (fun e he => nomatch he) (escs 0 false (textA kd ts)) e j
  have e0 : convA kd ([], 0, []) = (Str.ofString "", 0, []) := by
    show (wyS false [], 0, []) = _
    have : wyS false [] = Str.ofString "" := by decide +kernel
    rw [this]
  rw [e0] at h
  exact h
theorem tok_lt : ∀ t ∈ ts, t < 6 := fun t ht => by
  obtain ⟨j, hj⟩ := List.getElem?_of_mem ht
  exact ((tabAt_conv hk hok j).2.2 t hj).1
theorem escs_at {j p : Nat} {c : List Nat} (h : (escs 0 false (textA kd ts))[j]? = some (p, c)) : ∃ t, ts[j]? = some t ∧ c = tokT kd t := by
  have e := (escs_text hk ts 0 (tok_lt hk hok)).1
  have e2 : ((escs 0 false (textA kd ts)).map (·.2))[j]? = some c := by rw [List.getElem?_map, h]; rfl
  rw [e, List.getElem?_map] at e2
  cases ht : ts[j]? with
  | none => rw [ht] at e2; cases e2
  | some t => rw [ht] at e2; exact ⟨t, rfl, (Option.some.inj e2).symm⟩
include hlen
theorem tab_ok : TabOk (KK w.params) (textA kd ts) := by
  have e := (escs_text hk ts 0 (tok_lt hk hok)).1
  have el : (escs 0 false (textA kd ts)).length = ts.length := by simpa using congrArg List.length e
  refine ⟨fun x hx => ?_, by omega, fun j p c hj hc => ?_⟩
  · obtain ⟨j, hj⟩ := List.getElem?_of_mem hx
    obtain ⟨t, ht, q⟩ := escs_at hk hok (p := x.1) (c := x.2) hj
    rw [q]
    exact tok_ok t ((tabAt_conv hk hok j).2.2 t ht).1 _ (hk t)
  · obtain ⟨t, ht, q⟩ := escs_at hk hok hj
    subst q
    obtain ⟨e1, e2, e3⟩ := tabAt_conv hk hok j
    obtain ⟨h6, hw, hn⟩ := e3 t ht
    have h4 := tok_leaf t h6 _ (hk t) hc
    have eT : tokT kd t = leafT t (kd t) := by
      unfold tokT
      rw [if_neg (by omega), if_neg (by omega)]
    obtain ⟨i1, i2, i3⟩ := leaf_in t h4 _ (hk t)
    rw [eT, e1]
    refine ⟨miss81' w i2, miss81 w i1, miss86 w (u := false) (way_mem hw), ?_, fun n hn' => ?_⟩
    · show MissAt _ 86 (Txt.upper (wyS false _))
      rw [way_upper _ (way_mem hw)]
      exact miss86 w (u := true) (way_mem hw)
    · obtain ⟨x, hx, rfl⟩ := List.mem_map.mp hn'
      exact names_ne t h4 x.1 (e2 x hx).1 (newA_ne hn x hx) _ (hk t) _ (hk x.1)
theorem tab_end : (tabAt (textA kd ts) (escs 0 false (textA kd ts)).length).2.2 = (finA ts).2.2.map (entA kd) := by
  have e := (escs_text hk ts 0 (tok_lt hk hok)).1
  have el : (escs 0 false (textA kd ts)).length = ts.length := by simpa using congrArg List.length e
  rw [(tabAt_conv hk hok _).1, el, List.take_length]
  rfl
theorem text_ok : (textA kd ts).length ≤ 100 ∧ escEnd false (textA kd ts) = false := by
  have h2 : ∀ t, t < 6 → ∀ k, k < 3 → (if t = 4 then [40] else if t = 5 then [41] else leafT t k).length ≤ 2 := by decide +kernel
  have hl : ∀ (ts : List Nat), (∀ t ∈ ts, t < 6) → (textA kd ts).length ≤ 2 * ts.length := by
    intro ts
    induction ts with
    | nil => intro _; exact Nat.le_refl _
    | cons x r ih =>
      intro h
      have a := h2 x (h x (.head _)) _ (hk x)
      have b := ih fun t ht => h t (.tail _ ht)
      have e : textA kd (x :: r) = tokT kd x ++ textA kd r := by simp [textA]
      rw [e, List.length_append, List.length_cons]
      have a' : (tokT kd x).length ≤ 2 := a
      omega
  have := hl ts (tok_lt hk hok)
  exact ⟨by omega, (escs_text hk ts 0 (tok_lt hk hok)).2⟩
end


-- PART Facts
theorem lnFacts : True := by
  k_with_none
  trivial
/-! NOLINES all that the law's walk asks of the plain law -/
noncomputable def plainS (d0 d1 d2 d3 : Int) : Str := Txt.join (Str.ofString "") ((thF d0 d1 d2 d3 4).map (·.1))
noncomputable def dressS (d0 d1 d2 d3 : Int) : Str := Txt.join (Str.ofString "") ((thF d0 d1 d2 d3 4).map (·.2))
structure One (w : World) (n y : Str) (l : Nat) : Prop where
  nlen : n.length ≤ 2
  slen : (Txt.swapcase n).length ≤ 30
  ylen : y.length = l
  l4 : l ≤ 4
  miss : MissAt (KK w.params) 81 (Txt.lower (Txt.swapcase n))
  key : (Txt.lower n == Txt.lower (Txt.swapcase n)) = true
  deep : levF y (Str.ofString "") 0 = 2 * (l : Int)
  one : (y == Str.ofString "") = false → levF (Txt.slice y (some 1) none) y 2 = 2
  two : 1 < y.length → levF (Txt.slice y (some 1) (some (-1))) y 3 = 4 ∧ levF (Txt.slice y (some 1) (some (-1))) y 4 = 4 ∧ levF (Txt.slice y (some 1) none ++ Str.ofString "a") y 4 = 4
structure Two (n y n' y' : Str) (l l' : Nat) (c : Int) (s : Nat) : Prop where
  key : (Txt.lower n' == Txt.lower (Txt.swapcase n)) = false
  key' : (Txt.lower n == Txt.lower (Txt.swapcase n')) = false
  cost : levF y y' (2 * max (l : Int) (l' : Int)) = c
  back : levF y' y c = c
  less : levF y y' (c - 1) = c
  lo : 0 ≤ c
  hi : c ≤ 1000
  same : Txt.isupper n = Txt.isupper n' → max (l : Int) (l' : Int) - c.fdiv 2 = (s : Int)
  diff : Txt.isupper n ≠ Txt.isupper n' → 2 * max (l : Int) (l' : Int) - c = (s : Int)
theorem leaf_swap : ∀ t, t < 4 → ∀ k, k < 3 → (⟨(leafT t k).toArray⟩ : Str).length ≤ 2 ∧ (Txt.swapcase ⟨(leafT t k).toArray⟩).length ≤ 30 ∧ Txt.lower (Txt.swapcase ⟨(leafT t k).toArray⟩) = Txt.lower ⟨(leafT t k).toArray⟩ := by decide +kernel
theorem cl_wyS (u : Bool) (a : List Nat) : cl (wyS u a) = wyL u a := by
  show (wyL u a).toArray.toList = _
  simp
theorem slice_1 {y : Str} (h : 1 ≤ y.length) : cl (Txt.slice y (some 1) none) = (cl y).drop 1 := sl_from (k := 1) h
theorem slice_mid {y : Str} (h : 2 ≤ y.length) : cl (Txt.slice y (some 1) (some (-1))) = ((cl y).drop 1).dropLast := by
  have e : Txt.slice y (some 1) (some (-1)) = Txt.slice y (some ((1 : Nat) : Int)) (some ((y.length - 1 : Nat) : Int)) := by
    have q := StrLaws.sliceText_neg_hi y (some 1) (j := -1) (by decide) (by omega)
    have q2 : (-1 : Int) + y.length = ((y.length - 1 : Nat) : Int) := by omega
    rw [q2] at q
    exact q
  rw [e, sl_mid (by omega) (by omega), List.dropLast_eq_take, List.length_drop, ← len_cl]
theorem one_of (w : World) {kd : Nat → Nat} (hk : ∀ t, kd t < 3) {t : Nat} (ht : t < 4) {a : List Nat} (ha : wayA 0 a = true) : One w (nmS kd t) (wyS (Nat.beq (kd t) 1) a) a.length := by
  obtain ⟨i1, i2, i3⟩ := leaf_in t ht _ (hk t)
  obtain ⟨s1, s2, s3⟩ := leaf_swap t ht _ (hk t)
  generalize Nat.beq (kd t) 1 = u
  have ho := one_ok (u := u) ha
  unfold oneOk at ho
  have h1 := Bool.and_eq_true_iff.mp ho
  have h2 := Bool.and_eq_true_iff.mp h1.1
  have hl := wyS_len u a
  refine ⟨s1, s2, hl, way_len ha, miss81' w i3, ?_, ?_, fun hne => ?_, fun h1l => ?_⟩
  · unfold nmS; rw [s3]; exact beq_self_eq_true _
  · have e : cl (Str.ofString "") = [] := by decide +kernel
    unfold levF
    rw [cl_wyS, e]
    exact of_decide_eq_true h2.1
  · have h0 : 1 ≤ (wyS u a).length := by
      cases a with
      | nil =>
        have : ∀ u : Bool, ((wyS u []) == Str.ofString "") = true := by decide +kernel
        rw [this u] at hne
        cases hne
      | cons x r => rw [hl, List.length_cons]; omega
    unfold levF
    rw [slice_1 h0, cl_wyS]
    rcases Bool.or_eq_true_iff.mp h2.2 with q | q
    · have : a = [] := List.isEmpty_iff.mp q
      subst this
      rw [hl] at h0
      exact absurd h0 (by decide)
    · exact of_decide_eq_true q
  · have e : cl (Str.ofString "a") = [97] := by decide +kernel
    unfold levF
    rw [cl_app, e, slice_mid h1l, slice_1 (by omega), cl_wyS]
    rcases Bool.or_eq_true_iff.mp h1.2 with q | q
    · have := Nat.le_of_ble_eq_true q
      rw [hl] at h1l
      omega
    · have q1 := Bool.and_eq_true_iff.mp q
      have q2 := Bool.and_eq_true_iff.mp q1.1
      exact ⟨of_decide_eq_true q2.1, of_decide_eq_true q2.2, of_decide_eq_true q1.2⟩
theorem two_of {kd : Nat → Nat} (hk : ∀ t, kd t < 3) {t t' : Nat} (ht : t < 4) (ht' : t' < 4) (hne : t' ≠ t) {a b : List Nat} (ha : wayA 0 a = true) (hb : wayA 0 b = true) (hp : pairA a b = true) :
    Two (nmS kd t) (wyS (Nat.beq (kd t) 1) a) (nmS kd t') (wyS (Nat.beq (kd t') 1) b) a.length b.length (costA (Nat.beq (kd t) 1) (Nat.beq (kd t') 1) a b) (preA a b) := by
  obtain ⟨_, _, s3⟩ := leaf_swap t ht _ (hk t)
  obtain ⟨_, _, s3'⟩ := leaf_swap t' ht' _ (hk t')
  have u1 := leaf_up t ht _ (hk t)
  have u2 := leaf_up t' ht' _ (hk t')
  have k1 := names_ne t ht t' ht' hne _ (hk t) _ (hk t')
  have k2 := names_ne t' ht' t ht hne.symm _ (hk t') _ (hk t)
  unfold nmS
  generalize Nat.beq (kd t) 1 = u at *
  generalize Nat.beq (kd t') 1 = v at *
  have h := lev_ok (u := u) (v := v) ha hb hp
  unfold levOk at h
  have h1 := Bool.and_eq_true_iff.mp h
  have h2 := Bool.and_eq_true_iff.mp h1.1
  have h3 := Bool.and_eq_true_iff.mp h2.1
  have h4 := Bool.and_eq_true_iff.mp h3.1
  refine ⟨by rw [s3]; exact k1, by rw [s3']; exact k2, ?_, ?_, ?_, of_decide_eq_true h3.2, of_decide_eq_true h2.2, fun e => ?_, fun e => ?_⟩
  · unfold levF; rw [cl_wyS, cl_wyS]; rfl
  · unfold levF; rw [cl_wyS, cl_wyS]; exact of_decide_eq_true h4.1
  · unfold levF; rw [cl_wyS, cl_wyS]; exact of_decide_eq_true h4.2
  · rw [u1, u2] at e
    subst e
    have h5 := h1.2
    rw [beq_self_eq_true] at h5
    exact of_decide_eq_true h5
  · rw [u1, u2] at e
    have h5 := h1.2
    rw [beq_eq_false_iff_ne.mpr e] at h5
    exact of_decide_eq_true h5
theorem agS_cl {kd : Nat → Nat} (hk : ∀ t, kd t < 3) (dep : List Nat) (sh : List (List Nat)) (k b e lvl : Nat) (he : e ≤ 4) : cl (againS [nmS kd 0, nmS kd 1, nmS kd 2, nmS kd 3] dep sh k b e lvl) = textA kd (agG [] (· ++ ·) (fun i => [i]) (fun x => 4 :: x ++ [5]) dep sh k b e lvl) := by
  have e1 : cl (Str.ofString "(") = [40] := by decide +kernel
  have e2 : cl (Str.ofString ")") = [41] := by decide +kernel
  have a := agG_hom (dep := dep) (sh := sh) cl (nil := Str.ofString "") (app := (· ++ ·)) (name := fun i => [nmS kd 0, nmS kd 1, nmS kd 2, nmS kd 3].getD i Str.empty) (br := fun x => Str.ofString "(" ++ x ++ Str.ofString ")") (nil' := []) (app' := (· ++ ·)) (name' := fun i => leafT i (kd i)) (br' := fun x => [40] ++ x ++ [41])
    (by decide +kernel) cl_app (fun i hi => by
      match i, hi with
      | 0, _ => exact cl_mk _
      | 1, _ => exact cl_mk _
      | 2, _ => exact cl_mk _
      | 3, _ => exact cl_mk _) (fun x => by rw [cl_app, cl_app, e1, e2]) k b e lvl he
  have b2 := agG_hom (dep := dep) (sh := sh) (textA kd) (nil := []) (app := (· ++ ·)) (name := fun i => [i]) (br := fun x => 4 :: x ++ [5]) (nil' := []) (app' := (· ++ ·)) (name' := fun i => leafT i (kd i)) (br' := fun x => [40] ++ x ++ [41])
    rfl (textA_app kd) (fun i hi => by
      show (tokT kd i) ++ [] = _
      rw [List.append_nil]
      unfold tokT
      rw [if_neg (by omega), if_neg (by omega)]) (fun x => by
      rw [List.cons_append]
      show tokT kd 4 ++ textA kd (x ++ [5]) = _
      rw [textA_app]
      show tokT kd 4 ++ (textA kd x ++ (tokT kd 5 ++ [])) = _
      simp [tokT]) k b e lvl he
  show cl (agG _ _ _ _ dep sh k b e lvl) = _
  rw [a, b2]
theorem eqA_eq : ∀ {a b : List Nat}, eqA a b = true → a = b
  | [], [], _ => rfl
  | x :: a, y :: b, h => by
    unfold eqA at h
    have h1 := Bool.and_eq_true_iff.mp h
    rw [Nat.eq_of_beq_eq_true h1.1, eqA_eq h1.2]
theorem names4 {es : List (Nat × List Nat)} (h : namesA 0 es = true) : ∃ a0 a1 a2 a3, es = [(0, a0), (1, a1), (2, a2), (3, a3)] := by
  have step : ∀ {n : Nat} {es : List (Nat × List Nat)}, n < 4 → namesA n es = true → ∃ a r, es = (n, a) :: r ∧ namesA (n + 1) r = true := by
    intro n es hn h
    cases es with
    | nil =>
      have : n = 4 := Nat.eq_of_beq_eq_true h
      omega
    | cons e r =>
      unfold namesA at h
      have h1 := Bool.and_eq_true_iff.mp h
      have : e.1 = n := Nat.eq_of_beq_eq_true h1.1
      exact ⟨e.2, r, by rw [← this], h1.2⟩
  obtain ⟨a0, r0, rfl, h0⟩ := step (by decide) h
  obtain ⟨a1, r1, rfl, h1⟩ := step (by decide) h0
  obtain ⟨a2, r2, rfl, h2⟩ := step (by decide) h1
  obtain ⟨a3, r, rfl, h3⟩ := step (by decide) h2
  cases r with
  | nil => exact ⟨a0, a1, a2, a3, rfl⟩
  | cons e r =>
    unfold namesA at h3
    have h1 := Bool.and_eq_true_iff.mp h3
    have q : e.1 = 4 := Nat.eq_of_beq_eq_true h1.1
    exfalso
    have : ∀ (r : List (Nat × List Nat)) (n : Nat), 4 < n → namesA n r = false := by
      intro r
      induction r with
      | nil =>
        intro n hn
        show Nat.beq n 4 = false
        cases q : Nat.beq n 4 with
        | false => rfl
        | true => have := Nat.eq_of_beq_eq_true q; omega
      | cons e r ih =>
        intro n hn
        unfold namesA
        rw [ih (n + 1) (by omega), Bool.and_false]
    rw [this r 5 (by decide)] at h1
    cases h1.2
theorem thF_ok (d0 d1 d2 d3 : Int) (h0 : 0 ≤ d0) (h1 : 0 ≤ d1) (h2 : 0 ≤ d2) (h3 : 0 ≤ d3) : ThOk 4 (thF d0 d1 d2 d3 4) :=
  thStep_ok (thStep_ok (thStep_ok (thStep_ok (th0_ok d0 d1 d2 d3) h0) h1) h2) h3
structure LawF (w : World) (pl dr n0 n1 n2 n3 y0 y1 y2 y3 : Str) (l0 l1 l2 l3 : Nat) (c10 c20 c21 c30 c31 c32 : Int) (s10 s20 s21 s30 s31 s32 : Nat) : Prop where
  len : dr.length ≤ 100
  fin : escEnd false (cl dr) = false
  tab : TabOk (KK w.params) (stripF (cl dr))
  slen : (stripF (cl dr)).length ≤ 100 ∧ escEnd false (stripF (cl dr)) = false
  ents : (tabAt (stripF (cl dr)) (escs 0 false (stripF (cl dr))).length).2.2 = [(n0, y0), (n1, y1), (n2, y2), (n3, y3)]
  o0 : One w n0 y0 l0
  o1 : One w n1 y1 l1
  o2 : One w n2 y2 l2
  o3 : One w n3 y3 l3
  t10 : Two n1 y1 n0 y0 l1 l0 c10 s10
  t20 : Two n2 y2 n0 y0 l2 l0 c20 s20
  t21 : Two n2 y2 n1 y1 l2 l1 c21 s21
  t30 : Two n3 y3 n0 y0 l3 l0 c30 s30
  t31 : Two n3 y3 n1 y1 l3 l1 c31 s31
  t32 : Two n3 y3 n2 y2 l3 l2 c32 s32
  again : againS [n0, n1, n2, n3] [l0, l1, l2, l3] [[], [s10], [s20, s21], [s30, s31, s32]] 5 0 4 0 = pl
  bound : ∀ f b e lvl, (againS [n0, n1, n2, n3] [l0, l1, l2, l3] [[], [s10], [s20, s21], [s30, s31, s32]] f b e lvl).length ≤ 2000
theorem law_facts (w : World) (d0 d1 d2 d3 : Int) (h0 : 0 ≤ d0) (h1 : 0 ≤ d1) (h2 : 0 ≤ d2) (h3 : 0 ≤ d3) (P : Prop) (kont : ∀ n0 n1 n2 n3 y0 y1 y2 y3 l0 l1 l2 l3 c10 c20 c21 c30 c31 c32 s10 s20 s21 s30 s31 s32,
    LawF w (plainS d0 d1 d2 d3) (dressS d0 d1 d2 d3) n0 n1 n2 n3 y0 y1 y2 y3 l0 l1 l2 l3 c10 c20 c21 c30 c31 c32 s10 s20 s21 s30 s31 s32 → P) : P := by
  obtain ⟨ts, hg, ht⟩ := forest_text d0 d1 d2 d3 h0 h1 h2 h3
  have hD := (dressed_join (thF_dressed d0 d1 d2 d3 4)).end
  have hk := kinds_lt d0 d1 d2 d3
  have hT := (thF_ok d0 d1 d2 d3 h0 h1 h2 h3).snd
  generalize kinds d0 d1 d2 d3 = kd at ht hk
  change escEnd false (cl (dressS d0 d1 d2 d3)) = false ∧ stripF (cl (dressS d0 d1 d2 d3)) = cl (plainS d0 d1 d2 d3) at hD
  change cl (plainS d0 d1 d2 d3) = _ at ht
  have hdl : (dressS d0 d1 d2 d3).length ≤ 100 := by
    unfold dressS
    rw [join_len]
    omega
  generalize dressS d0 d1 d2 d3 = dr at *
  generalize plainS d0 d1 d2 d3 = pl at *
  unfold goodA at hg
  have g1 := Bool.and_eq_true_iff.mp hg
  have g2 := Bool.and_eq_true_iff.mp g1.1
  have g3 := Bool.and_eq_true_iff.mp g2.1
  have g4 := Bool.and_eq_true_iff.mp g3.1
  have hok := g4.1
  have hlen : ts.length < 20 := Nat.le_of_ble_eq_true g4.2
  obtain ⟨a0, a1, a2, a3, hes⟩ := names4 g3.2
  have hag := eqA_eq g1.2
  have hpa := g2.2
  have hte := tab_end hk hok hlen
  rw [hes] at hag hpa hte
  simp only [List.map_cons, List.map_nil] at hag hpa hte
  have hst : stripF (cl dr) = textA kd ts := by rw [hD.2, ht]
  have hag2 : againA [a0, a1, a2, a3] = agG [] (· ++ ·) (fun i => [i]) (fun x => 4 :: x ++ [5]) [a0.length, a1.length, a2.length, a3.length] [[], [preA a1 a0], [preA a2 a0, preA a2 a1], [preA a3 a0, preA a3 a1, preA a3 a2]] 5 0 4 0 := rfl
  rw [hag2] at hag
  unfold pairsA at hpa
  have p1 := Bool.and_eq_true_iff.mp hpa
  have p1' := Bool.and_eq_true_iff.mp p1.1
  have p2 := p1.2
  simp only [List.nil_append] at p2
  unfold pairsA at p2
  have p2 := Bool.and_eq_true_iff.mp p2
  have p2' := Bool.and_eq_true_iff.mp p2.1
  have p3 := p2.2
  simp only [List.cons_append, List.nil_append] at p3
  unfold pairsA at p3
  have p3 := Bool.and_eq_true_iff.mp p3
  have p3' := Bool.and_eq_true_iff.mp p3.1
  have p4 := p3.2
  simp only [List.cons_append, List.nil_append] at p4
  unfold pairsA at p4
  have p4 := Bool.and_eq_true_iff.mp p4
  have p4' := Bool.and_eq_true_iff.mp p4.1
  have q2 := List.all_eq_true.mp p2'.2
  have q3 := List.all_eq_true.mp p3'.2
  have q4 := List.all_eq_true.mp p4'.2
  have hw0 := p1'.1
  have hw1 := p2'.1
  have hw2 := p3'.1
  have hw3 := p4'.1
  have lt0 : 0 < 4 := by decide
  have lt1 : 1 < 4 := by decide
  have lt2 : 2 < 4 := by decide
  have lt3 : 3 < 4 := by decide
  refine kont _ _ _ _ _ _ _ _ _ _ _ _ _ _ _ _ _ _ _ _ _ _ _ _ ⟨hdl, hD.1, ?_, ?_, ?_, one_of w hk lt0 hw0, one_of w hk lt1 hw1, one_of w hk lt2 hw2, one_of w hk lt3 hw3,
    two_of hk lt1 lt0 (by decide) hw1 hw0 (q2 _ (by simp)), two_of hk lt2 lt0 (by decide) hw2 hw0 (q3 _ (by simp)), two_of hk lt2 lt1 (by decide) hw2 hw1 (q3 _ (by simp)), two_of hk lt3 lt0 (by decide) hw3 hw0 (q4 _ (by simp)), two_of hk lt3 lt1 (by decide) hw3 hw1 (q4 _ (by simp)), two_of hk lt3 lt2 (by decide) hw3 hw2 (q4 _ (by simp)), ?_, ?_⟩
  · rw [hst]; exact tab_ok hk hok hlen w
  · rw [hst]; exact text_ok hk hok hlen
  · rw [hst]; exact hte
  · refine str_ext ?_
    rw [agS_cl hk _ _ _ _ _ _ (Nat.le_refl 4), hag, ht]
  · intro f b e lvl
    have hn2 : ∀ t, t < 4 → (nmS kd t).length ≤ 2 := fun t h => (leaf_swap t h _ (hk t)).1
    have hd4 : ∀ k : Nat, [a0.length, a1.length, a2.length, a3.length].getD k 0 ≤ 4 := fun k => by
      match k with
      | 0 => exact way_len hw0
      | 1 => exact way_len hw1
      | 2 => exact way_len hw2
      | 3 => exact way_len hw3
      | k + 4 => exact Nat.zero_le _
    have hnl : ∀ k : Nat, ([nmS kd 0, nmS kd 1, nmS kd 2, nmS kd 3].getD k Str.empty).length ≤ 30 := fun k => by
      match k with
      | 0 => exact Nat.le_trans (hn2 0 lt0) (by decide)
      | 1 => exact Nat.le_trans (hn2 1 lt1) (by decide)
      | 2 => exact Nat.le_trans (hn2 2 lt2) (by decide)
      | 3 => exact Nat.le_trans (hn2 3 lt3) (by decide)
      | k + 4 => exact Nat.zero_le _
    have x1 := againS_len (names := [nmS kd 0, nmS kd 1, nmS kd 2, nmS kd 3]) (dep := [a0.length, a1.length, a2.length, a3.length]) (sh := [[], [preA a1 a0], [preA a2 a0, preA a2 a1], [preA a3 a0, preA a3 a1, preA a3 a2]]) (Nat.le_refl 4) hnl f b e lvl
    have x2 := sumW_le (dep := [a0.length, a1.length, a2.length, a3.length]) (Nat.le_refl 4) hd4 lvl (e - b) b
    refine Nat.le_trans x1 (Nat.le_trans x2 ?_)
    have : 4 - b ≤ 4 := Nat.sub_le _ _
    have := Nat.mul_le_mul_right (30 + 2 * 4) this
    omega


-- PART Keys
theorem lnKeys : True := by
  k_with_none
  k_with "call builtin:str.lower" => ((k_here; (with_reducible show wpAny _ _ (call (Value.builtin "str.lower") [Value.str _ _]) _ _ _); (refine SCL.lower (by omega) ?_); intro _))
  k_with "subscriptTail Name Slice str ref" => (((with_reducible show wpAny _ _ (subscriptTail _ (Expr.Slice none (some (Expr.BoolOp _ _ _)) none _) _ _) _ _ _); (with_reducible rename Fr _ _ _ _ => F'); (with_reducible rename News _ _ _ _ => N'); (first | refine slice_strN_nn_len (s := ⟨_, _, _, _, _⟩) F' N' ?_ | refine slice_strN_ns_len (s := ⟨_, _, _, _, _⟩) F' N' ?_); intro _ _ _ _ _ _))
  k_with "tb_start" => (((try (show wpAny _ _ _ _ _ _)); (try k_fold); (repeat' ((fail_if_success (with_reducible show InvEndN _ _ _ _ _ _ _)); first | (k_unfold; (try dsimp only)) | (k_end; wrow_close) | walk1 | (dsimp only; walk1) | (dsimp only; k_unfold; (try dsimp only)) | (leave1; walk_say "STEP leave1"; try dsimp only) | fail "no step")); (all_goals (try dsimp only))))
  k_with "ktr_unf" => (repeat' ((fail_if_success (with_reducible show InvEndN _ _ _ _ _ _ _)); (fail_if_success (with_reducible show wpAny _ _ (exec (Stmt.While _ _ _ _) _) _ _ _)); (fail_if_success (with_reducible show wpAny _ _ (exec (Stmt.For _ _ _ _ _) _) _ _ _)); (fail_if_success (with_reducible show wpAny _ _ (pyIter _) _ _ _)); first | (k_unfold; (try dsimp only)) | (k_end; wrow_close) | walk1 | (dsimp only; walk1) | (dsimp only; k_unfold; (try dsimp only)) | (leave1; walk_say "STEP leave1"; try dsimp only) | fail "no step"))
  k_with "tb_nf" => (((repeat' ((fail_if_success (with_reducible show InvEndN _ _ _ _ _ _ _)); first | (k_unfold; (try dsimp only)) | (k_end; wrow_close) | walk1 | (dsimp only; walk1) | (dsimp only; k_unfold; (try dsimp only)) | (leave1; walk_say "STEP leave1"; try dsimp only) | fail "no step")); (all_goals (try dsimp only))))
  trivial
/-! the table's names, by Headers.keys -/
theorem lnKeys_0 : True := by
  k_with "eval ListComp" => ((k_here; k_dflt ((with_reducible rename Fr _ _ _ _ => lF'); refine comp_sel (fun e => e.2.1) (.inl ⟨rfl, fun _ => rfl⟩) lF' (by with_unfolding_all rfl) (by decide) (by rfl) (by decide) (by rfl) (by rfl) (by decide) (fun _ => rfl) (fun _ => rfl) (by decide) (by with_unfolding_all rfl) ?_)))
  trivial
theorem keys_con (w : World) (loose : List Str) (mean : ExcName → Option Value) (mg mb : Str → Option Value) (led : List (Addr × Obj)) (H D R : Addr) (hsh : Int) (tkh : Tok) (nd n : Nat) (es : List (Addr × Value × Value)) (hel : es.length ≤ sizeLine)
   (hH : (H, instObj 209 D) ∈ led) (hD : (D, dictOf [⟨hsh, .str (Str.ofString "_headers") tkh, Value.ref R⟩] nd) ∈ led) (hR : (R, W.listOf (es.map fun e => Value.ref e.1).toArray n) ∈ led) (hT : ∀ e ∈ es, (e.1, pairObj e.2.1 e.2.2) ∈ led) :
   ∀ (dp un : Nat) (gd : Option (List Code)) (cn : Str) (cs : Scope) (ad : Addr) (ccd : Value) (cls : List (Str × Addr)) (outer : List Env) (A₀ : Around) (base h₀ : Heap) (L : Addr) (m : Str → Option Value) (s : Shared) (Q E : Value → Shared → Prop),
    Below A₀ base outer h₀ → Fr h₀ L s.heap m → (KK w.params).In h₀ → News h₀ L s.heap led → Top QQ loose mean mg mb h₀ → cs.kind = .function →
    dp + 5 < recursionLimit → un + 30 < cLine →
    (∀ (NM : Addr) (h' : Heap) (tk' : Nat), Fr h₀ L h' m → News h₀ L h' ((NM, W.listOf (es.map fun e => e.2.1).toArray es.length) :: led) → Q (.ref NM) ⟨h', s.gens, s.drawn, tk', s.os⟩) →
      wpAny (model PySem.Challenge.rw_sh0066_01.row.prog w) (ktrTop dp un gd cn cs L ad ccd cls outer) (call (.ref 161) [.ref H]) Q E s := by
  k_fill
  intro dp un gd cn cs ad ccd cls outer A₀ base h₀ L m s Q E B F X N T hk hdp hu hret
  have hret' : ∀ (NM : Addr) (h' : Heap) (tk' : Nat) (rest : List (Addr × Obj)), Fr h₀ L h' m → News h₀ L h' ((NM, W.listOf (es.map fun e => e.2.1).toArray es.length) :: rest) → (∀ p ∈ led, p ∈ rest) → Q (.ref NM) ⟨h', s.gens, s.drawn, tk', s.os⟩ := fun NM h' tk' rest F' N' hs => hret NM h' tk' F' fun p hp => by
    rcases List.mem_cons.mp hp with rfl | hp
    · exact N' _ (.head _)
    · exact N' _ (.tail _ (hs p hp))
  replace N : News h₀ L s.heap ((R, W.listOf (es.map fun e => Value.ref e.1).toArray n) :: (H, instObj 209 D) :: (D, dictOf [⟨hsh, .str (Str.ofString "_headers") tkh, Value.ref R⟩] nd) :: led) := fun p hp => by
    rcases List.mem_cons.mp hp with rfl | hp
    · exact N _ hR
    rcases List.mem_cons.mp hp with rfl | hp
    · exact N _ hH
    rcases List.mem_cons.mp hp with rfl | hp
    · exact N _ hD
    exact N p hp
  clear hret
  refine wpAny_call ?_
  k_dflt cell_enter
  rename_i g1 L1 h1 FG1 F1 N1 B1 X1 T1
  replace F1 := fr_bind F1 (l' := [(Str.ofString "self", Value.ref H)]) rfl
  show wpAny _ _ _ _ _ _
  tb_start
  rename Fr g1 L1 h1 _ => F2
  refine Hold.mk ⟨_, _, es, _, _, _, rfl, rfl, F2, N1, .head _, fun e he => .tail _ (.tail _ (.tail _ (hT e he))), hel, fun D2 h' tk' F' N' o => ?_⟩
  tb_start
  exact hret' _ _ _ _ (by assumption) (by assumption) fun p hp => .tail _ (.tail _ (.tail _ hp))


-- PART LawC
theorem lnLawC : True := by
  k_with_none
  trivial
/-! NOLINES the law's calls, by what the plain law tells -/
theorem execs_cutJ {M : Model} {A : Around} {E : Value → Shared → Prop} {s : Shared} {env : Env} (k : Nat) {l : List Stmt} {Q : Flow → Shared → Prop} (P : Shared → Prop) (h1 : ∀ J : Shared → Prop, (∀ s', P s' → J s') → wpAny M A (execs (l.take k) env) (fun f s' => match f with | .next => J s' | f => Q f s') E s)
    (h2 : ∀ s', P s' → wpAny M A (execs (l.drop k) env) Q E s') : wpAny M A (execs l env) Q E s := execs_cut k P (h1 P fun _ h => h) h2
section
variable {w : World} {pl dr n0 n1 n2 n3 y0 y1 y2 y3 : Str} {l0 l1 l2 l3 : Nat} {c10 c20 c21 c30 c31 c32 : Int} {s10 s20 s21 s30 s31 s32 : Nat} (LF : LawF w pl dr n0 n1 n2 n3 y0 y1 y2 y3 l0 l1 l2 l3 c10 c20 c21 c30 c31 c32 s10 s20 s21 s30 s31 s32)
  {loose : List Str} {mean : ExcName → Option Value} {mg mb : Str → Option Value} {led : List (Addr × Obj)} {WS NM DP PR CS P10 P20 P21 P30 P31 P32 : Addr} {kw kn kd kp kc : Nat} {a0 a1 a2 a3 b0 b1 b2 b3 u0 u1 u2 u3 i1 i2 i3 i4 i5 i6 j1 j2 j3 j4 j5 j6 t1 t2 t3 t4 t5 t6 : Tok}
noncomputable def PrsIn (led : List (Addr × Obj)) (P10 P20 P21 P30 P31 P32 : Addr) (i1 i2 i3 i4 i5 i6 j1 j2 j3 j4 j5 j6 : Tok) : Prop := (P10, pairObj (.int ((1 : Nat) : Int) i1) (.int ((0 : Nat) : Int) j1)) ∈ led ∧ (P20, pairObj (.int ((2 : Nat) : Int) i2) (.int ((0 : Nat) : Int) j2)) ∈ led ∧ (P21, pairObj (.int ((2 : Nat) : Int) i3) (.int ((1 : Nat) : Int) j3)) ∈ led ∧
  (P30, pairObj (.int ((3 : Nat) : Int) i4) (.int ((0 : Nat) : Int) j4)) ∈ led ∧ (P31, pairObj (.int ((3 : Nat) : Int) i5) (.int ((1 : Nat) : Int) j5)) ∈ led ∧ (P32, pairObj (.int ((3 : Nat) : Int) i6) (.int ((2 : Nat) : Int) j6)) ∈ led
include LF in
theorem moved_law (hW : (WS, W.listOf #[.str y0 b0, .str y1 b1, .str y2 b2, .str y3 b3] kw) ∈ led) :
   ∀ (dp un : Nat) (gd : Option (List Code)) (cn : Str) (cs : Scope) (ad : Addr) (ccd : Value) (cls : List (Str × Addr)) (outer : List Env) (A₀ : Around) (base h₀ : Heap) (L : Addr) (m : Str → Option Value) (s : Shared) (Q E : Value → Shared → Prop),
    Below A₀ base outer h₀ → Fr h₀ L s.heap m → (KK w.params).In h₀ → News h₀ L s.heap led → Top QQ loose mean mg mb h₀ → cs.kind = .function →
    dp + 6 < recursionLimit → un + 200 < cLine →
    (∀ (h' : Heap) (tk' : Nat), Fr h₀ L h' m → News h₀ L h' led → Q (.bool true) { s with heap := h', toks := tk' }) →
      wpAny (model PySem.Challenge.rw_sh0066_01.row.prog w) (ktrTop dp un gd cn cs L ad ccd cls outer) (call (.ref 251) [.ref WS]) Q E s :=
  moved_con w loose mean mg mb led WS kw [.str y0 b0, .str y1 b1, .str y2 b2, .str y3 b3] [y0, y1, y2, y3] (.cons _ _ (.cons _ _ (.cons _ _ (.cons _ _ .nil)))) (fun y hy => by
    simp only [List.mem_cons, List.not_mem_nil, or_false] at hy
    rcases hy with rfl | rfl | rfl | rfl
    · exact ⟨Nat.le_trans (LF.o0.ylen ▸ LF.o0.l4) (by decide), LF.o0.one, LF.o0.two⟩
    · exact ⟨Nat.le_trans (LF.o1.ylen ▸ LF.o1.l4) (by decide), LF.o1.one, LF.o1.two⟩
    · exact ⟨Nat.le_trans (LF.o2.ylen ▸ LF.o2.l4) (by decide), LF.o2.one, LF.o2.two⟩
    · exact ⟨Nat.le_trans (LF.o3.ylen ▸ LF.o3.l4) (by decide), LF.o3.one, LF.o3.two⟩) hW
include LF in
theorem firm_law (hW : (WS, W.listOf #[.str y0 b0, .str y1 b1, .str y2 b2, .str y3 b3] kw) ∈ led) (hP : (PR, W.listOf #[.ref P10, .ref P20, .ref P21, .ref P30, .ref P31, .ref P32] kp) ∈ led)
    (hC : (CS, W.listOf #[.int c10 t1, .int c20 t2, .int c21 t3, .int c30 t4, .int c31 t5, .int c32 t6] kc) ∈ led) (hPs : PrsIn led P10 P20 P21 P30 P31 P32 i1 i2 i3 i4 i5 i6 j1 j2 j3 j4 j5 j6) :
   ∀ (dp un : Nat) (gd : Option (List Code)) (cn : Str) (cs : Scope) (ad : Addr) (ccd : Value) (cls : List (Str × Addr)) (outer : List Env) (A₀ : Around) (base h₀ : Heap) (L : Addr) (m : Str → Option Value) (s : Shared) (Q E : Value → Shared → Prop),
    Below A₀ base outer h₀ → Fr h₀ L s.heap m → (KK w.params).In h₀ → News h₀ L s.heap led → Top QQ loose mean mg mb h₀ → cs.kind = .function →
    dp + 6 < recursionLimit → un + 200 < cLine →
    (∀ (h' : Heap) (tk' : Nat), Fr h₀ L h' m → News h₀ L h' led → Q (.bool true) { s with heap := h', toks := tk' }) →
      wpAny (model PySem.Challenge.rw_sh0066_01.row.prog w) (ktrTop dp un gd cn cs L ad ccd cls outer) (call (.ref 246) [.ref WS, .ref PR, .ref CS]) Q E s :=
  firm_con w loose mean mg mb led WS PR CS kw kp kc [.str y0 b0, .str y1 b1, .str y2 b2, .str y3 b3] [y0, y1, y2, y3] [(P10, 1, 0, c10), (P20, 2, 0, c20), (P21, 2, 1, c21), (P30, 3, 0, c30), (P31, 3, 1, c31), (P32, 3, 2, c32)]
    [.int c10 t1, .int c20 t2, .int c21 t3, .int c30 t4, .int c31 t5, .int c32 t6] (.cons _ _ (.cons _ _ (.cons _ _ (.cons _ _ .nil)))) (fun k => by
      match k with
      | 0 => exact Nat.le_trans (LF.o0.ylen ▸ LF.o0.l4) (by decide)
      | 1 => exact Nat.le_trans (LF.o1.ylen ▸ LF.o1.l4) (by decide)
      | 2 => exact Nat.le_trans (LF.o2.ylen ▸ LF.o2.l4) (by decide)
      | 3 => exact Nat.le_trans (LF.o3.ylen ▸ LF.o3.l4) (by decide)
      | k + 4 => exact Nat.zero_le _) (.cons _ _ (.cons _ _ (.cons _ _ (.cons _ _ (.cons _ _ (.cons _ _ .nil)))))) (fun e he => by
      obtain ⟨p1, p2, p3, p4, p5, p6⟩ := hPs
      simp only [List.mem_cons, List.not_mem_nil, or_false] at he
      rcases he with rfl | rfl | rfl | rfl | rfl | rfl
      · exact ⟨⟨_, _, p1⟩, (by decide : 1 < 4), (by decide : 0 < 4), LF.t10.back, LF.t10.less⟩
      · exact ⟨⟨_, _, p2⟩, (by decide : 2 < 4), (by decide : 0 < 4), LF.t20.back, LF.t20.less⟩
      · exact ⟨⟨_, _, p3⟩, (by decide : 2 < 4), (by decide : 1 < 4), LF.t21.back, LF.t21.less⟩
      · exact ⟨⟨_, _, p4⟩, (by decide : 3 < 4), (by decide : 0 < 4), LF.t30.back, LF.t30.less⟩
      · exact ⟨⟨_, _, p5⟩, (by decide : 3 < 4), (by decide : 1 < 4), LF.t31.back, LF.t31.less⟩
      · exact ⟨⟨_, _, p6⟩, (by decide : 3 < 4), (by decide : 2 < 4), LF.t32.back, LF.t32.less⟩) (by show 4 ≤ 100; decide) hW hP hC
include LF in
theorem common_law (hN : (NM, W.listOf #[.str n0 a0, .str n1 a1, .str n2 a2, .str n3 a3] kn) ∈ led) (hD : (DP, W.listOf #[.int (l0 : Int) u0, .int (l1 : Int) u1, .int (l2 : Int) u2, .int (l3 : Int) u3] kd) ∈ led) (hP : (PR, W.listOf #[.ref P10, .ref P20, .ref P21, .ref P30, .ref P31, .ref P32] kp) ∈ led)
    (hC : (CS, W.listOf #[.int c10 t1, .int c20 t2, .int c21 t3, .int c30 t4, .int c31 t5, .int c32 t6] kc) ∈ led) (hPs : PrsIn led P10 P20 P21 P30 P31 P32 i1 i2 i3 i4 i5 i6 j1 j2 j3 j4 j5 j6) :
   ∀ (dp un : Nat) (gd : Option (List Code)) (cn : Str) (cs : Scope) (ad : Addr) (ccd : Value) (cls : List (Str × Addr)) (outer : List Env) (A₀ : Around) (base h₀ : Heap) (L : Addr) (m : Str → Option Value) (s : Shared) (Q E : Value → Shared → Prop),
    Below A₀ base outer h₀ → Fr h₀ L s.heap m → (KK w.params).In h₀ → News h₀ L s.heap led → Top QQ loose mean mg mb h₀ → cs.kind = .function →
    dp + 6 < recursionLimit → un + 200 < cLine →
    (∀ (CM : Addr) (cm : List Value) (n : Nat) (h' : Heap) (tk' : Nat), IntsAre cm [(s10 : Int), (s20 : Int), (s21 : Int), (s30 : Int), (s31 : Int), (s32 : Int)] → Fr h₀ L h' m → News h₀ L h' ((CM, W.listOf cm.toArray n) :: led) → Q (.ref CM) { s with heap := h', toks := tk' }) →
      wpAny (model PySem.Challenge.rw_sh0066_01.row.prog w) (ktrTop dp un gd cn cs L ad ccd cls outer) (call (.ref 258) [.ref NM, .ref DP, .ref PR, .ref CS]) Q E s :=
  common_con w loose mean mg mb led NM DP PR CS kn kd kp kc [.str n0 a0, .str n1 a1, .str n2 a2, .str n3 a3] [.int (l0 : Int) u0, .int (l1 : Int) u1, .int (l2 : Int) u2, .int (l3 : Int) u3] [n0, n1, n2, n3] [l0, l1, l2, l3]
    [(P10, 1, 0, c10, s10), (P20, 2, 0, c20, s20), (P21, 2, 1, c21, s21), (P30, 3, 0, c30, s30), (P31, 3, 1, c31, s31), (P32, 3, 2, c32, s32)]
    [.int c10 t1, .int c20 t2, .int c21 t3, .int c30 t4, .int c31 t5, .int c32 t6] (.cons _ _ (.cons _ _ (.cons _ _ (.cons _ _ .nil)))) (.cons _ _ (.cons _ _ (.cons _ _ (.cons _ _ .nil)))) (fun k => by
      match k with
      | 0 => exact Nat.le_trans LF.o0.nlen (by decide)
      | 1 => exact Nat.le_trans LF.o1.nlen (by decide)
      | 2 => exact Nat.le_trans LF.o2.nlen (by decide)
      | 3 => exact Nat.le_trans LF.o3.nlen (by decide)
      | k + 4 => exact Nat.zero_le _) (fun k => by
      match k with
      | 0 => exact Nat.le_trans LF.o0.l4 (by decide)
      | 1 => exact Nat.le_trans LF.o1.l4 (by decide)
      | 2 => exact Nat.le_trans LF.o2.l4 (by decide)
      | 3 => exact Nat.le_trans LF.o3.l4 (by decide)
      | k + 4 => exact Nat.zero_le _) (.cons _ _ (.cons _ _ (.cons _ _ (.cons _ _ (.cons _ _ (.cons _ _ .nil)))))) (fun e he => by
      obtain ⟨p1, p2, p3, p4, p5, p6⟩ := hPs
      simp only [List.mem_cons, List.not_mem_nil, or_false] at he
      rcases he with rfl | rfl | rfl | rfl | rfl | rfl
      · exact ⟨⟨_, _, p1⟩, (by decide : 1 < 4), (by decide : 0 < 4), ⟨LF.t10.lo, LF.t10.hi⟩, LF.t10.same, LF.t10.diff⟩
      · exact ⟨⟨_, _, p2⟩, (by decide : 2 < 4), (by decide : 0 < 4), ⟨LF.t20.lo, LF.t20.hi⟩, LF.t20.same, LF.t20.diff⟩
      · exact ⟨⟨_, _, p3⟩, (by decide : 2 < 4), (by decide : 1 < 4), ⟨LF.t21.lo, LF.t21.hi⟩, LF.t21.same, LF.t21.diff⟩
      · exact ⟨⟨_, _, p4⟩, (by decide : 3 < 4), (by decide : 0 < 4), ⟨LF.t30.lo, LF.t30.hi⟩, LF.t30.same, LF.t30.diff⟩
      · exact ⟨⟨_, _, p5⟩, (by decide : 3 < 4), (by decide : 1 < 4), ⟨LF.t31.lo, LF.t31.hi⟩, LF.t31.same, LF.t31.diff⟩
      · exact ⟨⟨_, _, p6⟩, (by decide : 3 < 4), (by decide : 2 < 4), ⟨LF.t32.lo, LF.t32.hi⟩, LF.t32.same, LF.t32.diff⟩) rfl (show 4 ≤ 100 by decide) (show 6 ≤ 100 by decide) hN hD hP hC
include LF in
theorem again_law {SH S0 S1 S2 S3 : Addr} {ks k0 k1 k2 k3 : Nat} {v1 v2 v3 v4 v5 v6 : Tok} (hN : (NM, W.listOf #[.str n0 a0, .str n1 a1, .str n2 a2, .str n3 a3] kn) ∈ led) (hD : (DP, W.listOf #[.int (l0 : Int) u0, .int (l1 : Int) u1, .int (l2 : Int) u2, .int (l3 : Int) u3] kd) ∈ led)
    (hS : (SH, W.listOf #[.ref S0, .ref S1, .ref S2, .ref S3] ks) ∈ led) (h0 : (S0, W.listOf #[] k0) ∈ led) (h1 : (S1, W.listOf #[.int (s10 : Int) v1] k1) ∈ led) (h2 : (S2, W.listOf #[.int (s20 : Int) v2, .int (s21 : Int) v3] k2) ∈ led) (h3 : (S3, W.listOf #[.int (s30 : Int) v4, .int (s31 : Int) v5, .int (s32 : Int) v6] k3) ∈ led) (tb te tl : Tok) :
   ∀ (dp un : Nat) (gd : Option (List Code)) (cn : Str) (cs : Scope) (ad : Addr) (ccd : Value) (cls : List (Str × Addr)) (outer : List Env) (A₀ : Around) (base h₀ : Heap) (L : Addr) (m : Str → Option Value) (s : Shared) (Q E : Value → Shared → Prop),
    Below A₀ base outer h₀ → Fr h₀ L s.heap m → (KK w.params).In h₀ → News h₀ L s.heap led → Top QQ loose mean mg mb h₀ → cs.kind = .function →
    dp + 10 < recursionLimit → un + 60 < cLine →
    (∀ (t : Tok) (h' : Heap) (tk' : Nat), Fr h₀ L h' m → News h₀ L h' led → Q (.str pl t) { s with heap := h', toks := tk' }) →
      wpAny (model PySem.Challenge.rw_sh0066_01.row.prog w) (ktrTop dp un gd cn cs L ad ccd cls outer) (call (.ref 239) [.ref NM, .ref DP, .ref SH, .int 0 tb, .int 4 te, .int 0 tl]) Q E s := by
  have A := again_con w loose mean mg mb led NM DP SH kn kd ks [.str n0 a0, .str n1 a1, .str n2 a2, .str n3 a3] [.int (l0 : Int) u0, .int (l1 : Int) u1, .int (l2 : Int) u2, .int (l3 : Int) u3] [n0, n1, n2, n3] [l0, l1, l2, l3] [S0, S1, S2, S3] [[], [s10], [s20, s21], [s30, s31, s32]]
    hN (.cons _ _ (.cons _ _ (.cons _ _ (.cons _ _ .nil)))) hD (.cons _ _ (.cons _ _ (.cons _ _ (.cons _ _ .nil)))) hS (fun k hk => by
      match k, hk with
      | 0, _ => exact ⟨[], k0, h0, .nil, rfl⟩
      | 1, _ => exact ⟨[_], k1, h1, .cons _ _ .nil, rfl⟩
      | 2, _ => exact ⟨[_, _], k2, h2, .cons _ _ (.cons _ _ .nil), rfl⟩
      | 3, _ => exact ⟨[_, _, _], k3, h3, .cons _ _ (.cons _ _ (.cons _ _ .nil)), rfl⟩) rfl rfl rfl (fun k => by
      match k with
      | 0 => exact Nat.le_trans LF.o0.nlen (by decide)
      | 1 => exact Nat.le_trans LF.o1.nlen (by decide)
      | 2 => exact Nat.le_trans LF.o2.nlen (by decide)
      | 3 => exact Nat.le_trans LF.o3.nlen (by decide)
      | k + 4 => exact Nat.zero_le _) LF.bound 4
  intro dp un gd cn cs ad ccd cls outer A₀ base h₀ L m s Q E B F X N T hk hd hu hret
  refine A 0 4 0 tb te tl (by decide) (by decide) (fun x hx => ?_) (by decide) dp un gd cn cs ad ccd cls outer A₀ base h₀ L m s Q E B F X N T hk (by omega) (by omega) fun t h' tk' F' N' => ?_
  · simp only [List.mem_cons, List.not_mem_nil, or_false] at hx
    rcases hx with rfl | rfl | rfl | rfl
    · exact Nat.le_trans LF.o0.l4 (by decide)
    · exact Nat.le_trans LF.o1.l4 (by decide)
    · exact Nat.le_trans LF.o2.l4 (by decide)
    · exact Nat.le_trans LF.o3.l4 (by decide)
  · rw [LF.again]
    exact hret t h' tk' F' N'
end


-- PART Law
theorem lnLaw : True := by
  k_with_none
  k_with "call builtin:str.lower" => ((k_here; (with_reducible show wpAny _ _ (call (Value.builtin "str.lower") [Value.str _ _]) _ _ _); (refine SCL.lower (by omega) ?_); intro _))
  k_with "subscriptTail Name Slice str ref" => (((with_reducible show wpAny _ _ (subscriptTail _ (Expr.Slice none (some (Expr.BoolOp _ _ _)) none _) _ _) _ _ _); (with_reducible rename Fr _ _ _ _ => F'); (with_reducible rename News _ _ _ _ => N'); (first | refine slice_strN_nn_len (s := ⟨_, _, _, _, _⟩) F' N' ?_ | refine slice_strN_ns_len (s := ⟨_, _, _, _, _⟩) F' N' ?_); intro _ _ _ _ _ _))
  k_with "tb_start" => (((try (show wpAny _ _ _ _ _ _)); (try k_fold); (repeat' ((fail_if_success (with_reducible show InvEndN _ _ _ _ _ _ _)); first | (k_unfold; (try dsimp only)) | (k_end; wrow_close) | walk1 | (dsimp only; walk1) | (dsimp only; k_unfold; (try dsimp only)) | (leave1; walk_say "STEP leave1"; try dsimp only) | fail "no step")); (all_goals (try dsimp only))))
  k_with "ktr_unf" => (repeat' ((fail_if_success (with_reducible show InvEndN _ _ _ _ _ _ _)); (fail_if_success (with_reducible show wpAny _ _ (exec (Stmt.While _ _ _ _) _) _ _ _)); (fail_if_success (with_reducible show wpAny _ _ (exec (Stmt.For _ _ _ _ _) _) _ _ _)); (fail_if_success (with_reducible show wpAny _ _ (pyIter _) _ _ _)); first | (k_unfold; (try dsimp only)) | (k_end; wrow_close) | walk1 | (dsimp only; walk1) | (dsimp only; k_unfold; (try dsimp only)) | (leave1; walk_say "STEP leave1"; try dsimp only) | fail "no step"))
  k_with "tb_nf" => (((repeat' ((fail_if_success (with_reducible show InvEndN _ _ _ _ _ _ _)); first | (k_unfold; (try dsimp only)) | (k_end; wrow_close) | walk1 | (dsimp only; walk1) | (dsimp only; k_unfold; (try dsimp only)) | (leave1; walk_say "STEP leave1"; try dsimp only) | fail "no step")); (all_goals (try dsimp only))))
  trivial
theorem no_cell {xs : Array Value} {n : Nat} (y : Option Value) : Data.seq xs n ≠ Data.cell y := fun q => nomatch q
theorem int_inv {ds : List Value} {x : Int} {l : List Int} (P : List Value → Prop) (h : IntsAre ds (x :: l)) (k : ∀ t ds', IntsAre ds' l → P (.int x t :: ds')) : P ds := by
  cases h with
  | cons _ t h => exact k t _ h
theorem int_inv0 {ds : List Value} (P : List Value → Prop) (h : IntsAre ds []) (k : P []) : P ds := by
  cases h with
  | nil => exact k
theorem ent_inv {es : List (Addr × Value × Value)} {x y : Str} {l : List (Str × Str)} (P : List (Addr × Value × Value) → Prop) (h : EntsAre es ((x, y) :: l)) (k : ∀ T a b es', EntsAre es' l → P ((T, .str x a, .str y b) :: es')) : P es := by
  cases h with
  | cons T _ _ a b h => exact k T a b _ h
theorem ent_inv0 {es : List (Addr × Value × Value)} (P : List (Addr × Value × Value) → Prop) (h : EntsAre es []) (k : P []) : P es := by
  cases h with
  | nil => exact k
structure Bnd (d0 d1 d2 d3 : Int) : Prop where
  h0 : 0 ≤ d0 ∧ d0 ≤ 100000000
  h1 : 0 ≤ d1 ∧ d1 ≤ 100000000
  h2 : 0 ≤ d2 ∧ d2 ≤ 100000000
  h3 : 0 ≤ d3 ∧ d3 ≤ 100000000
theorem list4 {α : Type} (P : List α → Prop) {l : List α} (h : l.length = 4) (k : ∀ a b c d, P [a, b, c, d]) : P l := match l, h with
  | [a, b, c, d], _ => k a b c d
theorem ints4 {ds : List Value} {d : List Int} (P : List Value → Prop) (h : IntsAre ds d) (h4 : d.length = 4) (hb : ∀ x ∈ d, 0 ≤ x ∧ x ≤ 100000000) (k : ∀ d0 d1 d2 d3 t0 t1 t2 t3, Bnd d0 d1 d2 d3 → P [.int d0 t0, .int d1 t1, .int d2 t2, .int d3 t3]) : P ds := by
  revert h hb
  refine list4 (fun d => IntsAre ds d → (∀ x ∈ d, 0 ≤ x ∧ x ≤ 100000000) → P ds) h4 fun d0 d1 d2 d3 h hb => ?_
  exact int_inv P h fun t0 _ h => int_inv (fun r => P (_ :: r)) h fun t1 _ h => int_inv (fun r => P (_ :: _ :: r)) h fun t2 _ h => int_inv (fun r => P (_ :: _ :: _ :: r)) h fun t3 _ h => int_inv0 (fun r => P (_ :: _ :: _ :: _ :: r)) h
    (k _ _ _ _ _ _ _ _ ⟨hb _ (.head _), hb _ (.tail _ (.head _)), hb _ (.tail _ (.tail _ (.head _))), hb _ (.tail _ (.tail _ (.tail _ (.head _))))⟩)
theorem ents4 {es : List (Addr × Value × Value)} {n0 n1 n2 n3 y0 y1 y2 y3 : Str} (P : List (Addr × Value × Value) → Prop) (h : EntsAre es [(n0, y0), (n1, y1), (n2, y2), (n3, y3)])
    (k : ∀ T0 T1 T2 T3 a0 a1 a2 a3 b0 b1 b2 b3, P [(T0, .str n0 a0, .str y0 b0), (T1, .str n1 a1, .str y1 b1), (T2, .str n2 a2, .str y2 b2), (T3, .str n3 a3, .str y3 b3)]) : P es :=
  ent_inv P h fun T0 a0 b0 _ h => ent_inv (fun r => P (_ :: r)) h fun T1 a1 b1 _ h => ent_inv (fun r => P (_ :: _ :: r)) h fun T2 a2 b2 _ h => ent_inv (fun r => P (_ :: _ :: _ :: r)) h fun T3 a3 b3 _ h => ent_inv0 (fun r => P (_ :: _ :: _ :: _ :: r)) h (k _ _ _ _ _ _ _ _ _ _ _ _)
/-- an object that is no cell stands off the cells -/
theorem off_cell {h₀ h : Heap} {L a c : Addr} {o oc : Obj} {x : Option Value} {led : List (Addr × Obj)} (N : News h₀ L h led) (h1 : (a, o) ∈ led) (h2 : (c, oc) ∈ led) (hc : oc.data = .cell x) (ho : ∀ y, o.data ≠ .cell y) : a ≠ c := fun e => by
  subst e
  have e1 := (N _ h1).1
  have e2 := (N _ h2).1
  rw [e1] at e2
  cases e2
  exact ho _ hc
theorem law_n1 {g h : Heap} {L : Addr} {x a b c d : Addr × Obj} (N : News g L h [x, a, b, c, d]) : News g L h [d, c, b, a] :=
  List.forall_mem_cons.mpr ⟨N _ (.tail _ (.tail _ (.tail _ (.tail _ (.head _))))), List.forall_mem_cons.mpr ⟨N _ (.tail _ (.tail _ (.tail _ (.head _)))), List.forall_mem_cons.mpr ⟨N _ (.tail _ (.tail _ (.head _))), List.forall_mem_cons.mpr ⟨N _ (.tail _ (.head _)), fun _ h => nomatch h⟩⟩⟩⟩
theorem lnLaw_0 : True := by
  k_with "call ref" => ((k_here; k_dflt ((show wpAny _ _ (call (Value.ref 220) _) _ _ _); (refine' draws_con _ _ _ _ _ _ _ _ _ ?hI ?hl _ _ _ _ _ _ _ _ _ _ _ _ _ _ _ _ _ ?B ?F ?X ?N ?T ?kk ?kd ?ku ?S ?_); (case S => assumption); (case hI => with_reducible assumption); (case hl => (have hLen9 := IntsAre.length (by with_reducible assumption)); omega); (case B => k_asm); (case F => k_asm); (case X => k_asm); (case N => k_asm); (case T => k_asm); (case kk => first | exact rfl | assumption); (case kd => decide); (case ku => decide); intro D9 n9 ds9 d9 h9 tk9 hds9 hd9 hb9 F9 N9; revert N9; refine ints4 (fun ds => News _ _ _ ((_, W.listOf ds.toArray _) :: _) → _) hds9 hd9 hb9 ?_; clear hds9 hd9 hb9; intro d0 d1 d2 d3 t0 t1 t2 t3 hB9 N9; (try dsimp only))))
  k_with "call ref" => ((k_here; k_dflt ((show wpAny _ _ (call (Value.ref 225) _) _ _ _); (refine' forest_con _ _ _ _ _ _ _ _ _ _ _ _ _ _ _ _ ?h0 ?h1 ?h2 ?h3 _ _ _ _ _ _ _ _ _ _ _ _ _ _ _ _ _ ?B ?F ?X ?N ?T ?kk ?kd ?ku ?_); (case B => k_asm); (case F => k_asm); (case X => k_asm); (case N => k_asm); (case T => k_asm); (case h0 => exact (by with_reducible assumption : Bnd _ _ _ _).h0); (case h1 => exact (by with_reducible assumption : Bnd _ _ _ _).h1); (case h2 => exact (by with_reducible assumption : Bnd _ _ _ _).h2); (case h3 => exact (by with_reducible assumption : Bnd _ _ _ _).h3); (case kk => first | exact rfl | assumption); (case kd => decide); (case ku => decide); intro T9 tp9 tq9 h9 tk9 F9 N9; (try dsimp only))))
  trivial
noncomputable abbrev tabLed (L H R D T0 T1 T2 T3 : Addr) (n0 n1 n2 n3 y0 y1 y2 y3 : Str) (a0 a1 a2 a3 b0 b1 b2 b3 : Tok) (hsh : Int) (tkh : Tok) (nd n : Nat) (o2 o3 o4 : Obj) : List (Addr × Obj) :=
  [(H, instObj 209 D), (D, dictOf [⟨hsh, .str (Str.ofString "_headers") tkh, Value.ref R⟩] nd), (R, W.listOf #[.ref T0, .ref T1, .ref T2, .ref T3] n),
    (T0, pairObj (.str n0 a0) (.str y0 b0)), (T1, pairObj (.str n1 a1) (.str y1 b1)), (T2, pairObj (.str n2 a2) (.str y2 b2)), (T3, pairObj (.str n3 a3) (.str y3 b3)), (L + 1 + 1, o2), (L + 1 + 1 + 1, o3), (L + 1 + 1 + 1 + 1, o4)]
theorem tab_sub {H R D T0 T1 T2 T3 L : Addr} {n0 n1 n2 n3 y0 y1 y2 y3 : Str} {a0 a1 a2 a3 b0 b1 b2 b3 : Tok} {hsh : Int} {tkh : Tok} {nd : Nat} {o1 o2 o3 o4 oR : Obj} {lr : List (Addr × Obj)} (hH : (H, instObj 209 D) ∈ lr) (hD : (D, dictOf [⟨hsh, .str (Str.ofString "_headers") tkh, Value.ref R⟩] nd) ∈ lr)
    (hT : ∀ e ∈ [(T0, Value.str n0 a0, Value.str y0 b0), (T1, .str n1 a1, .str y1 b1), (T2, .str n2 a2, .str y2 b2), (T3, .str n3 a3, .str y3 b3)], (e.1, pairObj e.2.1 e.2.2) ∈ lr) (hn : ∀ p ∈ [(L + 1, o1), (L + 1 + 1, o2), (L + 1 + 1 + 1, o3), (L + 1 + 1 + 1 + 1, o4)], p ∈ lr) :
    ∀ p ∈ (L + 1, o1) :: (H, instObj 209 D) :: (D, dictOf [⟨hsh, .str (Str.ofString "_headers") tkh, Value.ref R⟩] nd) :: (R, oR) :: (T0, pairObj (.str n0 a0) (.str y0 b0)) :: (T1, pairObj (.str n1 a1) (.str y1 b1)) :: (T2, pairObj (.str n2 a2) (.str y2 b2)) :: (T3, pairObj (.str n3 a3) (.str y3 b3)) :: [(L + 1 + 1, o2), (L + 1 + 1 + 1, o3), (L + 1 + 1 + 1 + 1, o4)], p ∈ (R, oR) :: lr := by
  have hn := List.forall_mem_cons.mp hn
  have hT := List.forall_mem_cons.mp hT
  have hT2 := List.forall_mem_cons.mp hT.2
  have hT3 := List.forall_mem_cons.mp hT2.2
  have hT4 := List.forall_mem_cons.mp hT3.2
  exact List.forall_mem_cons.mpr ⟨.tail _ hn.1, List.forall_mem_cons.mpr ⟨.tail _ hH, List.forall_mem_cons.mpr ⟨.tail _ hD, List.forall_mem_cons.mpr ⟨.head _, List.forall_mem_cons.mpr ⟨.tail _ hT.1, List.forall_mem_cons.mpr ⟨.tail _ hT2.1, List.forall_mem_cons.mpr ⟨.tail _ hT3.1, List.forall_mem_cons.mpr ⟨.tail _ hT4.1, fun p hp => .tail _ (hn.2 p hp)⟩⟩⟩⟩⟩⟩⟩⟩
noncomputable def OffAll (c : Addr) (l : List (Addr × Obj)) : Prop := ∀ p ∈ l, p.1 ≠ c
theorem off_all {h₀ h : Heap} {L c : Addr} {oc : Obj} {x : Option Value} {led : List (Addr × Obj)} (N : News h₀ L h ((c, oc) :: led)) (hc : oc.data = .cell x) (ho : ∀ p ∈ led, p.1 ≠ c ∨ ∀ y, p.2.data ≠ .cell y) : OffAll c led := fun p hp => by
  rcases ho p hp with h | h
  · exact h
  · exact off_cell N (.tail _ hp) (.head _) hc h
theorem tab_led (P : Prop) {g h : Heap} {L H R D : Addr} {o1 o2 o3 o4 : Obj} {hsh : Int} {tkh : Tok} {nd n : Nat} {es : List (Addr × Value × Value)} {lr : List (Addr × Obj)} {n0 n1 n2 n3 y0 y1 y2 y3 : Str} {X : List (Str × Str)} (hX : X = [(n0, y0), (n1, y1), (n2, y2), (n3, y3)]) (hc : o1.data = .cell none) (hes : EntsAre es X)
    (N : News g L h ((R, W.listOf (es.map fun e => Value.ref e.1).toArray n) :: lr)) (hH : (H, instObj 209 D) ∈ lr) (hD : (D, dictOf [⟨hsh, .str (Str.ofString "_headers") tkh, Value.ref R⟩] nd) ∈ lr) (hT : ∀ e ∈ es, (e.1, pairObj e.2.1 e.2.2) ∈ lr)
    (hn : ∀ p ∈ [(L + 1, o1), (L + 1 + 1, o2), (L + 1 + 1 + 1, o3), (L + 1 + 1 + 1 + 1, o4)], p ∈ lr) (k : ∀ T0 T1 T2 T3 a0 a1 a2 a3 b0 b1 b2 b3,
    News g L h ((L + 1, o1) :: tabLed L H R D T0 T1 T2 T3 n0 n1 n2 n3 y0 y1 y2 y3 a0 a1 a2 a3 b0 b1 b2 b3 hsh tkh nd n o2 o3 o4) → OffAll (L + 1) (tabLed L H R D T0 T1 T2 T3 n0 n1 n2 n3 y0 y1 y2 y3 a0 a1 a2 a3 b0 b1 b2 b3 hsh tkh nd n o2 o3 o4) → P) : P := by
  subst hX
  revert N hT
  refine ents4 (fun es => News g L h ((R, W.listOf (es.map fun e => Value.ref e.1).toArray n) :: lr) → (∀ e ∈ es, (e.1, pairObj e.2.1 e.2.2) ∈ lr) → P) hes fun T0 T1 T2 T3 a0 a1 a2 a3 b0 b1 b2 b3 N hT => ?_
  have N' : News g L h ((L + 1, o1) :: tabLed L H R D T0 T1 T2 T3 n0 n1 n2 n3 y0 y1 y2 y3 a0 a1 a2 a3 b0 b1 b2 b3 hsh tkh nd n o2 o3 o4) := fun p hp => N p (tab_sub hH hD hT hn p hp)
  have e1 : ∀ L k : Nat, L + 1 + k + 1 ≠ L + 1 := fun L k => by omega
  have nc : ∀ {p : Addr × Obj}, (∀ y, p.2.data ≠ .cell y) → p.1 ≠ L + 1 ∨ ∀ y, p.2.data ≠ .cell y := .inr
  refine k _ _ _ _ _ _ _ _ _ _ _ _ N' (off_all N' hc ?_)
  exact List.forall_mem_cons.mpr ⟨nc (fun _ q => nomatch q), List.forall_mem_cons.mpr ⟨nc (fun _ q => nomatch q), List.forall_mem_cons.mpr ⟨nc (fun _ q => nomatch q), List.forall_mem_cons.mpr ⟨nc (fun _ q => nomatch q), List.forall_mem_cons.mpr ⟨nc (fun _ q => nomatch q), List.forall_mem_cons.mpr ⟨nc (fun _ q => nomatch q), List.forall_mem_cons.mpr ⟨nc (fun _ q => nomatch q),
    List.forall_mem_cons.mpr ⟨.inl (e1 L 0), List.forall_mem_cons.mpr ⟨.inl (e1 L 1), List.forall_mem_cons.mpr ⟨.inl (e1 L 2), fun _ h => nomatch h⟩⟩⟩⟩⟩⟩⟩⟩⟩⟩
theorem lnLaw_1 : True := by
  k_with "k_all" => (with_reducible assumption)
  k_with "call ref" => ((k_here; k_dflt ((show wpAny _ _ (call (Value.ref 232) _) _ _ _); (refine' table_con _ _ _ _ _ _ _ _ ?hl ?he ?hok ?hst _ _ _ _ _ _ _ _ _ _ _ _ _ _ _ _ _ ?B ?F ?X ?N ?T ?kk ?kd ?ku ?_); (case hl => assumption); (case he => assumption); (case hok => assumption); (case hst => assumption); (case B => k_asm); (case F => k_asm); (case X => k_asm); (case N => k_asm); (case T => k_asm); (case kk => first | exact rfl | assumption); (case kd => decide); (case ku => decide); intro H9 R9 D9 hsh9 tkh9 nd9 n9 h9 tk9 G9 es9 lr9 hes9 hG9 F9 N9 hH9 hD9 hR9 hT9 hn9; (refine tab_led _ (by with_reducible assumption) (by with_reducible assumption) hes9 N9 hH9 hD9 hT9 hn9 ?_); clear hes9 N9 hH9 hD9 hR9 hT9 hn9; intro T0 T1 T2 T3 a0 a1 a2 a3 b0 b1 b2 b3 hN9 hO9; (try dsimp only))))
  trivial
theorem keys_law (w : World) (loose : List Str) (mean : ExcName → Option Value) (mg mb : Str → Option Value) (L0 H R D T0 T1 T2 T3 : Addr) (n0 n1 n2 n3 y0 y1 y2 y3 : Str) (a0 a1 a2 a3 b0 b1 b2 b3 : Tok) (hsh : Int) (tkh : Tok) (nd n : Nat) (o1 o2 o3 o4 : Obj) :
   ∀ (dp un : Nat) (gd : Option (List Code)) (cn : Str) (cs : Scope) (ad : Addr) (ccd : Value) (cls : List (Str × Addr)) (outer : List Env) (A₀ : Around) (base h₀ : Heap) (L : Addr) (m : Str → Option Value) (s : Shared) (Q E : Value → Shared → Prop),
    Below A₀ base outer h₀ → Fr h₀ L s.heap m → (KK w.params).In h₀ → News h₀ L s.heap ((L0 + 1, o1) :: tabLed L0 H R D T0 T1 T2 T3 n0 n1 n2 n3 y0 y1 y2 y3 a0 a1 a2 a3 b0 b1 b2 b3 hsh tkh nd n o2 o3 o4) → Top QQ loose mean mg mb h₀ → cs.kind = .function →
    dp + 5 < recursionLimit → un + 30 < cLine →
    (∀ (NM : Addr) (h' : Heap) (tk' : Nat), Fr h₀ L h' m → News h₀ L h' ((NM, W.listOf #[.str n0 a0, .str n1 a1, .str n2 a2, .str n3 a3] 4) :: (L0 + 1, o1) :: tabLed L0 H R D T0 T1 T2 T3 n0 n1 n2 n3 y0 y1 y2 y3 a0 a1 a2 a3 b0 b1 b2 b3 hsh tkh nd n o2 o3 o4) → Q (.ref NM) ⟨h', s.gens, s.drawn, tk', s.os⟩) →
      wpAny (model PySem.Challenge.rw_sh0066_01.row.prog w) (ktrTop dp un gd cn cs L ad ccd cls outer) (call (.ref 161) [.ref H]) Q E s :=
  keys_con w loose mean mg mb ((L0 + 1, o1) :: tabLed L0 H R D T0 T1 T2 T3 n0 n1 n2 n3 y0 y1 y2 y3 a0 a1 a2 a3 b0 b1 b2 b3 hsh tkh nd n o2 o3 o4) H D R hsh tkh nd n [(T0, .str n0 a0, .str y0 b0), (T1, .str n1 a1, .str y1 b1), (T2, .str n2 a2, .str y2 b2), (T3, .str n3 a3, .str y3 b3)] (show 4 ≤ sizeLine by decide)
    (by simp [tabLed]) (by simp [tabLed]) (by simp [tabLed]) (fun e he => by
      simp only [List.mem_cons, List.not_mem_nil, or_false] at he
      rcases he with rfl | rfl | rfl | rfl <;> simp [tabLed])
theorem get_val (w : World) (loose : List Str) (mean : ExcName → Option Value) (mg mb : Str → Option Value) (led : List (Addr × Obj)) (H D R : Addr) (hsh : Int) (tkh : Tok) (nd n : Nat) (T0 T1 T2 T3 : Addr) (n0 n1 n2 n3 y0 y1 y2 y3 : Str) (a0 a1 a2 a3 b0 b1 b2 b3 : Tok) (z : Str) (tz : Tok) (v : Value)
   (hv : hitV [(T0, .str n0 a0, .str y0 b0), (T1, .str n1 a1, .str y1 b1), (T2, .str n2 a2, .str y2 b2), (T3, .str n3 a3, .str y3 b3)] (Txt.lower z) = v) (hz : z.length ≤ 30)
   (hml : MissAt (KK w.params) 81 (Txt.lower z)) (hn : n0.length ≤ 2 ∧ n1.length ≤ 2 ∧ n2.length ≤ 2 ∧ n3.length ≤ 2)
   (hH : (H, instObj 209 D) ∈ led) (hD : (D, dictOf [⟨hsh, .str (Str.ofString "_headers") tkh, Value.ref R⟩] nd) ∈ led) (hR : (R, W.listOf #[.ref T0, .ref T1, .ref T2, .ref T3] n) ∈ led)
   (hT : (T0, pairObj (.str n0 a0) (.str y0 b0)) ∈ led ∧ (T1, pairObj (.str n1 a1) (.str y1 b1)) ∈ led ∧ (T2, pairObj (.str n2 a2) (.str y2 b2)) ∈ led ∧ (T3, pairObj (.str n3 a3) (.str y3 b3)) ∈ led) :
   ∀ (dp un : Nat) (gd : Option (List Code)) (cn : Str) (cs : Scope) (ad : Addr) (ccd : Value) (cls : List (Str × Addr)) (outer : List Env) (A₀ : Around) (base h₀ : Heap) (L : Addr) (m : Str → Option Value) (s : Shared) (Q E : Value → Shared → Prop),
    Below A₀ base outer h₀ → Fr h₀ L s.heap m → (KK w.params).In h₀ → News h₀ L s.heap led → Top QQ loose mean mg mb h₀ → cs.kind = .function →
    dp + 5 < recursionLimit → un + 30 < cLine →
    (∀ (h' : Heap) (tk' : Nat), Fr h₀ L h' m → News h₀ L h' led → Q v ⟨h', s.gens, s.drawn, tk', s.os⟩) →
      wpAny (model PySem.Challenge.rw_sh0066_01.row.prog w) (ktrTop dp un gd cn cs L ad ccd cls outer) (call (.ref 156) [.ref H, .str z tz]) Q E s := by
  subst hv
  exact get_con w loose mean mg mb led H D R hsh tkh nd n [(T0, .str n0 a0, .str y0 b0), (T1, .str n1 a1, .str y1 b1), (T2, .str n2 a2, .str y2 b2), (T3, .str n3 a3, .str y3 b3)] z tz hz hml (fun e he => by
      simp only [List.mem_cons, List.not_mem_nil, or_false] at he
      rcases he with rfl | rfl | rfl | rfl
      · exact ⟨_, _, rfl, Nat.le_trans hn.1 (by decide)⟩
      · exact ⟨_, _, rfl, Nat.le_trans hn.2.1 (by decide)⟩
      · exact ⟨_, _, rfl, Nat.le_trans hn.2.2.1 (by decide)⟩
      · exact ⟨_, _, rfl, Nat.le_trans hn.2.2.2 (by decide)⟩) hH hD hR (fun e he => by
      simp only [List.mem_cons, List.not_mem_nil, or_false] at he
      rcases he with rfl | rfl | rfl | rfl
      · exact hT.1
      · exact hT.2.1
      · exact hT.2.2.1
      · exact hT.2.2.2)
theorem prs_inv {P : List (Addr × Value × Value)} {x y : Nat} {l : List (Nat × Nat)} (K : List (Addr × Value × Value) → Prop) (h : PrsAre P ((x, y) :: l)) (k : ∀ A i j P', PrsAre P' l → K ((A, .int ((x : Nat) : Int) i, .int ((y : Nat) : Int) j) :: P')) : K P := by
  cases h with
  | cons A _ _ i j h => exact k A i j _ h
theorem prs_inv0 {P : List (Addr × Value × Value)} (K : List (Addr × Value × Value) → Prop) (h : PrsAre P []) (k : K []) : K P := by
  cases h with
  | nil => exact k
theorem prs6 (K : List (Addr × Value × Value) → Prop) {P : List (Addr × Value × Value)} (h : PrsAre P (pairsUp 4)) (k : ∀ P10 P20 P21 P30 P31 P32 i1 i2 i3 i4 i5 i6 j1 j2 j3 j4 j5 j6, K [(P10, .int ((1 : Nat) : Int) i1, .int ((0 : Nat) : Int) j1), (P20, .int ((2 : Nat) : Int) i2, .int ((0 : Nat) : Int) j2), (P21, .int ((2 : Nat) : Int) i3, .int ((1 : Nat) : Int) j3),
    (P30, .int ((3 : Nat) : Int) i4, .int ((0 : Nat) : Int) j4), (P31, .int ((3 : Nat) : Int) i5, .int ((1 : Nat) : Int) j5), (P32, .int ((3 : Nat) : Int) i6, .int ((2 : Nat) : Int) j6)]) : K P := by
  have e : pairsUp 4 = [(1, 0), (2, 0), (2, 1), (3, 0), (3, 1), (3, 2)] := by decide
  rw [e] at h
  exact prs_inv K h fun A1 i1 j1 _ h => prs_inv (fun r => K (_ :: r)) h fun A2 i2 j2 _ h => prs_inv (fun r => K (_ :: _ :: r)) h fun A3 i3 j3 _ h => prs_inv (fun r => K (_ :: _ :: _ :: r)) h fun A4 i4 j4 _ h => prs_inv (fun r => K (_ :: _ :: _ :: _ :: r)) h fun A5 i5 j5 _ h =>
    prs_inv (fun r => K (_ :: _ :: _ :: _ :: _ :: r)) h fun A6 i6 j6 _ h => prs_inv0 (fun r => K (_ :: _ :: _ :: _ :: _ :: _ :: r)) h (k _ _ _ _ _ _ _ _ _ _ _ _ _ _ _ _ _ _)
theorem ints6 {ds : List Value} {e1 e2 e3 e4 e5 e6 : Int} (P : List Value → Prop) (h : IntsAre ds [e1, e2, e3, e4, e5, e6]) (k : ∀ v1 v2 v3 v4 v5 v6, P [.int e1 v1, .int e2 v2, .int e3 v3, .int e4 v4, .int e5 v5, .int e6 v6]) : P ds :=
  int_inv P h fun _ _ h => int_inv (fun r => P (_ :: r)) h fun _ _ h => int_inv (fun r => P (_ :: _ :: r)) h fun _ _ h => int_inv (fun r => P (_ :: _ :: _ :: r)) h fun _ _ h => int_inv (fun r => P (_ :: _ :: _ :: _ :: r)) h fun _ _ h => int_inv (fun r => P (_ :: _ :: _ :: _ :: _ :: r)) h fun _ _ h =>
    int_inv0 (fun r => P (_ :: _ :: _ :: _ :: _ :: _ :: r)) h (k _ _ _ _ _ _)
theorem cs_fix {g h : Heap} {L C : Addr} {e1 e2 e3 e4 e5 e6 c1 c2 c3 c4 c5 c6 : Int} {t1 t2 t3 t4 t5 t6 : Tok} {r : List (Addr × Obj)} (N : News g L h ((C, W.listOf #[.int e1 t1, .int e2 t2, .int e3 t3, .int e4 t4, .int e5 t5, .int e6 t6] 6) :: r)) (h1 : e1 = c1) (h2 : e2 = c2) (h3 : e3 = c3) (h4 : e4 = c4) (h5 : e5 = c5) (h6 : e6 = c6) :
    News g L h ((C, W.listOf #[.int c1 t1, .int c2 t2, .int c3 t3, .int c4 t4, .int c5 t5, .int c6 t6] 6) :: r) := by
  subst h1 h2 h3 h4 h5 h6; exact N
theorem dp_fix {g h : Heap} {L C : Addr} {e1 e2 e3 e4 : Int} {c1 c2 c3 c4 : Int} {t1 t2 t3 t4 : Tok} {a : Addr × Obj} {r : List (Addr × Obj)} (N : News g L h (a :: (C, W.listOf #[.int e1 t1, .int e2 t2, .int e3 t3, .int e4 t4] 4) :: r)) (h1 : e1 = c1) (h2 : e2 = c2) (h3 : e3 = c3) (h4 : e4 = c4) :
    News g L h (a :: (C, W.listOf #[.int c1 t1, .int c2 t2, .int c3 t3, .int c4 t4] 4) :: r) := by
  subst h1 h2 h3 h4; exact N
theorem law_sub9 {g h : Heap} {L : Addr} {a b c1 c2 c3 c4 c5 c6 c7 c8 d e f1 f2 z : Addr × Obj} (N : News g L h [a, b, c1, c2, c3, c4, c5, c6, c7, c8, d, e, f1, f2, z]) : News g L h [a, b, d, e, z] := fun p hp => N p (by
  simp only [List.mem_cons, List.not_mem_nil, or_false] at hp ⊢
  rcases hp with h | h | h | h | h <;> simp [h])
theorem law_bare {G gs : Array GenState} (h : G = #[]) (hgs : gs = G.push .finished ∨ gs = (G.push .finished).push .finished) : AllBare gs := by
  subst h
  rcases hgs with rfl | rfl
  · intro y hy
    simp only [Array.mem_push, Array.not_mem_empty, false_or] at hy
    subst hy; rfl
  · intro y hy
    simp only [Array.mem_push, Array.not_mem_empty, false_or, or_self] at hy
    subst hy; rfl
theorem half (l : Nat) : (2 * (l : Int)).fdiv 2 = (l : Int) := by
  rw [Int.fdiv_eq_ediv_of_nonneg _ (by decide)]
  omega
theorem lst_off (ys : List Value) : ∀ y, (LCg.lst ys).data ≠ .cell y := fun y q => by cases q
/-- how a cell comes to the ledger's head -/
noncomputable def CellFn (g : Heap) (L c : Addr) (oc : Obj) (led led' : List (Addr × Obj)) : Prop := ∀ W oW h, News g L h ((W, oW) :: led) → (∀ y, oW.data ≠ .cell y) → News g L h ((c, oc) :: (W, oW) :: led') ∧ OffAll c ((W, oW) :: led')
theorem cellFn {g : Heap} {L c : Addr} {oc : Obj} {x : Option Value} {led led' : List (Addr × Obj)} (hc : oc.data = .cell x) (hm : (c, oc) ∈ led) (hs : ∀ p ∈ led', p ∈ led) (ho : ∀ p ∈ led', p.1 ≠ c ∨ ∀ y, p.2.data ≠ .cell y) : CellFn g L c oc led led' := fun W oW h N hW => by
  have N' : News g L h ((c, oc) :: (W, oW) :: led') := fun p hp => N p (by
    rcases List.mem_cons.mp hp with rfl | hp
    · exact .tail _ hm
    rcases List.mem_cons.mp hp with rfl | hp
    · exact .head _
    exact .tail _ (hs p hp))
  refine ⟨N', fun p hp => ?_⟩
  rcases List.mem_cons.mp hp with rfl | hp'
  · exact off_cell N' (.tail _ hp) (.head _) hc hW
  · rcases ho p hp' with h | h
    · exact h
    · exact off_cell N' (.tail _ hp) (.head _) hc h
theorem lnLaw_2 : True := by
  k_with "CompSrc" => (k_dflt (first
  | (refine LCg.CompSrc.ledger (by rfl) (by k_asm) (by k_asm) (by k_mem) (by first | size_fits | exact Nat.le_of_ble_eq_true rfl) ?_; intro g'; lcg_lit)
  | (refine LCg.CompSrc.range (by rfl) (by k_asm) (by k_asm) (by assumption) (by first | decide | rfl) (by first | rfl | decide) (by first | size_fits | exact Nat.le_of_ble_eq_true rfl) ?_; intro g'; lcg_lit)))
  k_with "CompRest" => (k_dflt (with_unfolding_all first
  | (refine rest_at (by rfl) ?_; intro R9 hR9 I' oI' C' oC' D' m' h' tk' E' hC' hx' F' N' off' ne'; (try dsimp only); (try k_fold))
  | (refine rest_rng ?_; intro t9'; intro R9 hR9 I' oI' C' oC' D' m' h' tk' E' hC' hx' F' N' off' ne'; (try dsimp only); (try k_fold))
  | refine LCg.CompRest.zero ?_))
  k_with "CompRestP" => (k_dflt (with_unfolding_all first
  | (refine restP_at (by rfl) (by k_mem) ?_; intro R9 hR9 I' oI' C' oC' D' m' h' tk' E' hC' hx' hy' F' N' off' ne'; (try dsimp only); (try k_fold))
  | refine LCp.CompRestP.zero ?_))
  k_with "CompEnd" => (k_dflt ((with_reducible rename Fr _ _ _ _ => F9'); (with_reducible rename News _ _ _ _ => N9'); (first
  | ((with_reducible show LCg.CompEnd _ _ _ _ _ _ _ _ _ _ _ _ (Value.ref _) _); refine comp_end_tup F9' N9' ⟨by k_ne, by k_ne, by k_ne⟩ (by with_reducible assumption) (by first | exact trivial | lcg_src) ?_)
  | refine LCg.CompEnd.intro F9' N9' _ (by exact fun p hp => hp) (by with_reducible assumption) (by lcg_src) ?_); (try refine hR9 _ _ ?_); (try clear hR9)))
  k_with "storeName" => ((k_here; k_dflt ((with_reducible rename Fr _ _ _ _ => F9'); (with_reducible rename News _ _ _ _ => N9'); (with_reducible rename OffAll _ _ => hO9'); (refine storeX_C F9' N9' rfl (UpdF.head hO9') (by with_reducible assumption) ?_ rfl rfl)); intro h' o' F' N' d'; (try dsimp only at N'); (try k_sweep)))
  k_with "FinE" => (((with_reducible rename CellFn _ _ _ _ _ _ => cF9); (unfold LCg.FinE); intro D' h' tk' F' N' o1'; (try dsimp only [List.nil_append, List.cons_append] at N'); k_dflt (obtain ⟨hN9, hO9⟩ := cF9 _ _ _ N' (lst_off _)); clear N' o1' cF9; (try dsimp only)))
  k_with "call ref" => ((k_here; k_dflt ((show wpAny _ _ (call (Value.ref 161) _) _ _ _); (refine' keys_law _ _ _ _ _ _ _ _ _ _ _ _ _ _ _ _ _ _ _ _ _ _ _ _ _ _ _ _ _ _ _ _ _ _ _ _ _ _ _ _ _ _ _ _ _ _ _ _ _ _ _ _ _ _ ?B ?F ?X ?N ?T ?kk ?kd ?ku ?_); (case N => k_asm); (case B => k_asm); (case F => k_asm); (case X => k_asm); (case T => k_asm); (case kk => first | exact rfl | assumption); (case kd => decide); (case ku => decide); intro NM9 h9 tk9 F9 N9; (try dsimp only))))
  k_with "call ref" => ((k_here; k_dflt ((show wpAny _ _ (call (Value.ref 156) _) _ _ _); (refine' get_val _ _ _ _ _ _ _ _ _ _ _ _ _ _ _ _ _ _ _ _ _ _ _ _ _ _ _ _ _ _ _ _ _ _ _ _ ?hv ?hz ?hml ?hn ?hH ?hD ?hR ?hT _ _ _ _ _ _ _ _ _ _ _ _ _ _ _ _ _ ?B ?F ?X ?N ?T ?kk ?kd ?ku ?_); (case B => k_asm); (case F => k_asm); (case X => k_asm); (case N => k_asm); (case T => k_asm); (case hv => with_reducible assumption); (case hz => with_reducible assumption); (case hml => with_reducible assumption); (case hn => with_reducible assumption); (case hH => k_mem); (case hD => k_mem); (case hR => k_mem); (case hT => refine ⟨?_, ?_, ?_, ?_⟩ <;> k_mem); (case kk => first | exact rfl | assumption); (case kd => decide); (case ku => decide); intro h9 tk9 F9 N9; (try dsimp only))))
  k_with "call ref" => ((k_here; k_dflt ((show wpAny _ _ (call (Value.ref 52) _) _ _ _); (refine' lev_val _ _ _ _ _ _ _ _ _ _ _ _ _ ?hV ?la ?lb _ _ _ _ _ _ _ _ _ _ _ _ _ _ _ _ _ ?B ?F ?X ?N ?T ?kk ?kd ?ku ?_); (case hV => first | with_reducible assumption | exact rfl); (case la => omega); (case lb => omega); (case B => k_asm); (case F => k_asm); (case X => k_asm); (case N => k_asm); (case T => k_asm); (case kk => first | exact rfl | assumption); (case kd => decide); (case ku => decide); intro t9 h9 tk9 F9 N9; (try dsimp only))))
  k_with "call builtin:max" => ((k_here; k_dflt ((with_reducible show wpAny _ _ (call (Value.builtin _) [Value.int _ _, Value.int _ _]) _ _ _); (with_reducible rename Fr _ _ _ _ => F9'); (with_reducible rename News _ _ _ _ => N9'); (refine max_op (by with_unfolding_all rfl) F9' N9' ?_); intro x9 t9 h9 tk9 hx9 F9 N9; subst hx9)))
  k_with "call ref" => ((k_here; k_dflt ((show wpAny _ _ (call (Value.ref 251) _) _ _ _); (with_reducible rename LawF _ _ _ _ _ _ _ _ _ _ _ _ _ _ _ _ _ _ _ _ _ _ _ _ _ _ _ => LF9'); (with_reducible rename Fr _ _ _ _ => F9'); (with_reducible rename News _ _ _ _ => N9'); (with_reducible rename Top _ _ _ _ _ _ => T9'); (with_reducible rename Frag.In _ _ => X9'); (with_reducible rename Below _ _ _ _ => B9'); (refine moved_law LF9' (by k_mem) _ _ _ _ _ _ _ _ _ _ _ _ _ _ _ _ _ B9' F9' X9' N9' T9' rfl (by decide) (by decide) ?_); intro h9 tk9 F9 N9; (try dsimp only))))
  k_with "call ref" => ((k_here; k_dflt ((show wpAny _ _ (call (Value.ref 246) _) _ _ _); (with_reducible rename LawF _ _ _ _ _ _ _ _ _ _ _ _ _ _ _ _ _ _ _ _ _ _ _ _ _ _ _ => LF9'); (with_reducible rename Fr _ _ _ _ => F9'); (with_reducible rename News _ _ _ _ => N9'); (with_reducible rename Top _ _ _ _ _ _ => T9'); (with_reducible rename Frag.In _ _ => X9'); (with_reducible rename Below _ _ _ _ => B9'); (refine firm_law LF9' (by k_mem) (by k_mem) (by k_mem) ⟨by k_mem, by k_mem, by k_mem, by k_mem, by k_mem, by k_mem⟩ _ _ _ _ _ _ _ _ _ _ _ _ _ _ _ _ _ B9' F9' X9' N9' T9' rfl (by decide) (by decide) ?_); intro h9 tk9 F9 N9; (try dsimp only))))
  k_with "call ref" => ((k_here; k_dflt ((show wpAny _ _ (call (Value.ref 258) _) _ _ _); (with_reducible rename LawF _ _ _ _ _ _ _ _ _ _ _ _ _ _ _ _ _ _ _ _ _ _ _ _ _ _ _ => LF9'); (with_reducible rename Fr _ _ _ _ => F9'); (with_reducible rename News _ _ _ _ => N9'); (with_reducible rename Top _ _ _ _ _ _ => T9'); (with_reducible rename Frag.In _ _ => X9'); (with_reducible rename Below _ _ _ _ => B9'); (refine common_law LF9' (by k_mem) (by k_mem) (by k_mem) (by k_mem) ⟨by k_mem, by k_mem, by k_mem, by k_mem, by k_mem, by k_mem⟩ _ _ _ _ _ _ _ _ _ _ _ _ _ _ _ _ _ B9' F9' X9' N9' T9' rfl (by decide) (by decide) ?_); intro CM9 cm9 n9 h9 tk9 hcm9 F9 N9; (with_reducible rename CellFn _ _ _ _ _ _ => cF9); revert N9; (refine ints6 (fun ds => News _ _ _ ((_, W.listOf ds.toArray _) :: _) → _) hcm9 ?_); clear hcm9; intro v1 v2 v3 v4 v5 v6 N9; (obtain ⟨hN9, hO9⟩ := cF9 _ _ _ N9 (fun _ q => by cases q)); clear N9 cF9; (try dsimp only))))
  k_with "call ref" => ((k_here; k_dflt ((show wpAny _ _ (call (Value.ref 239) _) _ _ _); (with_reducible rename LawF _ _ _ _ _ _ _ _ _ _ _ _ _ _ _ _ _ _ _ _ _ _ _ _ _ _ _ => LF9'); (with_reducible rename Fr _ _ _ _ => F9'); (with_reducible rename News _ _ _ _ => N9'); (with_reducible rename Top _ _ _ _ _ _ => T9'); (with_reducible rename Frag.In _ _ => X9'); (with_reducible rename Below _ _ _ _ => B9'); (refine again_law LF9' (by k_mem) (by k_mem) (by k_mem) (by k_mem) (by k_mem) (by k_mem) (by k_mem) _ _ _ _ _ _ _ _ _ _ _ _ _ _ _ _ _ _ _ _ B9' F9' X9' N9' T9' rfl (by decide) (by decide) ?_); intro t9 h9 tk9 F9 N9; (try dsimp only))))
  trivial
section
variable {z : Str}
theorem hit_here {A : Addr} {v : Value} {n : Str} {t : Tok} {r : List (Addr × Value × Value)} (h : (Txt.lower n == z) = true) : hitV ((A, .str n t, v) :: r) z = v := if_pos h
theorem hit_next {A : Addr} {v : Value} {n : Str} {t : Tok} {r : List (Addr × Value × Value)} (h : (Txt.lower n == z) = false) : hitV ((A, .str n t, v) :: r) z = hitV r z := if_neg (fun e => by
  have e' : (Txt.lower n == z) = true := e
  rw [h] at e'; cases e')
end
set_option maxHeartbeats 6000000 in
theorem law_thm : PySem.Challenge.rw_sh0066_01.Holds := by
  refine holds_law said fun hq => ?_
  refine holds_open (q := QQ) (loose := LS) (Xt := XT) (XP := XL QQ []) (Yf := HK.obs) (Ya := HK.val) (YP := HK.says) (N := 5754) left HK.of HK.keeps (fun s e => xl_of s (Bool.and_eq_true_iff.mp e).1) XL.keeps (by rfl) (by rfl) (by rfl) (fun s e => recFacts_of (Bool.and_eq_true_iff.mp e).2) (by rfl) hq (by decide +kernel) ⟨rfl, rfl, rfl, rfl, rfl, by decide +kernel⟩ ?hw ?hc
  case hw => w_witness2
  case hc =>
  clear hq
  delta HK
  lge_go0
  all_goals (rename LGe.Mark => lgeM; clear lgeM)
  (with_reducible rename Based _ _ _ _ _ => hB0)
  have hBh := Hold.mk hB0
  clear hB0
  show wpAny _ _ _ _ _ _
  k_fold
  rename Fr _ _ _ _ => F0
  rename News _ _ _ _ => N0
  replace F0 := fr_eq F0 (m' := ov (fun _ => none) [(Str.ofString "script", Value.ref _)]) (by rfl)
  rename CellsAre _ _ _ => Y0
  clear Y0
  rename IntsAre _ _ => hI0
  rename Heap.IsList _ _ _ => hS0
  rename Top _ _ _ _ _ _ => T0
  rename Frag.In _ _ => X0
  rename Below _ _ _ _ => B0
  rename Shared => s₁
  rename World => w
  rename_i o4 o3 o2 o1 c4 c3 c2 c1
  change o4.data = .cell none at c4
  change o3.data = .cell none at c3
  change o2.data = .cell none at c2
  change o1.data = .cell none at c1
  generalize hL : s₁.heap.objs.size = L at *
  refine execs_cutC 1 (fun J => ∀ h tk d0 d1 d2 d3 v tp tq, Bnd d0 d1 d2 d3 → Fr s₁.heap L h (ov (fun _ => none) [(Str.ofString "script", v), (Str.ofString "plain", .str (plainS d0 d1 d2 d3) tp), (Str.ofString "dressed", .str (dressS d0 d1 d2 d3) tq)]) →
    News s₁.heap L h [(L + 1, o1), (L + 1 + 1, o2), (L + 1 + 1 + 1, o3), (L + 1 + 1 + 1 + 1, o4)] → J ⟨h, s₁.gens, s₁.drawn, tk, s₁.os⟩) (fun J hJ => ?_) ?_
  · dsimp only [List.take, List.drop]
    --[
    tb_start
    with_reducible rename Bnd _ _ _ _ => hb
    with_reducible rename Fr s₁.heap L _ _ => F9
    with_reducible rename News s₁.heap L _ _ => N9
    exact hJ _ _ _ _ _ _ _ _ _ hb (fr_ov2 F9 rfl) (law_n1 N9)
    --]
  · clear F0 N0
    intro h1 tk1 d0 d1 d2 d3 vS tp tq hb F1 N1
    refine law_facts w d0 d1 d2 d3 hb.h0.1 hb.h1.1 hb.h2.1 hb.h3.1 _ ?_
    intro n0 n1 n2 n3 y0 y1 y2 y3 l0 l1 l2 l3 c10 c20 c21 c30 c31 c32 s10 s20 s21 s30 s31 s32 LF
    generalize plainS d0 d1 d2 d3 = pl at *
    generalize dressS d0 d1 d2 d3 = dr at *
    have hcl : dr.length ≤ 100 := LF.len
    have hce : escEnd false (cl dr) = false := LF.fin
    have hct := LF.tab
    have hcs := LF.slen
    dsimp only [List.take, List.drop]
    have hent := LF.ents
    refine execs_cutC 1 (fun J => ∀ h tk gs T0 T1 T2 T3 a0 a1 a2 a3 b0 b1 b2 b3 H R D hsh tkh nd n o1, (gs = s₁.gens.push .finished ∨ gs = (s₁.gens.push .finished).push .finished) → o1.data = .cell (some (.ref H)) →
      Fr s₁.heap L h (ov (fun _ => none) [(Str.ofString "script", vS), (Str.ofString "plain", .str pl tp), (Str.ofString "dressed", .str dr tq)]) → News s₁.heap L h ((L + 1, o1) :: tabLed L H R D T0 T1 T2 T3 n0 n1 n2 n3 y0 y1 y2 y3 a0 a1 a2 a3 b0 b1 b2 b3 hsh tkh nd n o2 o3 o4) → J ⟨h, gs, s₁.drawn, tk, s₁.os⟩) (fun J hJ => ?_) ?_
    · dsimp only [List.take, List.drop]
      --[
      tb_start
      with_reducible rename Fr s₁.heap L _ _ => F9
      with_reducible rename News s₁.heap L _ _ => N9
      with_reducible rename Obj.data _ = Data.cell (some _) => d9
      with_reducible rename _ ∨ _ => hG9
      exact hJ _ _ _ _ _ _ _ _ _ _ _ _ _ _ _ _ _ _ _ _ _ _ _ hG9 d9 F9 N9
      --]
    · clear F1 N1 c1
      intro h2 tk2 gs T0 T1 T2 T3 a0 a1 a2 a3 b0 b1 b2 b3 H R D hsh tkh nd n oT hgs c1 F2 N2
      dsimp only [List.take, List.drop]
      dsimp only [tabLed] at N2
      refine execs_cutC 1 (fun J => ∀ NM h tk, Fr s₁.heap L h (ov (fun _ => none) [(Str.ofString "script", vS), (Str.ofString "plain", .str pl tp), (Str.ofString "dressed", .str dr tq), (Str.ofString "names", .ref NM)]) →
          News s₁.heap L h ((NM, W.listOf #[.str n0 a0, .str n1 a1, .str n2 a2, .str n3 a3] 4) :: (L + 1, oT) :: tabLed L H R D T0 T1 T2 T3 n0 n1 n2 n3 y0 y1 y2 y3 a0 a1 a2 a3 b0 b1 b2 b3 hsh tkh nd n o2 o3 o4) → J ⟨h, gs, s₁.drawn, tk, s₁.os⟩) (fun J hJ => ?_) ?_
      · dsimp only [List.take, List.drop]
        --[
        tb_start
        with_reducible rename Fr s₁.heap L _ _ => F9
        exact hJ _ _ _ (fr_ov F9 rfl) (by assumption)
        --]
      · clear F2 N2
        intro NM h3 tk3 F3 N3
        dsimp only [List.take, List.drop]
        dsimp only [tabLed] at N3
        have hnl : n0.length ≤ 2 ∧ n1.length ≤ 2 ∧ n2.length ≤ 2 ∧ n3.length ≤ 2 := ⟨LF.o0.nlen, LF.o1.nlen, LF.o2.nlen, LF.o3.nlen⟩
        have hz0 := LF.o0.slen
        have hz1 := LF.o1.slen
        have hz2 := LF.o2.slen
        have hz3 := LF.o3.slen
        have hm0 := LF.o0.miss
        have hm1 := LF.o1.miss
        have hm2 := LF.o2.miss
        have hm3 := LF.o3.miss
        have hg0 : hitV [(T0, .str n0 a0, .str y0 b0), (T1, .str n1 a1, .str y1 b1), (T2, .str n2 a2, .str y2 b2), (T3, .str n3 a3, .str y3 b3)] (Txt.lower (Txt.swapcase n0)) = .str y0 b0 := hit_here LF.o0.key
        have hg1 : hitV [(T0, .str n0 a0, .str y0 b0), (T1, .str n1 a1, .str y1 b1), (T2, .str n2 a2, .str y2 b2), (T3, .str n3 a3, .str y3 b3)] (Txt.lower (Txt.swapcase n1)) = .str y1 b1 := (hit_next LF.t10.key).trans (hit_here LF.o1.key)
        have hg2 : hitV [(T0, .str n0 a0, .str y0 b0), (T1, .str n1 a1, .str y1 b1), (T2, .str n2 a2, .str y2 b2), (T3, .str n3 a3, .str y3 b3)] (Txt.lower (Txt.swapcase n2)) = .str y2 b2 := ((hit_next LF.t20.key).trans (hit_next LF.t21.key)).trans (hit_here LF.o2.key)
        have hg3 : hitV [(T0, .str n0 a0, .str y0 b0), (T1, .str n1 a1, .str y1 b1), (T2, .str n2 a2, .str y2 b2), (T3, .str n3 a3, .str y3 b3)] (Txt.lower (Txt.swapcase n3)) = .str y3 b3 := (((hit_next LF.t30.key).trans (hit_next LF.t31.key)).trans (hit_next LF.t32.key)).trans (hit_here LF.o3.key)
        have hcf : CellFn s₁.heap L (L + 1 + 1) o2 [(NM, W.listOf #[.str n0 a0, .str n1 a1, .str n2 a2, .str n3 a3] 4), (L + 1, oT), (H, instObj 209 D), (D, dictOf [⟨hsh, .str (Str.ofString "_headers") tkh, Value.ref R⟩] nd), (R, W.listOf #[.ref T0, .ref T1, .ref T2, .ref T3] n),
            (T0, pairObj (.str n0 a0) (.str y0 b0)), (T1, pairObj (.str n1 a1) (.str y1 b1)), (T2, pairObj (.str n2 a2) (.str y2 b2)), (T3, pairObj (.str n3 a3) (.str y3 b3)), (L + 1 + 1, o2), (L + 1 + 1 + 1, o3), (L + 1 + 1 + 1 + 1, o4)]
            [(NM, W.listOf #[.str n0 a0, .str n1 a1, .str n2 a2, .str n3 a3] 4), (L + 1 + 1 + 1, o3), (L + 1 + 1 + 1 + 1, o4)] := cellFn c2 (by repeat (first | (with_reducible exact List.mem_cons_self) | (with_reducible refine List.mem_cons_of_mem _ ?_))) (by repeat' (first | exact List.forall_mem_nil _ | (with_reducible refine List.forall_mem_cons.mpr ⟨?_, ?_⟩) | (with_reducible exact List.mem_cons_self) | (with_reducible refine List.mem_cons_of_mem _ ?_))) (by
              repeat' (first | exact List.forall_mem_nil _ | refine List.forall_mem_cons.mpr ⟨?_, ?_⟩ | (refine .inl (neN ?_); omega) | exact .inr no_cell))
        refine execs_cutC 1 (fun J => ∀ WS o2 h tk, o2.data = .cell (some (.ref WS)) →
          Fr s₁.heap L h (ov (fun _ => none) [(Str.ofString "script", vS), (Str.ofString "plain", .str pl tp), (Str.ofString "dressed", .str dr tq), (Str.ofString "names", .ref NM)]) →
          News s₁.heap L h [(L + 1 + 1, o2), (WS, W.listOf #[.str y0 b0, .str y1 b1, .str y2 b2, .str y3 b3] 4), (NM, W.listOf #[.str n0 a0, .str n1 a1, .str n2 a2, .str n3 a3] 4), (L + 1 + 1 + 1, o3), (L + 1 + 1 + 1 + 1, o4)] → J ⟨h, gs, s₁.drawn, tk, s₁.os⟩) (fun J hJ => ?_) ?_
        · dsimp only [List.take, List.drop]
          --[
          tb_start
          with_reducible rename Fr s₁.heap L _ _ => F9
          with_reducible rename News s₁.heap L _ _ => N9
          with_reducible rename Obj.data _ = Data.cell (some _) => d9
          exact hJ _ _ _ _ d9 F9 N9
          --]
        · clear F3 N3 c2 c1 hcf hg0 hg1 hg2 hg3 hm0 hm1 hm2 hm3 hz0 hz1 hz2 hz3 hnl
          clear hent hcl hce hct hcs
          intro WS oW h4 tk4 c2 F4 N4
          dsimp only [List.take, List.drop]
          have hy0 : y0.length ≤ 4 := LF.o0.ylen ▸ LF.o0.l4
          have hy1 : y1.length ≤ 4 := LF.o1.ylen ▸ LF.o1.l4
          have hy2 : y2.length ≤ 4 := LF.o2.ylen ▸ LF.o2.l4
          have hy3 : y3.length ≤ 4 := LF.o3.ylen ▸ LF.o3.l4
          have he0 : (Str.ofString "").length = 0 := by decide +kernel
          have hd0 := LF.o0.deep
          have hd1 := LF.o1.deep
          have hd2 := LF.o2.deep
          have hd3 := LF.o3.deep
          have hcf : CellFn s₁.heap L (L + 1 + 1 + 1) o3 [(L + 1 + 1, oW), (WS, W.listOf #[.str y0 b0, .str y1 b1, .str y2 b2, .str y3 b3] 4), (NM, W.listOf #[.str n0 a0, .str n1 a1, .str n2 a2, .str n3 a3] 4), (L + 1 + 1 + 1, o3), (L + 1 + 1 + 1 + 1, o4)]
              [(L + 1 + 1, oW), (WS, W.listOf #[.str y0 b0, .str y1 b1, .str y2 b2, .str y3 b3] 4), (NM, W.listOf #[.str n0 a0, .str n1 a1, .str n2 a2, .str n3 a3] 4), (L + 1 + 1 + 1 + 1, o4)] := cellFn c3 (by repeat (first | (with_reducible exact List.mem_cons_self) | (with_reducible refine List.mem_cons_of_mem _ ?_))) (by repeat' (first | exact List.forall_mem_nil _ | (with_reducible refine List.forall_mem_cons.mpr ⟨?_, ?_⟩) | (with_reducible exact List.mem_cons_self) | (with_reducible refine List.mem_cons_of_mem _ ?_))) (by
              repeat' (first | exact List.forall_mem_nil _ | refine List.forall_mem_cons.mpr ⟨?_, ?_⟩ | (refine .inl (neN ?_); omega) | exact .inr no_cell))
          refine execs_cutC 1 (fun J => ∀ DP o3 t0 t1 t2 t3 h tk, o3.data = .cell (some (.ref DP)) →
          Fr s₁.heap L h (ov (fun _ => none) [(Str.ofString "script", vS), (Str.ofString "plain", .str pl tp), (Str.ofString "dressed", .str dr tq), (Str.ofString "names", .ref NM)]) →
          News s₁.heap L h [(L + 1 + 1 + 1, o3), (DP, W.listOf #[.int (l0 : Int) t0, .int (l1 : Int) t1, .int (l2 : Int) t2, .int (l3 : Int) t3] 4), (L + 1 + 1, oW), (WS, W.listOf #[.str y0 b0, .str y1 b1, .str y2 b2, .str y3 b3] 4), (NM, W.listOf #[.str n0 a0, .str n1 a1, .str n2 a2, .str n3 a3] 4), (L + 1 + 1 + 1 + 1, o4)] → J ⟨h, gs, s₁.drawn, tk, s₁.os⟩) (fun J hJ => ?_) ?_
          · dsimp only [List.take, List.drop]
            --[
            tb_start
            with_reducible rename Fr s₁.heap L _ _ => F9
            with_reducible rename News s₁.heap L _ _ => N9
            with_reducible rename Obj.data _ = Data.cell (some _) => d9
            exact hJ _ _ _ _ _ _ _ _ d9 F9 (dp_fix N9 (half _) (half _) (half _) (half _))
            --]
          · clear F4 N4 c3 hcf hd0 hd1 hd2 hd3
            intro DP oD u0 u1 u2 u3 h5 tk5 c3 F5 N5
            dsimp only [List.take, List.drop]
            refine execs_cutC 1 (fun J => ∀ PR P10 P20 P21 P30 P31 P32 i1 i2 i3 i4 i5 i6 j1 j2 j3 j4 j5 j6 h tk, Fr s₁.heap L h (ov (fun _ => none) [(Str.ofString "script", vS), (Str.ofString "plain", .str pl tp), (Str.ofString "dressed", .str dr tq), (Str.ofString "names", .ref NM), (Str.ofString "pairs", .ref PR)]) →
          News s₁.heap L h [(PR, W.listOf #[.ref P10, .ref P20, .ref P21, .ref P30, .ref P31, .ref P32] 6), (P10, pairObj (.int ((1 : Nat) : Int) i1) (.int ((0 : Nat) : Int) j1)), (P20, pairObj (.int ((2 : Nat) : Int) i2) (.int ((0 : Nat) : Int) j2)), (P21, pairObj (.int ((2 : Nat) : Int) i3) (.int ((1 : Nat) : Int) j3)), (P30, pairObj (.int ((3 : Nat) : Int) i4) (.int ((0 : Nat) : Int) j4)), (P31, pairObj (.int ((3 : Nat) : Int) i5) (.int ((1 : Nat) : Int) j5)), (P32, pairObj (.int ((3 : Nat) : Int) i6) (.int ((2 : Nat) : Int) j6)),
                (L + 1 + 1 + 1, oD), (DP, W.listOf #[.int (l0 : Int) u0, .int (l1 : Int) u1, .int (l2 : Int) u2, .int (l3 : Int) u3] 4), (L + 1 + 1, oW), (WS, W.listOf #[.str y0 b0, .str y1 b1, .str y2 b2, .str y3 b3] 4), (NM, W.listOf #[.str n0 a0, .str n1 a1, .str n2 a2, .str n3 a3] 4), (L + 1 + 1 + 1 + 1, o4)] → J ⟨h, gs, s₁.drawn, tk, s₁.os⟩) (fun J hJ => ?_) ?_
            · dsimp only [List.take, List.drop]
              --[
              refine wpAny_execs_cons (assign_pairs F5 rfl (by with_unfolding_all rfl) (by with_unfolding_all rfl) (by decide) (by rfl) (by decide) (by rfl) (by rfl) (by decide) (by decide) (by decide) (by rfl) (by rfl) (by with_unfolding_all rfl) ?_)
              show wpAny _ _ _ _ _ _
              k_fold
              tb_start
              refine Hold.mk ⟨_, _, _, _, 4, _, rfl, by assumption, by decide, by assumption, by assumption, ?inn, ?fin⟩
              case inn =>
                intro C oC i ti mC h tk led hi hC hx F N
                show wpAny _ _ _ _ _ _
                tb_start
                exact Hold.mk ⟨_, _, _, _, _, _, rfl, rfl, by assumption, by assumption, by assumption⟩
              case fin =>
                intro PR P h' tk' hP F N
                revert N
                refine prs6 (fun P => News s₁.heap L h' ((PR, W.listOf (List.map (fun e => Value.ref e.1) P).toArray P.length) :: (List.map (fun e => (e.1, pairObj e.2.1 e.2.2)) P ++ _)) → _) hP ?_
                intro P10 P20 P21 P30 P31 P32 i1 i2 i3 i4 i5 i6 j1 j2 j3 j4 j5 j6 N
                exact wpAny_execs_nil (hJ _ _ _ _ _ _ _ _ _ _ _ _ _ _ _ _ _ _ _ _ _ (fr_ov F rfl) N)
              --]
            · clear F5 N5
              intro PR P10 P20 P21 P30 P31 P32 i1 i2 i3 i4 i5 i6 j1 j2 j3 j4 j5 j6 h6 tk6 F6 N6
              dsimp only [List.take, List.drop]
              have hc10 := LF.t10.cost
              have hc20 := LF.t20.cost
              have hc21 := LF.t21.cost
              have hc30 := LF.t30.cost
              have hc31 := LF.t31.cost
              have hc32 := LF.t32.cost
              refine execs_cutC 1 (fun J => ∀ CS t1 t2 t3 t4 t5 t6 h tk, Fr s₁.heap L h (ov (fun _ => none) [(Str.ofString "script", vS), (Str.ofString "plain", .str pl tp), (Str.ofString "dressed", .str dr tq), (Str.ofString "names", .ref NM), (Str.ofString "pairs", .ref PR), (Str.ofString "costs", .ref CS)]) →
          News s₁.heap L h [(CS, W.listOf #[.int c10 t1, .int c20 t2, .int c21 t3, .int c30 t4, .int c31 t5, .int c32 t6] 6), (PR, W.listOf #[.ref P10, .ref P20, .ref P21, .ref P30, .ref P31, .ref P32] 6), (P10, pairObj (.int ((1 : Nat) : Int) i1) (.int ((0 : Nat) : Int) j1)), (P20, pairObj (.int ((2 : Nat) : Int) i2) (.int ((0 : Nat) : Int) j2)), (P21, pairObj (.int ((2 : Nat) : Int) i3) (.int ((1 : Nat) : Int) j3)), (P30, pairObj (.int ((3 : Nat) : Int) i4) (.int ((0 : Nat) : Int) j4)), (P31, pairObj (.int ((3 : Nat) : Int) i5) (.int ((1 : Nat) : Int) j5)), (P32, pairObj (.int ((3 : Nat) : Int) i6) (.int ((2 : Nat) : Int) j6)),
                (L + 1 + 1 + 1, oD), (DP, W.listOf #[.int (l0 : Int) u0, .int (l1 : Int) u1, .int (l2 : Int) u2, .int (l3 : Int) u3] 4), (L + 1 + 1, oW), (WS, W.listOf #[.str y0 b0, .str y1 b1, .str y2 b2, .str y3 b3] 4), (NM, W.listOf #[.str n0 a0, .str n1 a1, .str n2 a2, .str n3 a3] 4), (L + 1 + 1 + 1 + 1, o4)] → J ⟨h, gs, s₁.drawn, tk, s₁.os⟩) (fun J hJ => ?_) ?_
              · dsimp only [List.take, List.drop]
                --[
                tb_start
                with_reducible rename Fr s₁.heap L _ _ => F9
                with_reducible rename News s₁.heap L _ _ => N9
                exact hJ _ _ _ _ _ _ _ _ _ (fr_ov F9 rfl) (cs_fix N9 hc10 hc20 hc21 hc30 hc31 hc32)
                --]
              · clear F6 N6 hc10 hc20 hc21 hc30 hc31 hc32
                intro CS t1 t2 t3 t4 t5 t6 h7 tk7 F7 N7
                dsimp only [List.take, List.drop]
                refine execs_cutC 1 (fun J => ∀ h tk, Fr s₁.heap L h (ov (fun _ => none) [(Str.ofString "script", vS), (Str.ofString "plain", .str pl tp), (Str.ofString "dressed", .str dr tq), (Str.ofString "names", .ref NM), (Str.ofString "pairs", .ref PR), (Str.ofString "costs", .ref CS)]) →
          News s₁.heap L h [(CS, W.listOf #[.int c10 t1, .int c20 t2, .int c21 t3, .int c30 t4, .int c31 t5, .int c32 t6] 6), (PR, W.listOf #[.ref P10, .ref P20, .ref P21, .ref P30, .ref P31, .ref P32] 6), (P10, pairObj (.int ((1 : Nat) : Int) i1) (.int ((0 : Nat) : Int) j1)), (P20, pairObj (.int ((2 : Nat) : Int) i2) (.int ((0 : Nat) : Int) j2)), (P21, pairObj (.int ((2 : Nat) : Int) i3) (.int ((1 : Nat) : Int) j3)), (P30, pairObj (.int ((3 : Nat) : Int) i4) (.int ((0 : Nat) : Int) j4)), (P31, pairObj (.int ((3 : Nat) : Int) i5) (.int ((1 : Nat) : Int) j5)), (P32, pairObj (.int ((3 : Nat) : Int) i6) (.int ((2 : Nat) : Int) j6)),
                (L + 1 + 1 + 1, oD), (DP, W.listOf #[.int (l0 : Int) u0, .int (l1 : Int) u1, .int (l2 : Int) u2, .int (l3 : Int) u3] 4), (L + 1 + 1, oW), (WS, W.listOf #[.str y0 b0, .str y1 b1, .str y2 b2, .str y3 b3] 4), (NM, W.listOf #[.str n0 a0, .str n1 a1, .str n2 a2, .str n3 a3] 4), (L + 1 + 1 + 1 + 1, o4)] → J ⟨h, gs, s₁.drawn, tk, s₁.os⟩) (fun J hJ => ?_) ?_
                · dsimp only [List.take, List.drop]
                  --[
                  tb_start
                  exact hJ _ _ (by with_reducible assumption) (by with_reducible assumption)
                  --]
                · clear F7 N7
                  intro h8 tk8 F8 N8
                  dsimp only [List.take, List.drop]
                  have hcf : CellFn s₁.heap L (L + 1 + 1 + 1 + 1) o4 [(CS, W.listOf #[.int c10 t1, .int c20 t2, .int c21 t3, .int c30 t4, .int c31 t5, .int c32 t6] 6), (PR, W.listOf #[.ref P10, .ref P20, .ref P21, .ref P30, .ref P31, .ref P32] 6), (P10, pairObj (.int ((1 : Nat) : Int) i1) (.int ((0 : Nat) : Int) j1)), (P20, pairObj (.int ((2 : Nat) : Int) i2) (.int ((0 : Nat) : Int) j2)), (P21, pairObj (.int ((2 : Nat) : Int) i3) (.int ((1 : Nat) : Int) j3)), (P30, pairObj (.int ((3 : Nat) : Int) i4) (.int ((0 : Nat) : Int) j4)), (P31, pairObj (.int ((3 : Nat) : Int) i5) (.int ((1 : Nat) : Int) j5)), (P32, pairObj (.int ((3 : Nat) : Int) i6) (.int ((2 : Nat) : Int) j6)),
                (L + 1 + 1 + 1, oD), (DP, W.listOf #[.int (l0 : Int) u0, .int (l1 : Int) u1, .int (l2 : Int) u2, .int (l3 : Int) u3] 4), (L + 1 + 1, oW), (WS, W.listOf #[.str y0 b0, .str y1 b1, .str y2 b2, .str y3 b3] 4), (NM, W.listOf #[.str n0 a0, .str n1 a1, .str n2 a2, .str n3 a3] 4), (L + 1 + 1 + 1 + 1, o4)] [(CS, W.listOf #[.int c10 t1, .int c20 t2, .int c21 t3, .int c30 t4, .int c31 t5, .int c32 t6] 6), (PR, W.listOf #[.ref P10, .ref P20, .ref P21, .ref P30, .ref P31, .ref P32] 6), (P10, pairObj (.int ((1 : Nat) : Int) i1) (.int ((0 : Nat) : Int) j1)), (P20, pairObj (.int ((2 : Nat) : Int) i2) (.int ((0 : Nat) : Int) j2)), (P21, pairObj (.int ((2 : Nat) : Int) i3) (.int ((1 : Nat) : Int) j3)), (P30, pairObj (.int ((3 : Nat) : Int) i4) (.int ((0 : Nat) : Int) j4)), (P31, pairObj (.int ((3 : Nat) : Int) i5) (.int ((1 : Nat) : Int) j5)), (P32, pairObj (.int ((3 : Nat) : Int) i6) (.int ((2 : Nat) : Int) j6)),
                (L + 1 + 1 + 1, oD), (DP, W.listOf #[.int (l0 : Int) u0, .int (l1 : Int) u1, .int (l2 : Int) u2, .int (l3 : Int) u3] 4), (L + 1 + 1, oW), (WS, W.listOf #[.str y0 b0, .str y1 b1, .str y2 b2, .str y3 b3] 4), (NM, W.listOf #[.str n0 a0, .str n1 a1, .str n2 a2, .str n3 a3] 4)] := cellFn c4 (by repeat (first | (with_reducible exact List.mem_cons_self) | (with_reducible refine List.mem_cons_of_mem _ ?_))) (by repeat' (first | exact List.forall_mem_nil _ | (with_reducible refine List.forall_mem_cons.mpr ⟨?_, ?_⟩) | (with_reducible exact List.mem_cons_self) | (with_reducible refine List.mem_cons_of_mem _ ?_))) (by
                    repeat' (first | exact List.forall_mem_nil _ | refine List.forall_mem_cons.mpr ⟨?_, ?_⟩ | (refine .inl (neN ?_); omega) | exact .inr no_cell))
                  refine execs_cutC 1 (fun J => ∀ h tk CM o4 v1 v2 v3 v4 v5 v6 n, o4.data = .cell (some (.ref CM)) →
          Fr s₁.heap L h (ov (fun _ => none) [(Str.ofString "script", vS), (Str.ofString "plain", .str pl tp), (Str.ofString "dressed", .str dr tq), (Str.ofString "names", .ref NM), (Str.ofString "pairs", .ref PR), (Str.ofString "costs", .ref CS)]) →
          News s₁.heap L h [(L + 1 + 1 + 1 + 1, o4), (CM, W.listOf #[.int (s10 : Int) v1, .int (s20 : Int) v2, .int (s21 : Int) v3, .int (s30 : Int) v4, .int (s31 : Int) v5, .int (s32 : Int) v6] n), (L + 1 + 1 + 1, oD), (DP, W.listOf #[.int (l0 : Int) u0, .int (l1 : Int) u1, .int (l2 : Int) u2, .int (l3 : Int) u3] 4), (NM, W.listOf #[.str n0 a0, .str n1 a1, .str n2 a2, .str n3 a3] 4)] → J ⟨h, gs, s₁.drawn, tk, s₁.os⟩) (fun J hJ => ?_) ?_
                  · dsimp only [List.take, List.drop]
                    --[
                    tb_start
                    with_reducible rename Fr s₁.heap L _ _ => F9
                    with_reducible rename News s₁.heap L _ _ => N9
                    with_reducible rename Obj.data _ = Data.cell (some _) => d9
                    exact hJ _ _ _ _ _ _ _ _ _ _ _ d9 F9 (law_sub9 N9)
                    --]
                  · clear F8 N8 c4 hcf
                    intro h9 tk9 CM oC v1 v2 v3 v4 v5 v6 nC c4 F9 N9
                    dsimp only [List.take, List.drop]
                    refine execs_cutC 1 (fun J => ∀ h tk SH S0 S1 S2 S3 k0 k1 k2 k3, Fr s₁.heap L h (ov (fun _ => none) [(Str.ofString "script", vS), (Str.ofString "plain", .str pl tp), (Str.ofString "dressed", .str dr tq), (Str.ofString "names", .ref NM), (Str.ofString "pairs", .ref PR), (Str.ofString "costs", .ref CS), (Str.ofString "shared", .ref SH)]) →
          News s₁.heap L h [(SH, W.listOf #[.ref S0, .ref S1, .ref S2, .ref S3] 4), (S3, W.listOf #[.int (s30 : Int) v4, .int (s31 : Int) v5, .int (s32 : Int) v6] k3), (S2, W.listOf #[.int (s20 : Int) v2, .int (s21 : Int) v3] k2), (S1, W.listOf #[.int (s10 : Int) v1] k1), (S0, W.listOf #[] k0),
                        (L + 1 + 1 + 1 + 1, oC), (CM, W.listOf #[.int (s10 : Int) v1, .int (s20 : Int) v2, .int (s21 : Int) v3, .int (s30 : Int) v4, .int (s31 : Int) v5, .int (s32 : Int) v6] nC), (L + 1 + 1 + 1, oD), (DP, W.listOf #[.int (l0 : Int) u0, .int (l1 : Int) u1, .int (l2 : Int) u2, .int (l3 : Int) u3] 4), (NM, W.listOf #[.str n0 a0, .str n1 a1, .str n2 a2, .str n3 a3] 4)] → J ⟨h, gs, s₁.drawn, tk, s₁.os⟩) (fun J hJ => ?_) ?_
                    · dsimp only [List.take, List.drop]
                      --[
                      tb_start
                      with_reducible rename Fr s₁.heap L _ _ => F9
                      with_reducible rename News s₁.heap L _ _ => N9
                      exact hJ _ _ _ _ _ _ _ _ _ _ _ (fr_ov F9 rfl) N9
                      --]
                    · clear F9 N9
                      intro h10 tk10 SH S0 S1 S2 S3 k0 k1 k2 k3 F10 N10
                      dsimp only [List.take, List.drop]
                      tb_start
                      with_reducible rename Fr s₁.heap L _ _ => FE
                      with_reducible rename Shared.gens _ = #[] => hgE
                      subst hL
                      refine goodWG_reads hBh.out FE (law_bare hgE hgs) (raisesW_false (by wrow_none_raised)) (ReadsW.bool _) (fun _ => ⟨List.nodup_nil, fun a h => nomatch h⟩) ?_ rfl
                      rw [beq_self_eq_true]
                      wrow_post

end Mine
theorem PySem.Challenge.cw_sh0066_01_holds : PySem.Challenge.rw_sh0066_01.Holds :=
  Mine.law_thm
