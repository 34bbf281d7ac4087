import PyProof.Rows.All
import Wide.All
import OpenK.AllK
import Wide.FinOn
import Lean
import PySem.Challenge.RW_sw0083_01
set_option Elab.async false
set_option maxRecDepth 100000
set_option linter.all false
set_option pp.deepTerms false
set_option pp.deepTerms.threshold 6
set_option pp.maxSteps 3000

section
open PySem PySem.W PyProof.Rows PySem.Calls PySem.Spec
namespace Mine
section
variable {M : Model} {prog : Program} {w : World} {A : Around} {E : Value → Shared → Prop} {env : Env} {Q : Value → Shared → Prop} {hp : Heap} {gs : Array GenState} {dr : Drawn} {tk : Nat} {os : _} {a b : Int} {t u : Tok} {x : Str} {k : Nat} {pos : Pos}
theorem const_intN (h : Q (.int a tk) ⟨hp, gs, dr, tk + 1, os⟩) : wpAny M A (eval (.Constant (.int a) k pos) env) Q E ⟨hp, gs, dr, tk, os⟩ := wpAny_Constant_int h
theorem const_strN (h : Q (.str x tk) ⟨hp, gs, dr, tk + 1, os⟩) : wpAny M A (eval (.Constant (.str x) k pos) env) Q E ⟨hp, gs, dr, tk, os⟩ := Calls.Constant_str h
theorem add_intN (h : Q (.int (a + b) tk) ⟨hp, gs, dr, tk + 1, os⟩) : wpAny (model prog w) A (binaryOp .Add (.int a t) (.int b u)) Q E ⟨hp, gs, dr, tk, os⟩ := add_int h
theorem mod_intN (hb : b ≠ 0) (h : Q (.int (a.fmod b) tk) ⟨hp, gs, dr, tk + 1, os⟩) : wpAny (model prog w) A (binaryOp .Mod (.int a t) (.int b u)) Q E ⟨hp, gs, dr, tk, os⟩ := mod_int' hb h
end
end Mine
end

section
open PySem PySem.W PyProof.Rows
set_option maxHeartbeats 0
namespace Mine
noncomputable abbrev pw : Program := PySem.Challenge.pw_sw0083_01
noncomputable def stmtAt : List Nat → Option Stmt
  | [i] => pw.main.body[i]?
  | [i, j] => match pw.main.body[i]? with
    | some (.ClassDef _ _ _ b _ _ _ _ _ _ _) => b[j]?
    | _ => none
  | _ => none
noncomputable abbrev mkFn {n : Str} {a : Arguments} {b : List Stmt} {d : List Expr} {r : Option Expr} {t : List TypeParam} {s : Scope} {u : Option Scope} {bd : Str} {q : Pos} (f : Arguments → List Stmt → Scope → Obj) (path : List Nat)
  (_ : stmtAt path = some (.FunctionDef n a b d r t s u bd q)) : Obj := f a b s
noncomputable abbrev o2 (P : Params) : Obj := ⟨.none,none,(.dict #[⟨(PyData.keyHash P (.ofString "\x69mport.loaded._sre")),(.str (.ofString "\x69mport.loaded._sre") 183),(.bool true)⟩,⟨(PyData.keyHash P (.ofString "class._frozen_importlib.BuiltinImporter")),(.str (.ofString "class._frozen_importlib.BuiltinImporter") 185),(.ref 14)⟩,⟨(PyData.keyHash P (.ofString "watched.\x69mport")),(.str (.ofString "watched.\x69mport") 206),(.ref 18)⟩,⟨(PyData.keyHash P (.ofString "class._frozen_importlib.ModuleSpec")),(.str (.ofString "class._frozen_importlib.ModuleSpec") 216),(.ref 22)⟩,⟨(PyData.keyHash P (.ofString "sys.modules.booked-epoch")),(.str (.ofString "sys.modules.booked-epoch") 245),(.int 3 0)⟩,⟨(PyData.keyHash P (.ofString "\x69mport.later-laid._sre")),(.str (.ofString "\x69mport.later-laid._sre") 270),(.bool true)⟩,⟨(PyData.keyHash P (.ofString "watched.library")),(.str (.ofString "watched.library") 272),(.ref 27)⟩,⟨(PyData.keyHash P (.ofString "watched.library-objects")),(.str (.ofString "watched.library-objects") 0),(.str (.ofString "\x0c") 0)⟩,⟨(PyData.keyHash P (.ofString "watched.library-deep._sre")),(.str (.ofString "watched.library-deep._sre") 273),(.str (.ofString "\x04\x00\x00\x0b\x04\x00\x00\x0b\x04\x00\x00\x03\x04\x00\x00\x0b\x08\x04dict\x02") 0)⟩] 9),#[]⟩
noncomputable abbrev o3 (P : Params) : Obj := ⟨(.type "dict"),none,(.dict #[⟨(PyData.keyHash P (.ofString "__name__")),(.str (.ofString "__name__") 165),(.str (.ofString "law_sw0083_01") 883)⟩,⟨(PyData.keyHash P (.ofString "__doc__")),(.str (.ofString "__doc__") 166),.none⟩,⟨(PyData.keyHash P (.ofString "__package__")),(.str (.ofString "__package__") 167),.none⟩,⟨(PyData.keyHash P (.ofString "__loader__")),(.str (.ofString "__loader__") 168),(.builtin "__main__.__loader__#opaque")⟩,⟨(PyData.keyHash P (.ofString "__spec__")),(.str (.ofString "__spec__") 169),.none⟩,⟨(PyData.keyHash P (.ofString "__annotations__")),(.str (.ofString "__annotations__") 170),(.ref 6)⟩,⟨(PyData.keyHash P (.ofString "__builtins__")),(.str (.ofString "__builtins__") 171),(.ref 4)⟩,⟨(PyData.keyHash P (.ofString "__file__")),(.str (.ofString "__file__") 173),(.str (.ofString "/claim/cut.py") 172)⟩,⟨(PyData.keyHash P (.ofString "__cached__")),(.str (.ofString "__cached__") 174),.none⟩,⟨(PyData.keyHash P (.ofString "_sre")),(.str (.ofString "_sre") 275),(.ref 12)⟩,⟨(PyData.keyHash P (.ofString "_wall")),(.str (.ofString "_wall") 288),(.ref 38)⟩,⟨(PyData.keyHash P (.ofString "COMPILER_FLAG_NAMES")),(.str (.ofString "COMPILER_FLAG_NAMES") 321),(.ref 39)⟩,⟨(PyData.keyHash P (.ofString "pretty_flags")),(.str (.ofString "pretty_flags") 331),(.ref 46)⟩,⟨(PyData.keyHash P (.ofString "_MAX_STRING_SIZE")),(.str (.ofString "_MAX_STRING_SIZE") 335),(.int 40 334)⟩,⟨(PyData.keyHash P (.ofString "_MOVE_COST")),(.str (.ofString "_MOVE_COST") 337),(.int 2 336)⟩,⟨(PyData.keyHash P (.ofString "_CASE_COST")),(.str (.ofString "_CASE_COST") 339),(.int 1 338)⟩,⟨(PyData.keyHash P (.ofString "_substitution_cost")),(.str (.ofString "_substitution_cost") 347),(.ref 53)⟩,⟨(PyData.keyHash P (.ofString "_levenshtein_distance")),(.str (.ofString "_levenshtein_distance") 367),(.ref 60)⟩,⟨(PyData.keyHash P (.ofString "tspecials")),(.str (.ofString "tspecials") 403),(.ref 65)⟩,⟨(PyData.keyHash P (.ofString "_name_disallowed_re")),(.str (.ofString "_name_disallowed_re") 429),(.ref 70)⟩,⟨(PyData.keyHash P (.ofString "_value_disallowed_re")),(.str (.ofString "_value_disallowed_re") 463),(.ref 75)⟩,⟨(PyData.keyHash P (.ofString "_formatparam")),(.str (.ofString "_formatparam") 473),(.ref 83)⟩,⟨(PyData.keyHash P (.ofString "Headers")),(.str (.ofString "Headers") 632),(.ref 206)⟩,⟨(PyData.keyHash P (.ofString "_twin_re_1")),(.str (.ofString "_twin_re_1") 672),(.ref 215)⟩,⟨(PyData.keyHash P (.ofString "_namespace_map")),(.str (.ofString "_namespace_map") 694),(.ref 216)⟩,⟨(PyData.keyHash P (.ofString "_raise_serialization_error")),(.str (.ofString "_raise_serialization_error") 701),(.ref 223)⟩,⟨(PyData.keyHash P (.ofString "_looks_like_prefix_name")),(.str (.ofString "_looks_like_prefix_name") 703),(.ref 224)⟩,⟨(PyData.keyHash P (.ofString "C14NWriterTarget")),(.str (.ofString "C14NWriterTarget") 868),(.ref 322)⟩,⟨(PyData.keyHash P (.ofString "_escape_cdata_c14n")),(.str (.ofString "_escape_cdata_c14n") 875),(.ref 333)⟩,⟨(PyData.keyHash P (.ofString "_escape_attrib_c14n")),(.str (.ofString "_escape_attrib_c14n") 882),(.ref 340)⟩,⟨(PyData.keyHash P (.ofString "_law_word")),(.str (.ofString "_law_word") 892),(.ref 347)⟩,⟨(PyData.keyHash P (.ofString "_law_step")),(.str (.ofString "_law_step") 902),(.ref 354)⟩,⟨(PyData.keyHash P (.ofString "_law_canonical")),(.str (.ofString "_law_canonical") 911),(.ref 361)⟩,⟨(PyData.keyHash P (.ofString "_law_due")),(.str (.ofString "_law_due") 917),(.ref 366)⟩,⟨(PyData.keyHash P (.ofString "law")),(.str (.ofString "law") 923),(.ref 371)⟩] 35),#[]⟩
noncomputable abbrev o32 : Obj := ⟨(.type "tuple"),none,(.seq #[] 0),#[]⟩
noncomputable abbrev o34 : Obj := ⟨(.type "tuple"),none,(.seq #[(.str (.ofString "k") 285)] 0),#[]⟩
noncomputable abbrev o35 : Obj := ⟨(.type "tuple"),none,(.seq #[] 0),#[]⟩
noncomputable abbrev o37 : Obj := ⟨(.type "code"),none,(.fields #[(.str (.ofString "_wall") 282),(.str (.ofString "_wall") 283),(.str (.ofString "/claim/cut.py") 284),(.int 2 0),(.int 1 0),(.int 0 0),(.int 0 0),(.int 3 0),(.ref 32),(.bool true),(.int 276 0),(.ref 33),.none,(.ref 34),(.ref 35),(.ref 36),(.int 286 0),(.int 2 0),(.str (.ofString "/claim/cut.py") 287)]),#[]⟩
noncomputable abbrev o39 : Obj := ⟨(.type "dict"),none,(.dict #[⟨1,(.int 1 291),(.str (.ofString "OPTIMIZED") 292)⟩,⟨2,(.int 2 293),(.str (.ofString "NEWLOCALS") 294)⟩,⟨4,(.int 4 295),(.str (.ofString "VARARGS") 296)⟩,⟨8,(.int 8 297),(.str (.ofString "VARKEYWORDS") 298)⟩,⟨16,(.int 16 299),(.str (.ofString "NESTED") 300)⟩,⟨32,(.int 32 301),(.str (.ofString "GENERATOR") 302)⟩,⟨64,(.int 64 303),(.str (.ofString "NOFREE") 304)⟩,⟨128,(.int 128 305),(.str (.ofString "COROUTINE") 306)⟩,⟨256,(.int 256 307),(.str (.ofString "ITERABLE_COROUTINE") 308)⟩,⟨512,(.int 512 309),(.str (.ofString "ASYNC_GENERATOR") 310)⟩] 10),#[]⟩
noncomputable abbrev o40 : Obj := ⟨(.type "tuple"),none,(.seq #[] 0),#[]⟩
noncomputable abbrev o42 : Obj := ⟨(.type "tuple"),none,(.seq #[(.str (.ofString "flags") 325),(.str (.ofString "names") 326),(.str (.ofString "i") 327),(.str (.ofString "flag") 328)] 0),#[]⟩
noncomputable abbrev o43 : Obj := ⟨(.type "tuple"),none,(.seq #[] 0),#[]⟩
noncomputable abbrev o45 : Obj := ⟨(.type "code"),none,(.fields #[(.str (.ofString "pretty_flags") 322),(.str (.ofString "pretty_flags") 323),(.str (.ofString "/claim/cut.py") 324),(.int 7 0),(.int 1 0),(.int 0 0),(.int 0 0),(.int 3 0),(.ref 40),(.bool true),(.int 276 0),(.ref 41),.none,(.ref 42),(.ref 43),(.ref 44),(.int 329 0),(.int 7 0),(.str (.ofString "/claim/cut.py") 330)]),#[]⟩
noncomputable abbrev o46 : Obj := mkFn (fun a b s => ⟨(.type "function"),none,.func ⟨.ofString "pretty_flags",.ofString "pretty_flags",a,.stmts b,s,3,[],.none,.none,.none,(.str (.ofString "cpy313.dis") 289),none,(.ref 45),.none,0⟩,#[]⟩) [4] rfl
noncomputable abbrev o47 : Obj := ⟨(.type "tuple"),none,(.seq #[] 0),#[]⟩
noncomputable abbrev o49 : Obj := ⟨(.type "tuple"),none,(.seq #[(.str (.ofString "ch_a") 343),(.str (.ofString "ch_b") 344)] 0),#[]⟩
noncomputable abbrev o50 : Obj := ⟨(.type "tuple"),none,(.seq #[] 0),#[]⟩
noncomputable abbrev o52 : Obj := ⟨(.type "code"),none,(.fields #[(.str (.ofString "_substitution_cost") 340),(.str (.ofString "_substitution_cost") 341),(.str (.ofString "/claim/cut.py") 342),(.int 23 0),(.int 2 0),(.int 0 0),(.int 0 0),(.int 3 0),(.ref 47),(.bool true),(.int 276 0),(.ref 48),.none,(.ref 49),(.ref 50),(.ref 51),(.int 345 0),(.int 23 0),(.str (.ofString "/claim/cut.py") 346)]),#[]⟩
noncomputable abbrev o54 : Obj := ⟨(.type "tuple"),none,(.seq #[] 0),#[]⟩
noncomputable abbrev o56 : Obj := ⟨(.type "tuple"),none,(.seq #[(.str (.ofString "a") 351),(.str (.ofString "b") 352),(.str (.ofString "max_cost") 353),(.str (.ofString "pre") 354),(.str (.ofString "post") 355),(.str (.ofString "row") 356),(.str (.ofString "result") 357),(.str (.ofString "bindex") 358),(.str (.ofString "bchar") 359),(.str (.ofString "distance") 360),(.str (.ofString "minimum") 361),(.str (.ofString "index") 362),(.str (.ofString "substitute") 363),(.str (.ofString "insert_delete") 364)] 0),#[]⟩
noncomputable abbrev o57 : Obj := ⟨(.type "tuple"),none,(.seq #[] 0),#[]⟩
noncomputable abbrev o59 : Obj := ⟨(.type "code"),none,(.fields #[(.str (.ofString "_levenshtein_distance") 348),(.str (.ofString "_levenshtein_distance") 349),(.str (.ofString "/claim/cut.py") 350),(.int 29 0),(.int 3 0),(.int 0 0),(.int 0 0),(.int 3 0),(.ref 54),(.bool true),(.int 276 0),(.ref 55),.none,(.ref 56),(.ref 57),(.ref 58),(.int 365 0),(.int 29 0),(.str (.ofString "/claim/cut.py") 366)]),#[]⟩
noncomputable abbrev o60 : Obj := mkFn (fun a b s => ⟨(.type "function"),none,.func ⟨.ofString "_levenshtein_distance",.ofString "_levenshtein_distance",a,.stmts b,s,3,[],.none,.none,.none,(.str (.ofString "cpy313.traceback") 332),none,(.ref 59),.none,0⟩,#[]⟩) [10] rfl
noncomputable abbrev o64 : Obj := ⟨(.type "tuple"),none,(.seq #[(.int 14 0),(.int 14 0),(.int 4 0),(.int 1 0),(.int 1 0),(.int 9 0),(.int 0 0),(.int 4227896069 0),(.int 939524097 0),(.int 0 0),(.int 0 0),(.int 0 0),(.int 0 0),(.int 0 0),(.int 0 0),(.int 13 0),(.int 11 0),(.int 9 0),(.int 0 0),(.int 4227896069 0),(.int 939524097 0),(.int 0 0),(.int 0 0),(.int 0 0),(.int 0 0),(.int 0 0),(.int 0 0),(.int 1 0)] 0),#[]⟩
noncomputable abbrev o65 : Obj := ⟨(.type "re.Pattern"),none,(.fields #[(.str (.ofString "[ \\(\\)<>@,;:\\\\\"/\\[\\]\\?=]") 371),(.int 32 402),(.int 0 0),.none,.none,(.ref 64),(.int 0 0)]),#[]⟩
noncomputable abbrev o69 : Obj := ⟨(.type "tuple"),none,(.seq #[(.int 14 0),(.int 10 0),(.int 4 0),(.int 1 0),(.int 1 0),(.int 22 0),(.int 0 0),(.int 31 0),(.int 16 0),(.int 127 0),(.int 0 0),(.int 13 0),(.int 7 0),(.int 22 0),(.int 0 0),(.int 31 0),(.int 16 0),(.int 127 0),(.int 0 0),(.int 1 0)] 0),#[]⟩
noncomputable abbrev o70 : Obj := ⟨(.type "re.Pattern"),none,(.fields #[(.str (.ofString "[\\x00-\\x1F\\x7F]") 405),(.int 32 428),(.int 0 0),.none,.none,(.ref 69),(.int 0 0)]),#[]⟩
noncomputable abbrev o74 : Obj := ⟨(.type "tuple"),none,(.seq #[(.int 14 0),(.int 14 0),(.int 4 0),(.int 1 0),(.int 1 0),(.int 9 0),(.int 4294966783 0),(.int 0 0),(.int 0 0),(.int 2147483648 0),(.int 0 0),(.int 0 0),(.int 0 0),(.int 0 0),(.int 0 0),(.int 13 0),(.int 11 0),(.int 9 0),(.int 4294966783 0),(.int 0 0),(.int 0 0),(.int 2147483648 0),(.int 0 0),(.int 0 0),(.int 0 0),(.int 0 0),(.int 0 0),(.int 1 0)] 0),#[]⟩
noncomputable abbrev o75 : Obj := ⟨(.type "re.Pattern"),none,(.fields #[(.str (.ofString "[\\x00-\\x08\\x0A-\\x1F\\x7F]") 431),(.int 32 462),(.int 0 0),.none,.none,(.ref 74),(.int 0 0)]),#[]⟩
noncomputable abbrev o76 : Obj := ⟨(.type "tuple"),none,(.seq #[.none,(.int 1 464)] 0),#[]⟩
noncomputable abbrev o77 : Obj := ⟨(.type "tuple"),none,(.seq #[] 0),#[]⟩
noncomputable abbrev o79 : Obj := ⟨(.type "tuple"),none,(.seq #[(.str (.ofString "param") 468),(.str (.ofString "value") 469),(.str (.ofString "quote") 470)] 0),#[]⟩
noncomputable abbrev o80 : Obj := ⟨(.type "tuple"),none,(.seq #[] 0),#[]⟩
noncomputable abbrev o82 : Obj := ⟨(.type "code"),none,(.fields #[(.str (.ofString "_formatparam") 465),(.str (.ofString "_formatparam") 466),(.str (.ofString "/claim/cut.py") 467),(.int 71 0),(.int 3 0),(.int 0 0),(.int 0 0),(.int 3 0),(.ref 77),(.bool true),(.int 276 0),(.ref 78),.none,(.ref 79),(.ref 80),(.ref 81),(.int 471 0),(.int 71 0),(.str (.ofString "/claim/cut.py") 472)]),#[]⟩
noncomputable abbrev o91 : Obj := ⟨(.type "tuple"),none,(.seq #[.none] 0),#[]⟩
noncomputable abbrev o92 : Obj := ⟨(.type "tuple"),none,(.seq #[] 0),#[]⟩
noncomputable abbrev o94 : Obj := ⟨(.type "tuple"),none,(.seq #[(.str (.ofString "self") 489),(.str (.ofString "headers") 490),(.str (.ofString "k") 491),(.str (.ofString "v") 492)] 0),#[]⟩
noncomputable abbrev o95 : Obj := ⟨(.type "tuple"),none,(.seq #[] 0),#[]⟩
noncomputable abbrev o97 : Obj := ⟨(.type "code"),none,(.fields #[(.str (.ofString "__init__") 486),(.str (.ofString "Headers.__init__") 487),(.str (.ofString "/claim/cut.py") 488),(.int 82 0),(.int 2 0),(.int 0 0),(.int 0 0),(.int 3 0),(.ref 92),(.bool true),(.int 276 0),(.ref 93),.none,(.ref 94),(.ref 95),(.ref 96),(.int 493 0),(.int 82 0),(.str (.ofString "/claim/cut.py") 494)]),#[]⟩
noncomputable abbrev o98 : Obj := mkFn (fun a b s => ⟨(.type "function"),none,.func ⟨.ofString "__init__",.ofString "Headers.__init__",a,.stmts b,s,3,[],(.ref 91),.none,.none,(.str (.ofString "cpy313.wsgiref.headers") 368),none,(.ref 97),.none,0⟩,#[]⟩) [16, 0] rfl
noncomputable abbrev o99 : Obj := ⟨(.type "tuple"),none,(.seq #[] 0),#[]⟩
noncomputable abbrev o101 : Obj := ⟨(.type "tuple"),none,(.seq #[(.str (.ofString "self") 499),(.str (.ofString "value") 500),(.str (.ofString "name") 501),(.str (.ofString "regex") 502)] 0),#[]⟩
noncomputable abbrev o102 : Obj := ⟨(.type "tuple"),none,(.seq #[] 0),#[]⟩
noncomputable abbrev o104 : Obj := ⟨(.type "code"),none,(.fields #[(.str (.ofString "_convert_string_type") 496),(.str (.ofString "Headers._convert_string_type") 497),(.str (.ofString "/claim/cut.py") 498),(.int 92 0),(.int 2 0),(.int 0 0),(.int 1 0),(.int 3 0),(.ref 99),(.bool true),(.int 276 0),(.ref 100),.none,(.ref 101),(.ref 102),(.ref 103),(.int 503 0),(.int 92 0),(.str (.ofString "/claim/cut.py") 504)]),#[]⟩
noncomputable abbrev o105 : Obj := mkFn (fun a b s => ⟨(.type "function"),none,.func ⟨.ofString "_convert_string_type",.ofString "Headers._convert_string_type",a,.stmts b,s,3,[],.none,.none,.none,(.str (.ofString "cpy313.wsgiref.headers") 368),none,(.ref 104),.none,0⟩,#[]⟩) [16, 1] rfl
noncomputable abbrev o106 : Obj := ⟨(.type "tuple"),none,(.seq #[] 0),#[]⟩
noncomputable abbrev o108 : Obj := ⟨(.type "tuple"),none,(.seq #[(.str (.ofString "self") 509)] 0),#[]⟩
noncomputable abbrev o109 : Obj := ⟨(.type "tuple"),none,(.seq #[] 0),#[]⟩
noncomputable abbrev o111 : Obj := ⟨(.type "code"),none,(.fields #[(.str (.ofString "__len__") 506),(.str (.ofString "Headers.__len__") 507),(.str (.ofString "/claim/cut.py") 508),(.int 100 0),(.int 1 0),(.int 0 0),(.int 0 0),(.int 3 0),(.ref 106),(.bool true),(.int 276 0),(.ref 107),.none,(.ref 108),(.ref 109),(.ref 110),(.int 510 0),(.int 100 0),(.str (.ofString "/claim/cut.py") 511)]),#[]⟩
noncomputable abbrev o113 : Obj := ⟨(.type "tuple"),none,(.seq #[] 0),#[]⟩
noncomputable abbrev o115 : Obj := ⟨(.type "tuple"),none,(.seq #[(.str (.ofString "self") 516),(.str (.ofString "name") 517),(.str (.ofString "val") 518)] 0),#[]⟩
noncomputable abbrev o116 : Obj := ⟨(.type "tuple"),none,(.seq #[] 0),#[]⟩
noncomputable abbrev o118 : Obj := ⟨(.type "code"),none,(.fields #[(.str (.ofString "__setitem__") 513),(.str (.ofString "Headers.__setitem__") 514),(.str (.ofString "/claim/cut.py") 515),(.int 103 0),(.int 3 0),(.int 0 0),(.int 0 0),(.int 3 0),(.ref 113),(.bool true),(.int 276 0),(.ref 114),.none,(.ref 115),(.ref 116),(.ref 117),(.int 519 0),(.int 103 0),(.str (.ofString "/claim/cut.py") 520)]),#[]⟩
noncomputable abbrev o120 : Obj := ⟨(.type "tuple"),none,(.seq #[] 0),#[]⟩
noncomputable abbrev o123 : Obj := ⟨(.type "code"),none,(.fields #[(.str (.ofString "__delitem__") 522),(.str (.ofString "Headers.__delitem__") 523),(.str (.ofString "/claim/cut.py") 524),(.int 107 0),(.int 2 0),(.int 0 0),(.int 0 0),(.int 3 0),(.ref 120),(.bool true),(.int 276 0),(.ref 121),.none,.none,.none,(.ref 122),(.int 525 0),(.int 107 0),(.str (.ofString "/claim/cut.py") 526)]),#[]⟩
noncomputable abbrev o124 : Obj := mkFn (fun a b s => ⟨(.type "function"),none,.func ⟨.ofString "__delitem__",.ofString "Headers.__delitem__",a,.stmts b,s,3,[],.none,.none,.none,(.str (.ofString "cpy313.wsgiref.headers") 368),none,(.ref 123),.none,0⟩,#[]⟩) [16, 4] rfl
noncomputable abbrev o125 : Obj := ⟨(.type "tuple"),none,(.seq #[] 0),#[]⟩
noncomputable abbrev o127 : Obj := ⟨(.type "tuple"),none,(.seq #[(.str (.ofString "self") 531),(.str (.ofString "name") 532)] 0),#[]⟩
noncomputable abbrev o128 : Obj := ⟨(.type "tuple"),none,(.seq #[] 0),#[]⟩
noncomputable abbrev o130 : Obj := ⟨(.type "code"),none,(.fields #[(.str (.ofString "__getitem__") 528),(.str (.ofString "Headers.__getitem__") 529),(.str (.ofString "/claim/cut.py") 530),(.int 111 0),(.int 2 0),(.int 0 0),(.int 0 0),(.int 3 0),(.ref 125),(.bool true),(.int 276 0),(.ref 126),.none,(.ref 127),(.ref 128),(.ref 129),(.int 533 0),(.int 111 0),(.str (.ofString "/claim/cut.py") 534)]),#[]⟩
noncomputable abbrev o132 : Obj := ⟨(.type "tuple"),none,(.seq #[] 0),#[]⟩
noncomputable abbrev o134 : Obj := ⟨(.type "tuple"),none,(.seq #[(.str (.ofString "self") 539),(.str (.ofString "name") 540)] 0),#[]⟩
noncomputable abbrev o135 : Obj := ⟨(.type "tuple"),none,(.seq #[] 0),#[]⟩
noncomputable abbrev o137 : Obj := ⟨(.type "code"),none,(.fields #[(.str (.ofString "__contains__") 536),(.str (.ofString "Headers.__contains__") 537),(.str (.ofString "/claim/cut.py") 538),(.int 114 0),(.int 2 0),(.int 0 0),(.int 0 0),(.int 3 0),(.ref 132),(.bool true),(.int 276 0),(.ref 133),.none,(.ref 134),(.ref 135),(.ref 136),(.int 541 0),(.int 114 0),(.str (.ofString "/claim/cut.py") 542)]),#[]⟩
noncomputable abbrev o139 : Obj := ⟨(.type "tuple"),none,(.seq #[] 0),#[]⟩
noncomputable abbrev o141 : Obj := ⟨(.type "tuple"),none,(.seq #[(.str (.ofString "self") 547),(.str (.ofString "name") 548)] 0),#[]⟩
noncomputable abbrev o142 : Obj := ⟨(.type "tuple"),none,(.seq #[] 0),#[]⟩
noncomputable abbrev o144 : Obj := ⟨(.type "code"),none,(.fields #[(.str (.ofString "get_all") 544),(.str (.ofString "Headers.get_all") 545),(.str (.ofString "/claim/cut.py") 546),(.int 117 0),(.int 2 0),(.int 0 0),(.int 0 0),(.int 3 0),(.ref 139),(.bool true),(.int 276 0),(.ref 140),.none,(.ref 141),(.ref 142),(.ref 143),(.int 549 0),(.int 117 0),(.str (.ofString "/claim/cut.py") 550)]),#[]⟩
noncomputable abbrev o146 : Obj := ⟨(.type "tuple"),none,(.seq #[.none] 0),#[]⟩
noncomputable abbrev o147 : Obj := ⟨(.type "tuple"),none,(.seq #[] 0),#[]⟩
noncomputable abbrev o149 : Obj := ⟨(.type "tuple"),none,(.seq #[(.str (.ofString "self") 555),(.str (.ofString "name") 556),(.str (.ofString "default") 557),(.str (.ofString "k") 558),(.str (.ofString "v") 559)] 0),#[]⟩
noncomputable abbrev o150 : Obj := ⟨(.type "tuple"),none,(.seq #[] 0),#[]⟩
noncomputable abbrev o152 : Obj := ⟨(.type "code"),none,(.fields #[(.str (.ofString "get") 552),(.str (.ofString "Headers.get") 553),(.str (.ofString "/claim/cut.py") 554),(.int 120 0),(.int 3 0),(.int 0 0),(.int 0 0),(.int 3 0),(.ref 147),(.bool true),(.int 276 0),(.ref 148),.none,(.ref 149),(.ref 150),(.ref 151),(.int 560 0),(.int 120 0),(.str (.ofString "/claim/cut.py") 561)]),#[]⟩
noncomputable abbrev o154 : Obj := ⟨(.type "tuple"),none,(.seq #[] 0),#[]⟩
noncomputable abbrev o157 : Obj := ⟨(.type "code"),none,(.fields #[(.str (.ofString "keys") 563),(.str (.ofString "Headers.keys") 564),(.str (.ofString "/claim/cut.py") 565),(.int 127 0),(.int 1 0),(.int 0 0),(.int 0 0),(.int 3 0),(.ref 154),(.bool true),(.int 276 0),(.ref 155),.none,.none,.none,(.ref 156),(.int 566 0),(.int 127 0),(.str (.ofString "/claim/cut.py") 567)]),#[]⟩
noncomputable abbrev o159 : Obj := ⟨(.type "tuple"),none,(.seq #[] 0),#[]⟩
noncomputable abbrev o162 : Obj := ⟨(.type "code"),none,(.fields #[(.str (.ofString "values") 569),(.str (.ofString "Headers.values") 570),(.str (.ofString "/claim/cut.py") 571),(.int 130 0),(.int 1 0),(.int 0 0),(.int 0 0),(.int 3 0),(.ref 159),(.bool true),(.int 276 0),(.ref 160),.none,.none,.none,(.ref 161),(.int 572 0),(.int 130 0),(.str (.ofString "/claim/cut.py") 573)]),#[]⟩
noncomputable abbrev o164 : Obj := ⟨(.type "tuple"),none,(.seq #[] 0),#[]⟩
noncomputable abbrev o166 : Obj := ⟨(.type "tuple"),none,(.seq #[(.str (.ofString "self") 578)] 0),#[]⟩
noncomputable abbrev o167 : Obj := ⟨(.type "tuple"),none,(.seq #[] 0),#[]⟩
noncomputable abbrev o169 : Obj := ⟨(.type "code"),none,(.fields #[(.str (.ofString "items") 575),(.str (.ofString "Headers.items") 576),(.str (.ofString "/claim/cut.py") 577),(.int 133 0),(.int 1 0),(.int 0 0),(.int 0 0),(.int 3 0),(.ref 164),(.bool true),(.int 276 0),(.ref 165),.none,(.ref 166),(.ref 167),(.ref 168),(.int 579 0),(.int 133 0),(.str (.ofString "/claim/cut.py") 580)]),#[]⟩
noncomputable abbrev o170 : Obj := mkFn (fun a b s => ⟨(.type "function"),none,.func ⟨.ofString "items",.ofString "Headers.items",a,.stmts b,s,3,[],.none,.none,.none,(.str (.ofString "cpy313.wsgiref.headers") 368),none,(.ref 169),.none,0⟩,#[]⟩) [16, 11] rfl
noncomputable abbrev o171 : Obj := ⟨(.type "tuple"),none,(.seq #[] 0),#[]⟩
noncomputable abbrev o173 : Obj := ⟨(.type "tuple"),none,(.seq #[(.str (.ofString "self") 585)] 0),#[]⟩
noncomputable abbrev o174 : Obj := ⟨(.type "tuple"),none,(.seq #[] 0),#[]⟩
noncomputable abbrev o176 : Obj := ⟨(.type "code"),none,(.fields #[(.str (.ofString "__repr__") 582),(.str (.ofString "Headers.__repr__") 583),(.str (.ofString "/claim/cut.py") 584),(.int 136 0),(.int 1 0),(.int 0 0),(.int 0 0),(.int 3 0),(.ref 171),(.bool true),(.int 276 0),(.ref 172),.none,(.ref 173),(.ref 174),(.ref 175),(.int 586 0),(.int 136 0),(.str (.ofString "/claim/cut.py") 587)]),#[]⟩
noncomputable abbrev o178 : Obj := ⟨(.type "tuple"),none,(.seq #[] 0),#[]⟩
noncomputable abbrev o181 : Obj := ⟨(.type "code"),none,(.fields #[(.str (.ofString "__str__") 589),(.str (.ofString "Headers.__str__") 590),(.str (.ofString "/claim/cut.py") 591),(.int 139 0),(.int 1 0),(.int 0 0),(.int 0 0),(.int 3 0),(.ref 178),(.bool true),(.int 276 0),(.ref 179),.none,.none,.none,(.ref 180),(.int 592 0),(.int 139 0),(.str (.ofString "/claim/cut.py") 593)]),#[]⟩
noncomputable abbrev o182 : Obj := mkFn (fun a b s => ⟨(.type "function"),none,.func ⟨.ofString "__str__",.ofString "Headers.__str__",a,.stmts b,s,3,[],.none,.none,.none,(.str (.ofString "cpy313.wsgiref.headers") 368),none,(.ref 181),.none,0⟩,#[]⟩) [16, 13] rfl
noncomputable abbrev o183 : Obj := ⟨(.type "tuple"),none,(.seq #[] 0),#[]⟩
noncomputable abbrev o185 : Obj := ⟨(.type "tuple"),none,(.seq #[(.str (.ofString "self") 598)] 0),#[]⟩
noncomputable abbrev o186 : Obj := ⟨(.type "tuple"),none,(.seq #[] 0),#[]⟩
noncomputable abbrev o188 : Obj := ⟨(.type "code"),none,(.fields #[(.str (.ofString "__bytes__") 595),(.str (.ofString "Headers.__bytes__") 596),(.str (.ofString "/claim/cut.py") 597),(.int 142 0),(.int 1 0),(.int 0 0),(.int 0 0),(.int 3 0),(.ref 183),(.bool true),(.int 276 0),(.ref 184),.none,(.ref 185),(.ref 186),(.ref 187),(.int 599 0),(.int 142 0),(.str (.ofString "/claim/cut.py") 600)]),#[]⟩
noncomputable abbrev o190 : Obj := ⟨(.type "tuple"),none,(.seq #[] 0),#[]⟩
noncomputable abbrev o192 : Obj := ⟨(.type "tuple"),none,(.seq #[(.str (.ofString "self") 605),(.str (.ofString "name") 606),(.str (.ofString "value") 607)] 0),#[]⟩
noncomputable abbrev o193 : Obj := ⟨(.type "tuple"),none,(.seq #[] 0),#[]⟩
noncomputable abbrev o195 : Obj := ⟨(.type "code"),none,(.fields #[(.str (.ofString "setdefault") 602),(.str (.ofString "Headers.setdefault") 603),(.str (.ofString "/claim/cut.py") 604),(.int 145 0),(.int 3 0),(.int 0 0),(.int 0 0),(.int 3 0),(.ref 190),(.bool true),(.int 276 0),(.ref 191),.none,(.ref 192),(.ref 193),(.ref 194),(.int 608 0),(.int 145 0),(.str (.ofString "/claim/cut.py") 609)]),#[]⟩
noncomputable abbrev o197 : Obj := ⟨(.type "tuple"),none,(.seq #[] 0),#[]⟩
noncomputable abbrev o199 : Obj := ⟨(.type "tuple"),none,(.seq #[(.str (.ofString "self") 614),(.str (.ofString "_name") 615),(.str (.ofString "_value") 616),(.str (.ofString "_params") 617),(.str (.ofString "parts") 618),(.str (.ofString "k") 619),(.str (.ofString "v") 620)] 0),#[]⟩
noncomputable abbrev o200 : Obj := ⟨(.type "tuple"),none,(.seq #[] 0),#[]⟩
noncomputable abbrev o202 : Obj := ⟨(.type "code"),none,(.fields #[(.str (.ofString "add_header") 611),(.str (.ofString "Headers.add_header") 612),(.str (.ofString "/claim/cut.py") 613),(.int 148 0),(.int 3 0),(.int 0 0),(.int 0 0),(.int 11 0),(.ref 197),(.bool true),(.int 276 0),(.ref 198),.none,(.ref 199),(.ref 200),(.ref 201),(.int 621 0),(.int 148 0),(.str (.ofString "/claim/cut.py") 622)]),#[]⟩
noncomputable abbrev o203 : Obj := mkFn (fun a b s => ⟨(.type "function"),none,.func ⟨.ofString "add_header",.ofString "Headers.add_header",a,.stmts b,s,3,[],.none,.none,.none,(.str (.ofString "cpy313.wsgiref.headers") 368),none,(.ref 202),.none,0⟩,#[]⟩) [16, 16] rfl
noncomputable abbrev o204 : Obj := ⟨(.type "tuple"),none,(.seq #[(.str (.ofString "_headers") 624)] 0),#[]⟩
noncomputable abbrev o205 (P : Params) : Obj := ⟨(.type "dict"),none,(.dict #[⟨(PyData.keyHash P (.ofString "__module__")),(.str (.ofString "__module__") 481),(.str (.ofString "cpy313.wsgiref.headers") 368)⟩,⟨(PyData.keyHash P (.ofString "__firstlineno__")),(.str (.ofString "__firstlineno__") 485),(.int 80 484)⟩,⟨(PyData.keyHash P (.ofString "__init__")),(.str (.ofString "__init__") 495),(.ref 98)⟩,⟨(PyData.keyHash P (.ofString "_convert_string_type")),(.str (.ofString "_convert_string_type") 505),(.ref 105)⟩,⟨(PyData.keyHash P (.ofString "__len__")),(.str (.ofString "__len__") 512),(.ref 112)⟩,⟨(PyData.keyHash P (.ofString "__setitem__")),(.str (.ofString "__setitem__") 521),(.ref 119)⟩,⟨(PyData.keyHash P (.ofString "__delitem__")),(.str (.ofString "__delitem__") 527),(.ref 124)⟩,⟨(PyData.keyHash P (.ofString "__getitem__")),(.str (.ofString "__getitem__") 535),(.ref 131)⟩,⟨(PyData.keyHash P (.ofString "__contains__")),(.str (.ofString "__contains__") 543),(.ref 138)⟩,⟨(PyData.keyHash P (.ofString "get_all")),(.str (.ofString "get_all") 551),(.ref 145)⟩,⟨(PyData.keyHash P (.ofString "get")),(.str (.ofString "get") 562),(.ref 153)⟩,⟨(PyData.keyHash P (.ofString "keys")),(.str (.ofString "keys") 568),(.ref 158)⟩,⟨(PyData.keyHash P (.ofString "values")),(.str (.ofString "values") 574),(.ref 163)⟩,⟨(PyData.keyHash P (.ofString "items")),(.str (.ofString "items") 581),(.ref 170)⟩,⟨(PyData.keyHash P (.ofString "__repr__")),(.str (.ofString "__repr__") 588),(.ref 177)⟩,⟨(PyData.keyHash P (.ofString "__str__")),(.str (.ofString "__str__") 594),(.ref 182)⟩,⟨(PyData.keyHash P (.ofString "__bytes__")),(.str (.ofString "__bytes__") 601),(.ref 189)⟩,⟨(PyData.keyHash P (.ofString "setdefault")),(.str (.ofString "setdefault") 610),(.ref 196)⟩,⟨(PyData.keyHash P (.ofString "add_header")),(.str (.ofString "add_header") 623),(.ref 203)⟩,⟨(PyData.keyHash P (.ofString "__static_attributes__")),(.str (.ofString "__static_attributes__") 625),(.ref 204)⟩,⟨(PyData.keyHash P (.ofString "__dict__")),(.str (.ofString "__dict__") 627),(.ref 207)⟩,⟨(PyData.keyHash P (.ofString "__weakref__")),(.str (.ofString "__weakref__") 629),(.ref 208)⟩,⟨(PyData.keyHash P (.ofString "__doc__")),(.str (.ofString "__doc__") 630),.none⟩] 4),#[]⟩
noncomputable abbrev o206 : Obj := ⟨(.type "type"),none,(.cls ⟨(.ofString "Headers"),[(.type "object")],[(.ref 206),(.type "object")],205,(.ofString "Headers"),true,[],[],false,none,false⟩),#[none,none,(some (.str (.ofString "Headers") 474)),(some (.str (.ofString "Headers") 482)),(some (.builtin "object.__new__")),(some (.bool true))]⟩
noncomputable abbrev o207 : Obj := ⟨(.type "getset_descriptor"),none,(.fields #[(.str (.ofString "__dict__") 626),(.ref 206),(.builtin "function.__dict__"),(.builtin "function.__dict__#set")]),#[]⟩
noncomputable abbrev o208 : Obj := ⟨(.type "getset_descriptor"),none,(.fields #[(.str (.ofString "__weakref__") 628),(.ref 206),(.builtin "ExceptionGroup.__weakref__"),.none]),#[]⟩
noncomputable abbrev o214 : Obj := ⟨(.type "tuple"),none,(.seq #[(.int 14 0),(.int 4 0),(.int 0 0),(.int 3 0),(.int 4294967295 0),(.int 6 0),(.int 0 0),(.int 24 0),(.int 9 0),(.int 1 0),(.int 4294967295 0),(.int 13 0),(.int 4 0),(.int 8 0),(.int 14 0),(.int 0 0),(.int 1 0),(.int 16 0),(.int 58 0),(.int 24 0),(.int 9 0),(.int 1 0),(.int 4294967295 0),(.int 13 0),(.int 4 0),(.int 8 0),(.int 14 0),(.int 0 0),(.int 1 0),(.int 6 0),(.int 5 0),(.int 1 0)] 0),#[]⟩
noncomputable abbrev o215 : Obj := ⟨(.type "re.Pattern"),none,(.fields #[(.str (.ofString "^\\w+:\\w+$") 636),(.int 32 671),(.int 0 0),.none,.none,(.ref 214),(.int 0 0)]),#[]⟩
noncomputable abbrev o216 (P : Params) : Obj := ⟨(.type "dict"),none,(.dict #[⟨(PyData.keyHash P (.ofString "http://www.w3.org/XML/1998/namespace")),(.str (.ofString "http://www.w3.org/XML/1998/namespace") 673),(.str (.ofString "xml") 674)⟩,⟨(PyData.keyHash P (.ofString "http://www.w3.org/1999/xhtml")),(.str (.ofString "http://www.w3.org/1999/xhtml") 675),(.str (.ofString "html") 676)⟩,⟨(PyData.keyHash P (.ofString "http://www.w3.org/1999/02/22-rdf-syntax-ns#")),(.str (.ofString "http://www.w3.org/1999/02/22-rdf-syntax-ns#") 677),(.str (.ofString "rdf") 678)⟩,⟨(PyData.keyHash P (.ofString "http://schemas.xmlsoap.org/wsdl/")),(.str (.ofString "http://schemas.xmlsoap.org/wsdl/") 679),(.str (.ofString "wsdl") 680)⟩,⟨(PyData.keyHash P (.ofString "http://www.w3.org/2001/XMLSchema")),(.str (.ofString "http://www.w3.org/2001/XMLSchema") 681),(.str (.ofString "xs") 682)⟩,⟨(PyData.keyHash P (.ofString "http://www.w3.org/2001/XMLSchema-instance")),(.str (.ofString "http://www.w3.org/2001/XMLSchema-instance") 683),(.str (.ofString "xsi") 684)⟩,⟨(PyData.keyHash P (.ofString "http://purl.org/dc/elements/1.1/")),(.str (.ofString "http://purl.org/dc/elements/1.1/") 685),(.str (.ofString "dc") 686)⟩] 7),#[]⟩
noncomputable abbrev o217 : Obj := ⟨(.type "tuple"),none,(.seq #[] 0),#[]⟩
noncomputable abbrev o219 : Obj := ⟨(.type "tuple"),none,(.seq #[(.str (.ofString "text") 698)] 0),#[]⟩
noncomputable abbrev o220 : Obj := ⟨(.type "tuple"),none,(.seq #[] 0),#[]⟩
noncomputable abbrev o222 : Obj := ⟨(.type "code"),none,(.fields #[(.str (.ofString "_raise_serialization_error") 695),(.str (.ofString "_raise_serialization_error") 696),(.str (.ofString "/claim/cut.py") 697),(.int 164 0),(.int 1 0),(.int 0 0),(.int 0 0),(.int 3 0),(.ref 217),(.bool true),(.int 276 0),(.ref 218),.none,(.ref 219),(.ref 220),(.ref 221),(.int 699 0),(.int 164 0),(.str (.ofString "/claim/cut.py") 700)]),#[]⟩
noncomputable abbrev o224 : Obj := ⟨(.type "builtin_function_or_method"),none,(.fields #[(.builtin "re.Pattern.match"),(.ref 215)]),#[]⟩
noncomputable abbrev o232 (P : Params) : Obj := ⟨(.type "dict"),none,(.dict #[⟨(PyData.keyHash P (.ofString "with_comments")),(.str (.ofString "with_comments") 716),(.bool false)⟩,⟨(PyData.keyHash P (.ofString "strip_text")),(.str (.ofString "strip_text") 717),(.bool false)⟩,⟨(PyData.keyHash P (.ofString "rewrite_prefixes")),(.str (.ofString "rewrite_prefixes") 718),(.bool false)⟩,⟨(PyData.keyHash P (.ofString "qname_aware_tags")),(.str (.ofString "qname_aware_tags") 719),.none⟩,⟨(PyData.keyHash P (.ofString "qname_aware_attrs")),(.str (.ofString "qname_aware_attrs") 720),.none⟩,⟨(PyData.keyHash P (.ofString "exclude_attrs")),(.str (.ofString "exclude_attrs") 721),.none⟩,⟨(PyData.keyHash P (.ofString "exclude_tags")),(.str (.ofString "exclude_tags") 722),.none⟩] 7),#[]⟩
noncomputable abbrev o233 : Obj := ⟨(.type "tuple"),none,(.seq #[] 0),#[]⟩
noncomputable abbrev o235 : Obj := ⟨(.type "tuple"),none,(.seq #[(.str (.ofString "self") 726),(.str (.ofString "write") 727),(.str (.ofString "with_comments") 728),(.str (.ofString "strip_text") 729),(.str (.ofString "rewrite_prefixes") 730),(.str (.ofString "qname_aware_tags") 731),(.str (.ofString "qname_aware_attrs") 732),(.str (.ofString "exclude_attrs") 733),(.str (.ofString "exclude_tags") 734)] 0),#[]⟩
noncomputable abbrev o236 : Obj := ⟨(.type "tuple"),none,(.seq #[] 0),#[]⟩
noncomputable abbrev o238 : Obj := ⟨(.type "code"),none,(.fields #[(.str (.ofString "__init__") 723),(.str (.ofString "C14NWriterTarget.__init__") 724),(.str (.ofString "/claim/cut.py") 725),(.int 169 0),(.int 2 0),(.int 0 0),(.int 7 0),(.int 3 0),(.ref 233),(.bool true),(.int 276 0),(.ref 234),.none,(.ref 235),(.ref 236),(.ref 237),(.int 735 0),(.int 169 0),(.str (.ofString "/claim/cut.py") 736)]),#[]⟩
noncomputable abbrev o239 : Obj := mkFn (fun a b s => ⟨(.type "function"),none,.func ⟨.ofString "__init__",.ofString "C14NWriterTarget.__init__",a,.stmts b,s,3,[],.none,(.ref 232),.none,(.str (.ofString "cpy313.xml.etree.ElementTree") 633),none,(.ref 238),.none,0⟩,#[]⟩) [22, 0] rfl
noncomputable abbrev o240 : Obj := ⟨(.type "tuple"),none,(.seq #[(.type "reversed")] 0),#[]⟩
noncomputable abbrev o241 : Obj := ⟨(.type "tuple"),none,(.seq #[] 0),#[]⟩
noncomputable abbrev o243 : Obj := ⟨(.type "tuple"),none,(.seq #[(.str (.ofString "self") 741),(.str (.ofString "ns_stack") 742),(.str (.ofString "_reversed") 743),(.str (.ofString "namespaces") 744)] 0),#[]⟩
noncomputable abbrev o244 : Obj := ⟨(.type "tuple"),none,(.seq #[] 0),#[]⟩
noncomputable abbrev o246 : Obj := ⟨(.type "code"),none,(.fields #[(.str (.ofString "_iter_namespaces") 738),(.str (.ofString "C14NWriterTarget._iter_namespaces") 739),(.str (.ofString "/claim/cut.py") 740),(.int 197 0),(.int 3 0),(.int 0 0),(.int 0 0),(.int 35 0),(.ref 241),(.bool true),(.int 276 0),(.ref 242),.none,(.ref 243),(.ref 244),(.ref 245),(.int 745 0),(.int 197 0),(.str (.ofString "/claim/cut.py") 746)]),#[]⟩
noncomputable abbrev o247 : Obj := mkFn (fun a b s => ⟨(.type "function"),none,.func ⟨.ofString "_iter_namespaces",.ofString "C14NWriterTarget._iter_namespaces",a,.stmts b,s,3,[],(.ref 240),.none,.none,(.str (.ofString "cpy313.xml.etree.ElementTree") 633),none,(.ref 246),.none,0⟩,#[]⟩) [22, 1] rfl
noncomputable abbrev o248 : Obj := ⟨(.type "tuple"),none,(.seq #[] 0),#[]⟩
noncomputable abbrev o250 : Obj := ⟨(.type "tuple"),none,(.seq #[(.str (.ofString "self") 751),(.str (.ofString "prefixed_name") 752),(.str (.ofString "prefix") 753),(.str (.ofString "name") 754),(.str (.ofString "uri") 755),(.str (.ofString "p") 756)] 0),#[]⟩
noncomputable abbrev o251 : Obj := ⟨(.type "tuple"),none,(.seq #[] 0),#[]⟩
noncomputable abbrev o253 : Obj := ⟨(.type "code"),none,(.fields #[(.str (.ofString "_resolve_prefix_name") 748),(.str (.ofString "C14NWriterTarget._resolve_prefix_name") 749),(.str (.ofString "/claim/cut.py") 750),(.int 202 0),(.int 2 0),(.int 0 0),(.int 0 0),(.int 3 0),(.ref 248),(.bool true),(.int 276 0),(.ref 249),.none,(.ref 250),(.ref 251),(.ref 252),(.int 757 0),(.int 202 0),(.str (.ofString "/claim/cut.py") 758)]),#[]⟩
noncomputable abbrev o255 : Obj := ⟨(.type "tuple"),none,(.seq #[.none] 0),#[]⟩
noncomputable abbrev o256 : Obj := ⟨(.type "tuple"),none,(.seq #[] 0),#[]⟩
noncomputable abbrev o258 : Obj := ⟨(.type "tuple"),none,(.seq #[(.str (.ofString "self") 763),(.str (.ofString "qname") 764),(.str (.ofString "uri") 765),(.str (.ofString "tag") 766),(.str (.ofString "prefixes_seen") 767),(.str (.ofString "u") 768),(.str (.ofString "prefix") 769)] 0),#[]⟩
noncomputable abbrev o259 : Obj := ⟨(.type "tuple"),none,(.seq #[] 0),#[]⟩
noncomputable abbrev o261 : Obj := ⟨(.type "code"),none,(.fields #[(.str (.ofString "_qname") 760),(.str (.ofString "C14NWriterTarget._qname") 761),(.str (.ofString "/claim/cut.py") 762),(.int 209 0),(.int 3 0),(.int 0 0),(.int 0 0),(.int 3 0),(.ref 256),(.bool true),(.int 276 0),(.ref 257),.none,(.ref 258),(.ref 259),(.ref 260),(.int 770 0),(.int 209 0),(.str (.ofString "/claim/cut.py") 771)]),#[]⟩
noncomputable abbrev o262 : Obj := mkFn (fun a b s => ⟨(.type "function"),none,.func ⟨.ofString "_qname",.ofString "C14NWriterTarget._qname",a,.stmts b,s,3,[],(.ref 255),.none,.none,(.str (.ofString "cpy313.xml.etree.ElementTree") 633),none,(.ref 261),.none,0⟩,#[]⟩) [22, 3] rfl
noncomputable abbrev o263 : Obj := ⟨(.type "tuple"),none,(.seq #[] 0),#[]⟩
noncomputable abbrev o265 : Obj := ⟨(.type "tuple"),none,(.seq #[(.str (.ofString "self") 776),(.str (.ofString "data") 777)] 0),#[]⟩
noncomputable abbrev o266 : Obj := ⟨(.type "tuple"),none,(.seq #[] 0),#[]⟩
noncomputable abbrev o268 : Obj := ⟨(.type "code"),none,(.fields #[(.str (.ofString "data") 773),(.str (.ofString "C14NWriterTarget.data") 774),(.str (.ofString "/claim/cut.py") 775),(.int 236 0),(.int 2 0),(.int 0 0),(.int 0 0),(.int 3 0),(.ref 263),(.bool true),(.int 276 0),(.ref 264),.none,(.ref 265),(.ref 266),(.ref 267),(.int 778 0),(.int 236 0),(.str (.ofString "/claim/cut.py") 779)]),#[]⟩
noncomputable abbrev o270 : Obj := ⟨(.type "builtin_function_or_method"),none,(.fields #[(.builtin "str.join"),(.str (.ofString "") 781)]),#[]⟩
noncomputable abbrev o271 : Obj := ⟨(.type "tuple"),none,(.seq #[(.ref 270)] 0),#[]⟩
noncomputable abbrev o272 : Obj := ⟨(.type "tuple"),none,(.seq #[] 0),#[]⟩
noncomputable abbrev o274 : Obj := ⟨(.type "tuple"),none,(.seq #[(.str (.ofString "self") 786),(.str (.ofString "_join_text") 787),(.str (.ofString "data") 788),(.str (.ofString "args") 789),(.str (.ofString "qname_text") 790)] 0),#[]⟩
noncomputable abbrev o275 : Obj := ⟨(.type "tuple"),none,(.seq #[] 0),#[]⟩
noncomputable abbrev o277 : Obj := ⟨(.type "code"),none,(.fields #[(.str (.ofString "_flush") 783),(.str (.ofString "C14NWriterTarget._flush") 784),(.str (.ofString "/claim/cut.py") 785),(.int 240 0),(.int 2 0),(.int 0 0),(.int 0 0),(.int 3 0),(.ref 272),(.bool true),(.int 276 0),(.ref 273),.none,(.ref 274),(.ref 275),(.ref 276),(.int 791 0),(.int 240 0),(.str (.ofString "/claim/cut.py") 792)]),#[]⟩
noncomputable abbrev o279 : Obj := ⟨(.type "tuple"),none,(.seq #[] 0),#[]⟩
noncomputable abbrev o281 : Obj := ⟨(.type "tuple"),none,(.seq #[(.str (.ofString "self") 797),(.str (.ofString "prefix") 798),(.str (.ofString "uri") 799)] 0),#[]⟩
noncomputable abbrev o282 : Obj := ⟨(.type "tuple"),none,(.seq #[] 0),#[]⟩
noncomputable abbrev o284 : Obj := ⟨(.type "code"),none,(.fields #[(.str (.ofString "start_ns") 794),(.str (.ofString "C14NWriterTarget.start_ns") 795),(.str (.ofString "/claim/cut.py") 796),(.int 254 0),(.int 3 0),(.int 0 0),(.int 0 0),(.int 3 0),(.ref 279),(.bool true),(.int 276 0),(.ref 280),.none,(.ref 281),(.ref 282),(.ref 283),(.int 800 0),(.int 254 0),(.str (.ofString "/claim/cut.py") 801)]),#[]⟩
noncomputable abbrev o286 : Obj := ⟨(.type "tuple"),none,(.seq #[] 0),#[]⟩
noncomputable abbrev o288 : Obj := ⟨(.type "tuple"),none,(.seq #[(.str (.ofString "self") 806),(.str (.ofString "tag") 807),(.str (.ofString "attrs") 808),(.str (.ofString "new_namespaces") 809)] 0),#[]⟩
noncomputable abbrev o289 : Obj := ⟨(.type "tuple"),none,(.seq #[] 0),#[]⟩
noncomputable abbrev o291 : Obj := ⟨(.type "code"),none,(.fields #[(.str (.ofString "start") 803),(.str (.ofString "C14NWriterTarget.start") 804),(.str (.ofString "/claim/cut.py") 805),(.int 257 0),(.int 3 0),(.int 0 0),(.int 0 0),(.int 3 0),(.ref 286),(.bool true),(.int 276 0),(.ref 287),.none,(.ref 288),(.ref 289),(.ref 290),(.int 810 0),(.int 257 0),(.str (.ofString "/claim/cut.py") 811)]),#[]⟩
noncomputable abbrev o292 : Obj := mkFn (fun a b s => ⟨(.type "function"),none,.func ⟨.ofString "start",.ofString "C14NWriterTarget.start",a,.stmts b,s,3,[],.none,.none,.none,(.str (.ofString "cpy313.xml.etree.ElementTree") 633),none,(.ref 291),.none,0⟩,#[]⟩) [22, 7] rfl
noncomputable abbrev o293 : Obj := ⟨(.type "tuple"),none,(.seq #[.none] 0),#[]⟩
noncomputable abbrev o294 : Obj := ⟨(.type "tuple"),none,(.seq #[] 0),#[]⟩
noncomputable abbrev o297 : Obj := ⟨(.type "code"),none,(.fields #[(.str (.ofString "_start") 813),(.str (.ofString "C14NWriterTarget._start") 814),(.str (.ofString "/claim/cut.py") 815),(.int 270 0),(.int 5 0),(.int 0 0),(.int 0 0),(.int 3 0),(.ref 294),(.bool true),(.int 276 0),(.ref 295),.none,.none,.none,(.ref 296),(.int 816 0),(.int 270 0),(.str (.ofString "/claim/cut.py") 817)]),#[]⟩
noncomputable abbrev o298 : Obj := mkFn (fun a b s => ⟨(.type "function"),none,.func ⟨.ofString "_start",.ofString "C14NWriterTarget._start",a,.stmts b,s,3,[],(.ref 293),.none,.none,(.str (.ofString "cpy313.xml.etree.ElementTree") 633),none,(.ref 297),.none,0⟩,#[]⟩) [22, 8] rfl
noncomputable abbrev o299 : Obj := ⟨(.type "tuple"),none,(.seq #[] 0),#[]⟩
noncomputable abbrev o301 : Obj := ⟨(.type "tuple"),none,(.seq #[(.str (.ofString "self") 822),(.str (.ofString "tag") 823)] 0),#[]⟩
noncomputable abbrev o302 : Obj := ⟨(.type "tuple"),none,(.seq #[] 0),#[]⟩
noncomputable abbrev o304 : Obj := ⟨(.type "code"),none,(.fields #[(.str (.ofString "end") 819),(.str (.ofString "C14NWriterTarget.end") 820),(.str (.ofString "/claim/cut.py") 821),(.int 315 0),(.int 2 0),(.int 0 0),(.int 0 0),(.int 3 0),(.ref 299),(.bool true),(.int 276 0),(.ref 300),.none,(.ref 301),(.ref 302),(.ref 303),(.int 824 0),(.int 315 0),(.str (.ofString "/claim/cut.py") 825)]),#[]⟩
noncomputable abbrev o306 : Obj := ⟨(.type "tuple"),none,(.seq #[] 0),#[]⟩
noncomputable abbrev o308 : Obj := ⟨(.type "tuple"),none,(.seq #[(.str (.ofString "self") 830),(.str (.ofString "text") 831)] 0),#[]⟩
noncomputable abbrev o309 : Obj := ⟨(.type "tuple"),none,(.seq #[] 0),#[]⟩
noncomputable abbrev o311 : Obj := ⟨(.type "code"),none,(.fields #[(.str (.ofString "comment") 827),(.str (.ofString "C14NWriterTarget.comment") 828),(.str (.ofString "/claim/cut.py") 829),(.int 327 0),(.int 2 0),(.int 0 0),(.int 0 0),(.int 3 0),(.ref 306),(.bool true),(.int 276 0),(.ref 307),.none,(.ref 308),(.ref 309),(.ref 310),(.int 832 0),(.int 327 0),(.str (.ofString "/claim/cut.py") 833)]),#[]⟩
noncomputable abbrev o313 : Obj := ⟨(.type "tuple"),none,(.seq #[] 0),#[]⟩
noncomputable abbrev o315 : Obj := ⟨(.type "tuple"),none,(.seq #[(.str (.ofString "self") 838),(.str (.ofString "target") 839),(.str (.ofString "data") 840)] 0),#[]⟩
noncomputable abbrev o316 : Obj := ⟨(.type "tuple"),none,(.seq #[] 0),#[]⟩
noncomputable abbrev o318 : Obj := ⟨(.type "code"),none,(.fields #[(.str (.ofString "pi") 835),(.str (.ofString "C14NWriterTarget.pi") 836),(.str (.ofString "/claim/cut.py") 837),(.int 330 0),(.int 3 0),(.int 0 0),(.int 0 0),(.int 3 0),(.ref 313),(.bool true),(.int 276 0),(.ref 314),.none,(.ref 315),(.ref 316),(.ref 317),(.int 841 0),(.int 330 0),(.str (.ofString "/claim/cut.py") 842)]),#[]⟩
noncomputable abbrev o320 : Obj := ⟨(.type "tuple"),none,(.seq #[(.str (.ofString "_data") 844),(.str (.ofString "_declared_ns_stack") 845),(.str (.ofString "_exclude_attrs") 846),(.str (.ofString "_exclude_tags") 847),(.str (.ofString "_find_qname_aware_attrs") 848),(.str (.ofString "_ignored_depth") 849),(.str (.ofString "_ns_stack") 850),(.str (.ofString "_pending_start") 851),(.str (.ofString "_prefix_map") 852),(.str (.ofString "_preserve_space") 853),(.str (.ofString "_qname_aware_tags") 854),(.str (.ofString "_rewrite_prefixes") 855),(.str (.ofString "_root_done") 856),(.str (.ofString "_root_seen") 857),(.str (.ofString "_strip_text") 858),(.str (.ofString "_with_comments") 859),(.str (.ofString "_write") 860)] 0),#[]⟩
noncomputable abbrev o321 (P : Params) : Obj := ⟨(.type "dict"),none,(.dict #[⟨(PyData.keyHash P (.ofString "__module__")),(.str (.ofString "__module__") 711),(.str (.ofString "cpy313.xml.etree.ElementTree") 633)⟩,⟨(PyData.keyHash P (.ofString "__firstlineno__")),(.str (.ofString "__firstlineno__") 715),(.int 167 714)⟩,⟨(PyData.keyHash P (.ofString "__init__")),(.str (.ofString "__init__") 737),(.ref 239)⟩,⟨(PyData.keyHash P (.ofString "_iter_namespaces")),(.str (.ofString "_iter_namespaces") 747),(.ref 247)⟩,⟨(PyData.keyHash P (.ofString "_resolve_prefix_name")),(.str (.ofString "_resolve_prefix_name") 759),(.ref 254)⟩,⟨(PyData.keyHash P (.ofString "_qname")),(.str (.ofString "_qname") 772),(.ref 262)⟩,⟨(PyData.keyHash P (.ofString "data")),(.str (.ofString "data") 780),(.ref 269)⟩,⟨(PyData.keyHash P (.ofString "_flush")),(.str (.ofString "_flush") 793),(.ref 278)⟩,⟨(PyData.keyHash P (.ofString "start_ns")),(.str (.ofString "start_ns") 802),(.ref 285)⟩,⟨(PyData.keyHash P (.ofString "start")),(.str (.ofString "start") 812),(.ref 292)⟩,⟨(PyData.keyHash P (.ofString "_start")),(.str (.ofString "_start") 818),(.ref 298)⟩,⟨(PyData.keyHash P (.ofString "end")),(.str (.ofString "end") 826),(.ref 305)⟩,⟨(PyData.keyHash P (.ofString "comment")),(.str (.ofString "comment") 834),(.ref 312)⟩,⟨(PyData.keyHash P (.ofString "pi")),(.str (.ofString "pi") 843),(.ref 319)⟩,⟨(PyData.keyHash P (.ofString "__static_attributes__")),(.str (.ofString "__static_attributes__") 861),(.ref 320)⟩,⟨(PyData.keyHash P (.ofString "__dict__")),(.str (.ofString "__dict__") 863),(.ref 323)⟩,⟨(PyData.keyHash P (.ofString "__weakref__")),(.str (.ofString "__weakref__") 865),(.ref 324)⟩,⟨(PyData.keyHash P (.ofString "__doc__")),(.str (.ofString "__doc__") 866),.none⟩] 4),#[]⟩
noncomputable abbrev o322 : Obj := ⟨(.type "type"),none,(.cls ⟨(.ofString "C14NWriterTarget"),[(.type "object")],[(.ref 322),(.type "object")],321,(.ofString "C14NWriterTarget"),true,[],[],false,none,false⟩),#[none,none,(some (.str (.ofString "C14NWriterTarget") 704)),(some (.str (.ofString "C14NWriterTarget") 712)),(some (.builtin "object.__new__")),(some (.bool true))]⟩
noncomputable abbrev o323 : Obj := ⟨(.type "getset_descriptor"),none,(.fields #[(.str (.ofString "__dict__") 862),(.ref 322),(.builtin "function.__dict__"),(.builtin "function.__dict__#set")]),#[]⟩
noncomputable abbrev o324 : Obj := ⟨(.type "getset_descriptor"),none,(.fields #[(.str (.ofString "__weakref__") 864),(.ref 322),(.builtin "ExceptionGroup.__weakref__"),.none]),#[]⟩
noncomputable abbrev o327 : Obj := ⟨(.type "tuple"),none,(.seq #[] 0),#[]⟩
noncomputable abbrev o329 : Obj := ⟨(.type "tuple"),none,(.seq #[(.str (.ofString "text") 872)] 0),#[]⟩
noncomputable abbrev o330 : Obj := ⟨(.type "tuple"),none,(.seq #[] 0),#[]⟩
noncomputable abbrev o332 : Obj := ⟨(.type "code"),none,(.fields #[(.str (.ofString "_escape_cdata_c14n") 869),(.str (.ofString "_escape_cdata_c14n") 870),(.str (.ofString "/claim/cut.py") 871),(.int 332 0),(.int 1 0),(.int 0 0),(.int 0 0),(.int 3 0),(.ref 327),(.bool true),(.int 276 0),(.ref 328),.none,(.ref 329),(.ref 330),(.ref 331),(.int 873 0),(.int 332 0),(.str (.ofString "/claim/cut.py") 874)]),#[]⟩
noncomputable abbrev o334 : Obj := ⟨(.type "tuple"),none,(.seq #[] 0),#[]⟩
noncomputable abbrev o336 : Obj := ⟨(.type "tuple"),none,(.seq #[(.str (.ofString "text") 879)] 0),#[]⟩
noncomputable abbrev o337 : Obj := ⟨(.type "tuple"),none,(.seq #[] 0),#[]⟩
noncomputable abbrev o339 : Obj := ⟨(.type "code"),none,(.fields #[(.str (.ofString "_escape_attrib_c14n") 876),(.str (.ofString "_escape_attrib_c14n") 877),(.str (.ofString "/claim/cut.py") 878),(.int 345 0),(.int 1 0),(.int 0 0),(.int 0 0),(.int 3 0),(.ref 334),(.bool true),(.int 276 0),(.ref 335),.none,(.ref 336),(.ref 337),(.ref 338),(.int 880 0),(.int 345 0),(.str (.ofString "/claim/cut.py") 881)]),#[]⟩
noncomputable abbrev o340 : Obj := mkFn (fun a b s => ⟨(.type "function"),none,.func ⟨.ofString "_escape_attrib_c14n",.ofString "_escape_attrib_c14n",a,.stmts b,s,3,[],.none,.none,.none,(.str (.ofString "cpy313.xml.etree.ElementTree") 633),none,(.ref 339),.none,0⟩,#[]⟩) [24] rfl
noncomputable abbrev o341 : Obj := ⟨(.type "tuple"),none,(.seq #[] 0),#[]⟩
noncomputable abbrev o343 : Obj := ⟨(.type "tuple"),none,(.seq #[(.str (.ofString "place") 888),(.str (.ofString "names") 889)] 0),#[]⟩
noncomputable abbrev o344 : Obj := ⟨(.type "tuple"),none,(.seq #[] 0),#[]⟩
noncomputable abbrev o346 : Obj := ⟨(.type "code"),none,(.fields #[(.str (.ofString "_law_word") 885),(.str (.ofString "_law_word") 886),(.str (.ofString "/claim/cut.py") 887),(.int 363 0),(.int 1 0),(.int 0 0),(.int 0 0),(.int 3 0),(.ref 341),(.bool true),(.int 276 0),(.ref 342),.none,(.ref 343),(.ref 344),(.ref 345),(.int 890 0),(.int 363 0),(.str (.ofString "/claim/cut.py") 891)]),#[]⟩
noncomputable abbrev o347 : Obj := mkFn (fun a b s => ⟨(.type "function"),none,.func ⟨.ofString "_law_word",.ofString "_law_word",a,.stmts b,s,3,[],.none,.none,.none,(.str (.ofString "law_sw0083_01") 883),none,(.ref 346),.none,0⟩,#[]⟩) [26] rfl
noncomputable abbrev o348 : Obj := ⟨(.type "tuple"),none,(.seq #[] 0),#[]⟩
noncomputable abbrev o350 : Obj := ⟨(.type "tuple"),none,(.seq #[(.str (.ofString "table") 896),(.str (.ofString "word") 897),(.str (.ofString "value") 898),(.str (.ofString "there") 899)] 0),#[]⟩
noncomputable abbrev o351 : Obj := ⟨(.type "tuple"),none,(.seq #[] 0),#[]⟩
noncomputable abbrev o353 : Obj := ⟨(.type "code"),none,(.fields #[(.str (.ofString "_law_step") 893),(.str (.ofString "_law_step") 894),(.str (.ofString "/claim/cut.py") 895),(.int 368 0),(.int 4 0),(.int 0 0),(.int 0 0),(.int 3 0),(.ref 348),(.bool true),(.int 276 0),(.ref 349),.none,(.ref 350),(.ref 351),(.ref 352),(.int 900 0),(.int 368 0),(.str (.ofString "/claim/cut.py") 901)]),#[]⟩
noncomputable abbrev o354 : Obj := mkFn (fun a b s => ⟨(.type "function"),none,.func ⟨.ofString "_law_step",.ofString "_law_step",a,.stmts b,s,3,[],.none,.none,.none,(.str (.ofString "law_sw0083_01") 883),none,(.ref 353),.none,0⟩,#[]⟩) [27] rfl
noncomputable abbrev o355 : Obj := ⟨(.type "tuple"),none,(.seq #[] 0),#[]⟩
noncomputable abbrev o357 : Obj := ⟨(.type "tuple"),none,(.seq #[(.str (.ofString "pairs") 906),(.str (.ofString "out") 907),(.str (.ofString "target") 908)] 0),#[]⟩
noncomputable abbrev o358 : Obj := ⟨(.type "tuple"),none,(.seq #[] 0),#[]⟩
noncomputable abbrev o360 : Obj := ⟨(.type "code"),none,(.fields #[(.str (.ofString "_law_canonical") 903),(.str (.ofString "_law_canonical") 904),(.str (.ofString "/claim/cut.py") 905),(.int 373 0),(.int 1 0),(.int 0 0),(.int 0 0),(.int 3 0),(.ref 355),(.bool true),(.int 276 0),(.ref 356),.none,(.ref 357),(.ref 358),(.ref 359),(.int 909 0),(.int 373 0),(.str (.ofString "/claim/cut.py") 910)]),#[]⟩
noncomputable abbrev o361 : Obj := mkFn (fun a b s => ⟨(.type "function"),none,.func ⟨.ofString "_law_canonical",.ofString "_law_canonical",a,.stmts b,s,3,[],.none,.none,.none,(.str (.ofString "law_sw0083_01") 883),none,(.ref 360),.none,0⟩,#[]⟩) [28] rfl
noncomputable abbrev o362 : Obj := ⟨(.type "tuple"),none,(.seq #[] 0),#[]⟩
noncomputable abbrev o365 : Obj := ⟨(.type "code"),none,(.fields #[(.str (.ofString "_law_due") 912),(.str (.ofString "_law_due") 913),(.str (.ofString "/claim/cut.py") 914),(.int 378 0),(.int 4 0),(.int 0 0),(.int 0 0),(.int 3 0),(.ref 362),(.bool true),(.int 276 0),(.ref 363),.none,.none,.none,(.ref 364),(.int 915 0),(.int 378 0),(.str (.ofString "/claim/cut.py") 916)]),#[]⟩
noncomputable abbrev o366 : Obj := mkFn (fun a b s => ⟨(.type "function"),none,.func ⟨.ofString "_law_due",.ofString "_law_due",a,.stmts b,s,3,[],.none,.none,.none,(.str (.ofString "law_sw0083_01") 883),none,(.ref 365),.none,0⟩,#[]⟩) [29] rfl
noncomputable abbrev o367 : Obj := ⟨(.type "tuple"),none,(.seq #[] 0),#[]⟩
noncomputable abbrev o370 : Obj := ⟨(.type "code"),none,(.fields #[(.str (.ofString "law") 918),(.str (.ofString "law") 919),(.str (.ofString "/claim/cut.py") 920),(.int 383 0),(.int 1 0),(.int 0 0),(.int 0 0),(.int 3 0),(.ref 367),(.bool true),(.int 276 0),(.ref 368),.none,.none,.none,(.ref 369),(.int 921 0),(.int 383 0),(.str (.ofString "/claim/cut.py") 922)]),#[]⟩
noncomputable abbrev o371 : Obj := mkFn (fun a b s => ⟨(.type "function"),none,.func ⟨.ofString "law",.ofString "law",a,.stmts b,s,3,[],.none,.none,.none,(.str (.ofString "law_sw0083_01") 883),none,(.ref 370),.none,0⟩,#[]⟩) [30] rfl
noncomputable def K (P : Params) : Frag := .cons (nat_lit 2, o2 P) <| .cons (nat_lit 3, o3 P) <| .cons (nat_lit 32, o32) <| .cons (nat_lit 34, o34) <| .cons (nat_lit 35, o35) <| .cons (nat_lit 37, o37) <| .cons (nat_lit 39, o39) <| .cons (nat_lit 40, o40) <| .cons (nat_lit 42, o42) <| .cons (nat_lit 43, o43) <| .cons (nat_lit 45, o45) <| .cons (nat_lit 46, o46) <| .cons (nat_lit 47, o47) <| .cons (nat_lit 49, o49) <| .cons (nat_lit 50, o50) <| .cons (nat_lit 52, o52) <| .cons (nat_lit 54, o54) <| .cons (nat_lit 56, o56) <| .cons (nat_lit 57, o57) <| .cons (nat_lit 59, o59) <| .cons (nat_lit 60, o60) <| .cons (nat_lit 64, o64) <| .cons (nat_lit 65, o65) <| .cons (nat_lit 69, o69) <| .cons (nat_lit 70, o70) <| .cons (nat_lit 74, o74) <| .cons (nat_lit 75, o75) <| .cons (nat_lit 76, o76) <| .cons (nat_lit 77, o77) <| .cons (nat_lit 79, o79) <| .cons (nat_lit 80, o80) <| .cons (nat_lit 82, o82) <| .cons (nat_lit 91, o91) <| .cons (nat_lit 92, o92) <| .cons (nat_lit 94, o94) <| .cons (nat_lit 95, o95) <| .cons (nat_lit 97, o97) <| .cons (nat_lit 98, o98) <| .cons (nat_lit 99, o99) <| .cons (nat_lit 101, o101) <| .cons (nat_lit 102, o102) <| .cons (nat_lit 104, o104) <| .cons (nat_lit 105, o105) <| .cons (nat_lit 106, o106) <| .cons (nat_lit 108, o108) <| .cons (nat_lit 109, o109) <| .cons (nat_lit 111, o111) <| .cons (nat_lit 113, o113) <| .cons (nat_lit 115, o115) <| .cons (nat_lit 116, o116) <| .cons (nat_lit 118, o118) <| .cons (nat_lit 120, o120) <| .cons (nat_lit 123, o123) <| .cons (nat_lit 124, o124) <| .cons (nat_lit 125, o125) <| .cons (nat_lit 127, o127) <| .cons (nat_lit 128, o128) <| .cons (nat_lit 130, o130) <| .cons (nat_lit 132, o132) <| .cons (nat_lit 134, o134) <| .cons (nat_lit 135, o135) <| .cons (nat_lit 137, o137) <| .cons (nat_lit 139, o139) <| .cons (nat_lit 141, o141) <| .cons (nat_lit 142, o142) <| .cons (nat_lit 144, o144) <| .cons (nat_lit 146, o146) <| .cons (nat_lit 147, o147) <| .cons (nat_lit 149, o149) <| .cons (nat_lit 150, o150) <| .cons (nat_lit 152, o152) <| .cons (nat_lit 154, o154) <| .cons (nat_lit 157, o157) <| .cons (nat_lit 159, o159) <| .cons (nat_lit 162, o162) <| .cons (nat_lit 164, o164) <| .cons (nat_lit 166, o166) <| .cons (nat_lit 167, o167) <| .cons (nat_lit 169, o169) <| .cons (nat_lit 170, o170) <| .cons (nat_lit 171, o171) <| .cons (nat_lit 173, o173) <| .cons (nat_lit 174, o174) <| .cons (nat_lit 176, o176) <| .cons (nat_lit 178, o178) <| .cons (nat_lit 181, o181) <| .cons (nat_lit 182, o182) <| .cons (nat_lit 183, o183) <| .cons (nat_lit 185, o185) <| .cons (nat_lit 186, o186) <| .cons (nat_lit 188, o188) <| .cons (nat_lit 190, o190) <| .cons (nat_lit 192, o192) <| .cons (nat_lit 193, o193) <| .cons (nat_lit 195, o195) <| .cons (nat_lit 197, o197) <| .cons (nat_lit 199, o199) <| .cons (nat_lit 200, o200) <| .cons (nat_lit 202, o202) <| .cons (nat_lit 203, o203) <| .cons (nat_lit 204, o204) <| .cons (nat_lit 205, o205 P) <| .cons (nat_lit 206, o206) <| .cons (nat_lit 207, o207) <| .cons (nat_lit 208, o208) <| .cons (nat_lit 214, o214) <| .cons (nat_lit 215, o215) <| .cons (nat_lit 216, o216 P) <| .cons (nat_lit 217, o217) <| .cons (nat_lit 219, o219) <| .cons (nat_lit 220, o220) <| .cons (nat_lit 222, o222) <| .cons (nat_lit 224, o224) <| .cons (nat_lit 232, o232 P) <| .cons (nat_lit 233, o233) <| .cons (nat_lit 235, o235) <| .cons (nat_lit 236, o236) <| .cons (nat_lit 238, o238) <| .cons (nat_lit 239, o239) <| .cons (nat_lit 240, o240) <| .cons (nat_lit 241, o241) <| .cons (nat_lit 243, o243) <| .cons (nat_lit 244, o244) <| .cons (nat_lit 246, o246) <| .cons (nat_lit 247, o247) <| .cons (nat_lit 248, o248) <| .cons (nat_lit 250, o250) <| .cons (nat_lit 251, o251) <| .cons (nat_lit 253, o253) <| .cons (nat_lit 255, o255) <| .cons (nat_lit 256, o256) <| .cons (nat_lit 258, o258) <| .cons (nat_lit 259, o259) <| .cons (nat_lit 261, o261) <| .cons (nat_lit 262, o262) <| .cons (nat_lit 263, o263) <| .cons (nat_lit 265, o265) <| .cons (nat_lit 266, o266) <| .cons (nat_lit 268, o268) <| .cons (nat_lit 270, o270) <| .cons (nat_lit 271, o271) <| .cons (nat_lit 272, o272) <| .cons (nat_lit 274, o274) <| .cons (nat_lit 275, o275) <| .cons (nat_lit 277, o277) <| .cons (nat_lit 279, o279) <| .cons (nat_lit 281, o281) <| .cons (nat_lit 282, o282) <| .cons (nat_lit 284, o284) <| .cons (nat_lit 286, o286) <| .cons (nat_lit 288, o288) <| .cons (nat_lit 289, o289) <| .cons (nat_lit 291, o291) <| .cons (nat_lit 292, o292) <| .cons (nat_lit 293, o293) <| .cons (nat_lit 294, o294) <| .cons (nat_lit 297, o297) <| .cons (nat_lit 298, o298) <| .cons (nat_lit 299, o299) <| .cons (nat_lit 301, o301) <| .cons (nat_lit 302, o302) <| .cons (nat_lit 304, o304) <| .cons (nat_lit 306, o306) <| .cons (nat_lit 308, o308) <| .cons (nat_lit 309, o309) <| .cons (nat_lit 311, o311) <| .cons (nat_lit 313, o313) <| .cons (nat_lit 315, o315) <| .cons (nat_lit 316, o316) <| .cons (nat_lit 318, o318) <| .cons (nat_lit 320, o320) <| .cons (nat_lit 321, o321 P) <| .cons (nat_lit 322, o322) <| .cons (nat_lit 323, o323) <| .cons (nat_lit 324, o324) <| .cons (nat_lit 327, o327) <| .cons (nat_lit 329, o329) <| .cons (nat_lit 330, o330) <| .cons (nat_lit 332, o332) <| .cons (nat_lit 334, o334) <| .cons (nat_lit 336, o336) <| .cons (nat_lit 337, o337) <| .cons (nat_lit 339, o339) <| .cons (nat_lit 340, o340) <| .cons (nat_lit 341, o341) <| .cons (nat_lit 343, o343) <| .cons (nat_lit 344, o344) <| .cons (nat_lit 346, o346) <| .cons (nat_lit 347, o347) <| .cons (nat_lit 348, o348) <| .cons (nat_lit 350, o350) <| .cons (nat_lit 351, o351) <| .cons (nat_lit 353, o353) <| .cons (nat_lit 354, o354) <| .cons (nat_lit 355, o355) <| .cons (nat_lit 357, o357) <| .cons (nat_lit 358, o358) <| .cons (nat_lit 360, o360) <| .cons (nat_lit 361, o361) <| .cons (nat_lit 362, o362) <| .cons (nat_lit 365, o365) <| .cons (nat_lit 366, o366) <| .cons (nat_lit 367, o367) <| .cons (nat_lit 370, o370) <| .cons (nat_lit 371, o371) <| .nil
def addrs : List Addr := .cons (nat_lit 2) <| .cons (nat_lit 3) <| .cons (nat_lit 32) <| .cons (nat_lit 34) <| .cons (nat_lit 35) <| .cons (nat_lit 37) <| .cons (nat_lit 39) <| .cons (nat_lit 40) <| .cons (nat_lit 42) <| .cons (nat_lit 43) <| .cons (nat_lit 45) <| .cons (nat_lit 46) <| .cons (nat_lit 47) <| .cons (nat_lit 49) <| .cons (nat_lit 50) <| .cons (nat_lit 52) <| .cons (nat_lit 54) <| .cons (nat_lit 56) <| .cons (nat_lit 57) <| .cons (nat_lit 59) <| .cons (nat_lit 60) <| .cons (nat_lit 64) <| .cons (nat_lit 65) <| .cons (nat_lit 69) <| .cons (nat_lit 70) <| .cons (nat_lit 74) <| .cons (nat_lit 75) <| .cons (nat_lit 76) <| .cons (nat_lit 77) <| .cons (nat_lit 79) <| .cons (nat_lit 80) <| .cons (nat_lit 82) <| .cons (nat_lit 91) <| .cons (nat_lit 92) <| .cons (nat_lit 94) <| .cons (nat_lit 95) <| .cons (nat_lit 97) <| .cons (nat_lit 98) <| .cons (nat_lit 99) <| .cons (nat_lit 101) <| .cons (nat_lit 102) <| .cons (nat_lit 104) <| .cons (nat_lit 105) <| .cons (nat_lit 106) <| .cons (nat_lit 108) <| .cons (nat_lit 109) <| .cons (nat_lit 111) <| .cons (nat_lit 113) <| .cons (nat_lit 115) <| .cons (nat_lit 116) <| .cons (nat_lit 118) <| .cons (nat_lit 120) <| .cons (nat_lit 123) <| .cons (nat_lit 124) <| .cons (nat_lit 125) <| .cons (nat_lit 127) <| .cons (nat_lit 128) <| .cons (nat_lit 130) <| .cons (nat_lit 132) <| .cons (nat_lit 134) <| .cons (nat_lit 135) <| .cons (nat_lit 137) <| .cons (nat_lit 139) <| .cons (nat_lit 141) <| .cons (nat_lit 142) <| .cons (nat_lit 144) <| .cons (nat_lit 146) <| .cons (nat_lit 147) <| .cons (nat_lit 149) <| .cons (nat_lit 150) <| .cons (nat_lit 152) <| .cons (nat_lit 154) <| .cons (nat_lit 157) <| .cons (nat_lit 159) <| .cons (nat_lit 162) <| .cons (nat_lit 164) <| .cons (nat_lit 166) <| .cons (nat_lit 167) <| .cons (nat_lit 169) <| .cons (nat_lit 170) <| .cons (nat_lit 171) <| .cons (nat_lit 173) <| .cons (nat_lit 174) <| .cons (nat_lit 176) <| .cons (nat_lit 178) <| .cons (nat_lit 181) <| .cons (nat_lit 182) <| .cons (nat_lit 183) <| .cons (nat_lit 185) <| .cons (nat_lit 186) <| .cons (nat_lit 188) <| .cons (nat_lit 190) <| .cons (nat_lit 192) <| .cons (nat_lit 193) <| .cons (nat_lit 195) <| .cons (nat_lit 197) <| .cons (nat_lit 199) <| .cons (nat_lit 200) <| .cons (nat_lit 202) <| .cons (nat_lit 203) <| .cons (nat_lit 204) <| .cons (nat_lit 205) <| .cons (nat_lit 206) <| .cons (nat_lit 207) <| .cons (nat_lit 208) <| .cons (nat_lit 214) <| .cons (nat_lit 215) <| .cons (nat_lit 216) <| .cons (nat_lit 217) <| .cons (nat_lit 219) <| .cons (nat_lit 220) <| .cons (nat_lit 222) <| .cons (nat_lit 224) <| .cons (nat_lit 232) <| .cons (nat_lit 233) <| .cons (nat_lit 235) <| .cons (nat_lit 236) <| .cons (nat_lit 238) <| .cons (nat_lit 239) <| .cons (nat_lit 240) <| .cons (nat_lit 241) <| .cons (nat_lit 243) <| .cons (nat_lit 244) <| .cons (nat_lit 246) <| .cons (nat_lit 247) <| .cons (nat_lit 248) <| .cons (nat_lit 250) <| .cons (nat_lit 251) <| .cons (nat_lit 253) <| .cons (nat_lit 255) <| .cons (nat_lit 256) <| .cons (nat_lit 258) <| .cons (nat_lit 259) <| .cons (nat_lit 261) <| .cons (nat_lit 262) <| .cons (nat_lit 263) <| .cons (nat_lit 265) <| .cons (nat_lit 266) <| .cons (nat_lit 268) <| .cons (nat_lit 270) <| .cons (nat_lit 271) <| .cons (nat_lit 272) <| .cons (nat_lit 274) <| .cons (nat_lit 275) <| .cons (nat_lit 277) <| .cons (nat_lit 279) <| .cons (nat_lit 281) <| .cons (nat_lit 282) <| .cons (nat_lit 284) <| .cons (nat_lit 286) <| .cons (nat_lit 288) <| .cons (nat_lit 289) <| .cons (nat_lit 291) <| .cons (nat_lit 292) <| .cons (nat_lit 293) <| .cons (nat_lit 294) <| .cons (nat_lit 297) <| .cons (nat_lit 298) <| .cons (nat_lit 299) <| .cons (nat_lit 301) <| .cons (nat_lit 302) <| .cons (nat_lit 304) <| .cons (nat_lit 306) <| .cons (nat_lit 308) <| .cons (nat_lit 309) <| .cons (nat_lit 311) <| .cons (nat_lit 313) <| .cons (nat_lit 315) <| .cons (nat_lit 316) <| .cons (nat_lit 318) <| .cons (nat_lit 320) <| .cons (nat_lit 321) <| .cons (nat_lit 322) <| .cons (nat_lit 323) <| .cons (nat_lit 324) <| .cons (nat_lit 327) <| .cons (nat_lit 329) <| .cons (nat_lit 330) <| .cons (nat_lit 332) <| .cons (nat_lit 334) <| .cons (nat_lit 336) <| .cons (nat_lit 337) <| .cons (nat_lit 339) <| .cons (nat_lit 340) <| .cons (nat_lit 341) <| .cons (nat_lit 343) <| .cons (nat_lit 344) <| .cons (nat_lit 346) <| .cons (nat_lit 347) <| .cons (nat_lit 348) <| .cons (nat_lit 350) <| .cons (nat_lit 351) <| .cons (nat_lit 353) <| .cons (nat_lit 354) <| .cons (nat_lit 355) <| .cons (nat_lit 357) <| .cons (nat_lit 358) <| .cons (nat_lit 360) <| .cons (nat_lit 361) <| .cons (nat_lit 362) <| .cons (nat_lit 365) <| .cons (nat_lit 366) <| .cons (nat_lit 367) <| .cons (nat_lit 370) <| .cons (nat_lit 371) <| .nil
end Mine
end

section
open PySem PySem.W PyProof.Rows
set_option maxHeartbeats 0
namespace Mine
def ofF : Nat → (Nat → Obj) → Nat → Nat → BT
  | 0, _, _, _ => .nil
  | k + 1, f, s, b => .node (f b) (ofF k f (2 * s) (s + b)) (ofF k f (2 * s) (2 * s + b))
theorem ofF_get : ∀ (k : Nat) (f : Nat → Obj) (s b i : Nat), i + 1 < 2 ^ k → (ofF k f s b).get i = some (f (s * i + b))
  | 0, f, s, b, i, h => by simp at h
  | k + 1, f, s, b, i, h => by
    unfold ofF
    rw [BT.get_node]
    have e : 2 ^ (k + 1) = 2 * 2 ^ k := by rw [Nat.pow_succ, Nat.mul_comm]
    by_cases h0 : i = 0
    · subst h0; simp
    · rw [if_neg h0]
      by_cases p : i % 2 = 1
      · rw [if_pos p, ofF_get k f (2 * s) (s + b) (i / 2) (by omega)]
        congr 2
        have hj : i = 2 * (i / 2) + 1 := by omega
        generalize i / 2 = q at hj
        subst hj
        rw [Nat.mul_add, Nat.mul_one, ← Nat.mul_assoc, Nat.mul_comm s 2]; omega
      · rw [if_neg p, ofF_get k f (2 * s) (2 * s + b) (i / 2 - 1) (by omega)]
        congr 2
        have hj : i = 2 * (i / 2 - 1) + 2 := by omega
        generalize i / 2 - 1 = q at hj
        subst hj
        rw [Nat.mul_add, ← Nat.mul_assoc, Nat.mul_comm s 2]; omega
def toT (s : Shared) : SharedT := ⟨ofF 6 (fun i => s.heap.objs.getD i default) 1 0, s.heap.objs.size, s.heap.life, s.gens, s.drawn, s.toks, s.os⟩
theorem toT_abs {s : Shared} (h : s.heap.objs.size ≤ 60) : (toT s).abs = s := by
  obtain ⟨⟨objs, life⟩, gens, drawn, toks, os⟩ := s
  unfold toT SharedT.abs
  dsimp only at h ⊢
  have : absHeap (ofF 6 (fun i => objs.getD i default) 1 0) objs.size life = ⟨objs, life⟩ := by
    have e : (absHeap (ofF 6 (fun i => objs.getD i default) 1 0) objs.size life).objs = objs := by
      apply Array.ext_getElem?
      intro i
      rw [absHeap_at]
      by_cases hi : i < objs.size
      · rw [if_pos hi, ofF_get _ _ _ _ _ (by show i + 1 < 64; omega)]
        simp [hi]
      · rw [if_neg hi]
        simp at hi
        simp [hi]
    show Heap.mk _ _ = _
    exact congrArg (Heap.mk · life) e
  rw [this]
def topT (stp : SharedT → Thread → Option (SharedT × Thread)) (n₀ : Nat) (ann : Option Value) : Nat → SharedT → Thread → Option SharedT
  | 0, _, _ => none
  | n + 1, s, t => match through t with
    | true => some s
    | false => match stepOk n₀ ann t with
      | false => none
      | true => match stp s t with
        | some (s', t') => topT stp n₀ ann n s' t'
        | none => none
theorem topT_of {tb : String → Option Builtin} {p : Program} {w : World} {n₀ : Nat} {ann : Option Value} : ∀ (n : Nat) (s : SharedT) (t : Thread) (s' : SharedT), topT (stepT (denote tb) p w) n₀ ann n s t = some s' → topRun tb p w n₀ ann n s.abs t = some s'.abs
  | 0, _, _, _, h => by cases h
  | n + 1, s, t, s', h => by
    unfold topT at h
    unfold topRun
    cases ht : through t with
    | true => rw [ht] at h; cases h; rfl
    | false =>
      rw [ht] at h
      cases hk : stepOk n₀ ann t with
      | false => rw [hk] at h; cases h
      | true =>
        rw [hk] at h
        cases hs : stepT (denote tb) p w s t with
        | none => rw [hs] at h; cases h
        | some r => obtain ⟨s₂, t₂⟩ := r; rw [hs] at h; rw [stepT_spec hs]; exact topT_of n _ _ _ h
theorem topFrom_of {p q : Program} {loose : List Str} {Xt : Shared → Bool} {α : Type} {Yf : Shared → α} {N : Nat} {w : World} {s₀ : Shared} {y : α}
    (h : (s₀.heap.isNs mainGlobals && s₀.gens.size == 0 && Nat.ble s₀.heap.objs.size 60, (topT (stepT (denote treeTable) p w) s₀.heap.objs.size (s₀.heap.nsMap mainGlobals "__annotations__") N (toT s₀) (topStub p)).map fun sT =>
      (staticsOk (importedModules p.main.body) s₀.heap sT.abs.heap && namesBound p sT.abs.heap && gensDone sT.abs && laidKept s₀.heap sT.abs.heap, openSeen q loose (importedModules p.main.body) Xt true sT.abs, Yf sT.abs)) = (true, some (true, openGood q loose, y))) :
    (topFrom treeTable p w N s₀).map (fun s => (openSeen q loose (importedModules p.main.body) Xt true s, Yf s)) = some (openGood q loose, y) := by
  obtain ⟨h1, h2⟩ := Prod.mk.inj h
  obtain ⟨h1, h3⟩ := Bool.and_eq_true_iff.mp h1
  obtain ⟨sT, e, h4⟩ := Option.map_eq_some_iff.mp h2
  obtain ⟨l1, l2⟩ := Prod.mk.inj h4
  obtain ⟨l2, l3⟩ := Prod.mk.inj l2
  have r := topT_of _ _ _ _ e
  rw [toT_abs (Nat.le_of_ble_eq_true h3)] at r
  unfold topFrom
  rw [h1, r]
  show ((match staticsOk (importedModules p.main.body) s₀.heap sT.abs.heap && namesBound p sT.abs.heap && gensDone sT.abs && laidKept s₀.heap sT.abs.heap with | true => some sT.abs | false => none).map _) = _
  rw [l1]
  exact congrArg some (Prod.ext l2 l3)
theorem left_of {p q : Program} {loose : List Str} {Xt : Shared → Bool} {α : Type} {Yf : Shared → α} {Ya : World → α} {N : Nat} (row : String)
    (h : ∀ (b : Bool) (w : World), (fencedOpening treeTable p w N).map (fun s₀ => (s₀.heap.isNs mainGlobals && s₀.gens.size == 0 && Nat.ble s₀.heap.objs.size 60, (topT (stepT (denote treeTable) p (w.withFollow row b)) s₀.heap.objs.size (s₀.heap.nsMap mainGlobals "__annotations__") N (toT s₀) (topStub p)).map fun sT =>
      (staticsOk (importedModules p.main.body) s₀.heap sT.abs.heap && namesBound p sT.abs.heap && gensDone sT.abs && laidKept s₀.heap sT.abs.heap, openSeen q loose (importedModules p.main.body) Xt true sT.abs, Yf sT.abs))) = some (true, some (true, openGood q loose, Ya (w.withFollow row b)))) : LeftO p q loose Xt Yf Ya N := by
  refine LeftO.of_split row fun w => ?_
  obtain ⟨s₀, e, hf⟩ := Option.map_eq_some_iff.mp (h false w)
  obtain ⟨s₀', e', ht⟩ := Option.map_eq_some_iff.mp (h true w)
  rw [e] at e'
  cases e'
  rw [e]
  rw [Option.map_some]
  exact congrArg some (Prod.ext (topFrom_of hf) (topFrom_of ht))
end Mine
end

section
open PySem PySem.W PyProof.Rows
set_option maxHeartbeats 0
namespace Mine
noncomputable def vw : Program := view pw [0, 1, 3, 4, 6, 7, 8, 9, 10, 12, 13, 14, 16, 18, 19, 20, 21, 22, 23, 24, 26, 27, 28, 29, 30]
noncomputable def loose : List Str := ["COMPILER_FLAG_NAMES", "tspecials", "_name_disallowed_re", "_value_disallowed_re", "_formatparam", "_twin_re_1", "_namespace_map", "_looks_like_prefix_name", "C14NWriterTarget"]
noncomputable def hook : Hook := kmHook K addrs (fun _ => by kernel_rfl) [295]
theorem left1 (b : Bool) : ∀ w : World, (fencedOpening treeTable pw w 5018).map (fun s₀ => (s₀.heap.isNs mainGlobals && s₀.gens.size == 0 && Nat.ble s₀.heap.objs.size 60, (topT (stepT (denote treeTable) pw (w.withFollow "special-get-raises" b)) s₀.heap.objs.size (s₀.heap.nsMap mainGlobals "__annotations__") 5018 (toT s₀) (topStub pw)).map fun sT =>
      (staticsOk (importedModules pw.main.body) s₀.heap sT.abs.heap && namesBound pw sT.abs.heap && gensDone sT.abs && laidKept s₀.heap sT.abs.heap, openSeen vw loose (importedModules pw.main.body) (fun s => xlAt vw [] s && recOk [] s) true sT.abs, hook.obs sT.abs))) = some (true, some (true, openGood vw loose, hook.val (w.withFollow "special-get-raises" b))) := by
  intro w
  unfold fencedOpening
  rw [PySem.W.Fast.te10274390034422433532, PySem.W.Fast.te14289696077712309145, PySem.W.Fast.te1435165496053646825, PySem.W.Fast.te10156331382660048174, PySem.W.Fast.te11892475500146522536, PySem.W.Fast.te14364793385576792824, PySem.W.Fast.te4187177175401517315]
  cases b <;> kernel_rfl
theorem left : LeftO pw vw loose (fun s => xlAt vw [] s && recOk [] s) hook.obs hook.val 5018 := left_of "special-get-raises" left1
end Mine
end

section
open PySem PySem.W PyProof.Rows
set_option maxHeartbeats 0
namespace Mine
theorem said : PySem.Challenge.rw_sw0083_01.wellSaid = true := by decide +kernel
theorem okk : (chainsOk vw && opensWell PySem.Challenge.rw_sw0083_01.row.prog && (frees PySem.Challenge.rw_sw0083_01.row.toRowW && PySem.Challenge.rw_sw0083_01.row.within.isEmpty)) = true := by decide +kernel
theorem hd {d : DefRec} {kwd : List (Str × Expr)} (hdef : defOf vw PySem.Challenge.rw_sw0083_01.row.name = some (d, kwd)) (hp : PySem.Challenge.rw_sw0083_01.row.prog.theDef PySem.Challenge.rw_sw0083_01.row.name = some (d.params, d.body, d.scope)) (hk : kwWritten? d.params.kwonlyargs d.params.kw_defaults = some kwd)
    (hc : WalkO vw loose (XL vw []) hook.says PySem.Challenge.rw_sw0083_01.row.toRowW d kwd fun f vs => PySem.call f vs) : PySem.Challenge.rw_sw0083_01.Holds := by
  refine holds_law said fun said => ?_
  refine holds_open (q := vw) (loose := loose) (Xt := fun s => xlAt vw [] s && recOk (RowW.records PySem.Challenge.rw_sw0083_01.row.toRowW) s) (XP := XL vw []) (Yf := hook.obs) (Ya := hook.val) (YP := hook.says) (N := 5018) left hook.of hook.keeps (fun s e => xl_of s (Bool.and_eq_true_iff.mp e).1) XL.keeps hdef hp hk (fun s e => recFacts_of (Bool.and_eq_true_iff.mp e).2) (by rfl) said okk ⟨rfl, rfl, rfl, rfl, rfl, by decide +kernel⟩ ?_ hc
  exact ⟨[.list []], by decide +kernel, by decide +kernel⟩
end Mine
end

section
open PySem PySem.W PyProof.Rows PySem.Calls PySem.Spec
open Sem (wp)
namespace Mine
section
variable {prog : Program} {w : World} {A : Around} {R : GenEnd} {Y : Protocol} {n : Nat} {s₀ : Shared} {c : Code} {fs : List Frame} {s : Shared} {env : Env}
  {K : Flow → Sem PySem.Fin} {H : Value → Sem PySem.Fin} {gd : Bool → Bool} {lv : List Value → List Value}
abbrev ownCont (env : Env) (K : Flow → Sem PySem.Fin) (H : Value → Sem PySem.Fin) (gd : Bool → Bool) (lv : List Value → List Value) : Result → Sem PySem.Fin := fun r =>
  ((match r with | .ok f => (.pure f : Sem Flow) | .error e => .raise e).onRaise fun (x : Value) => do
        if (← field x 1) == Value.none then unsupported "frame.own-activation:exception-without-traceback"
        setFlight x env.frame).wrap K H gd lv
theorem seg_bindw {α β : Type} {m : Sem α} {k : α → Sem β} {K : β → Sem PySem.Fin}
    (h : wpAny (model prog w) (A.over c fs) m (fun a s' => Seg (model prog w) A R Y n s₀ c ((k a).wrap K H gd lv) fs s') (fun _ _ => False) s) : Seg (model prog w) A R Y n s₀ c ((m >>= k).wrap K H gd lv) fs s :=
  seg_bind_wrap (wpAny_mono h (fun _ _ x => x) fun _ _ x => x.elim)
theorem wpAny_own {α : Type} {B : Around} {m : Sem α} {Q : α → Shared → Prop} {E : Value → Shared → Prop} (h : wpAny (model prog w) B m Q (fun _ _ => False) s) : wpAny (model prog w) B m Q E s := wpAny_mono h (fun _ _ x => x) fun _ _ x => x.elim
theorem seg_For {target iter : Expr} {body orelse : List Stmt} {pos : Pos} (hs : ∀ x, foldedSetIterable iter env x = pure x)
    (h : wpAny (model prog w) (A.over c fs) (eval iter env) (fun xv s₁ => wpAny (model prog w) (A.over c fs) (pyIter xv) (fun it s₂ => ∀ p lv', Seg (model prog w) A R Y n s₀ (.forLoop target it body orelse env) ((model prog w).den (.forLoop target it body orelse env)) (.ret (ownCont env K H gd lv) none (gd false) lv' c p [] :: fs) s₂) (fun _ _ => False) s₁) (fun _ _ => False) s) :
    Seg (model prog w) A R Y n s₀ c ((exec (.For target iter body orelse pos) env).wrap K H gd lv) fs s := by
  rw [arm_exec_For]
  refine seg_bindw (wpAny_standAt (seg_bindw (wpAny_mono h (fun xv s₁ h₁ => ?_) fun _ _ x => x)))
  rw [hs]
  refine seg_bindw (wpAny_pure (seg_bindw (wpAny_standAt (seg_bindw (wpAny_holding (wpAny_mono h₁ (fun it s₂ h₂ => ?_) fun _ _ x => x))))))
  exact seg_call fun p => h₂ p _
theorem seg_forLoop {x : Str} {px : Pos} {it : Value} {body orelse : List Stmt}
    (h : wpAny (model prog w) (A.over (.forLoop (.Name x px) it body orelse env) fs) (pyNext it) (fun o s' => match o with
      | none => Seg (model prog w) A R Y n s₀ (.block orelse env) ((model prog w).den (.block orelse env)) fs s'
      | some v => wpAny (model prog w) (A.over (.forLoop (.Name x px) it body orelse env) fs) (assign (.Name x px) env v) (fun _ s'' => ∀ H', Seg (model prog w) A R Y n s₀ (.forLoop (.Name x px) it body orelse env)
          ((execs body env).wrap (fun f => match f with | .next | .cont => .pure (.again (.forLoop (.Name x px) it body orelse env)) | .brk => .pure (.done .next) | .ret v => .pure (.done (.ret v))) H' id id) fs s'') (fun _ _ => False) s') (fun _ _ => False) s) :
    Seg (model prog w) A R Y n s₀ (.forLoop (.Name x px) it body orelse env) ((model prog w).den (.forLoop (.Name x px) it body orelse env)) fs s := by
  show Seg _ A R Y n s₀ _ ((forTurn (.Name x px) it body orelse env).onRaise (fun x => do noteFrame x env; theTreesLotGoes x)) fs s
  unfold forTurn
  rw [Sem.onRaise_eq_wrap]
  refine seg_bindw (wpAny_standAt (seg_bindw (wpAny_onRaise (wpAny_mono h (fun o s' ho => ?_) fun _ _ x => x.elim))))
  cases o with
  | none => exact seg_again rfl ho
  | some v =>
    refine seg_bindw (wpAny_of_eq (rfl : letOwnedTupleGo (.Name x px) it v = pure ()) (seg_bindw (wpAny_mono ho (fun _ s'' h'' => ?_) fun _ _ x => x)))
    rw [Sem.bind_eq_wrap', Sem.wrap_wrap]
    have := h'' (fun e => (do noteFrame e env; theTreesLotGoes e : Sem Unit).wrap (fun _ => .raise e) .raise id id)
    refine Eq.mp (congrArg (fun t => Seg (model prog w) A R Y n s₀ (.forLoop (.Name x px) it body orelse env) t fs s'') ?_) this
    exact Sem.wrap_congr _ _ _ (fun f => by cases f <;> rfl) (fun e => by
      show _ = (Sem.bind (do noteFrame e env; theTreesLotGoes e : Sem Unit) fun _ => .raise e)
      rw [Sem.bind_eq_wrap])
theorem seg_If {test : Expr} {body orelse : List Stmt} {pos : Pos}
    (h : wpAny (model prog w) (A.over c fs) (isTrue test env (eval test env)) (fun b s' => Seg (model prog w) A R Y n s₀ c ((execs (if b = true then body else orelse) env).wrap K H gd lv) fs s') (fun _ _ => False) s) :
    Seg (model prog w) A R Y n s₀ c ((exec (.If test body orelse pos) env).wrap K H gd lv) fs s := by
  rw [arm_exec_If]
  refine seg_bindw (wpAny_standAt (seg_bindw (wpAny_mono h (fun b s' h' => ?_) fun _ _ x => x)))
  cases b <;> exact h'
theorem entry_yf : entryFor table "proto.yield_from" = some Builtin.«proto.yield_from» := entryFor_of_tree (by kernel_rfl)
theorem lookup_li_close : typeLookup (.type "list_iterator") "close" = pure none := am_miss_of_fast (by decide +kernel)
theorem den_builtin {id : String} {args : Args} {b : Builtin} (hb : entryFor table id = some b) : (model prog w).den (.builtin id args) = b args := by
  show (match entryFor table id with | some b => b args | none => unsupported ((withoutEnding? id "#data").getD id)) = b args
  rw [hb]
abbrev yfC (it : Addr) : Code := .builtin "proto.yield_from" ⟨[.ref it, .bool false, .none], []⟩
theorem seg_b {α : Type} {m : Sem α} {k : α → Sem PySem.Fin}
    (h : wpAny (model prog w) (A.over c fs) m (fun a s' => Seg (model prog w) A R Y n s₀ c (k a) fs s') (fun _ _ => False) s) : Seg (model prog w) A R Y n s₀ c (m >>= k) fs s :=
  seg_bind (wpAny_mono h (fun _ _ x => x) fun _ _ x => x.elim)
theorem cs_item {B : Around} {E : Value → Shared → Prop} {it l : Addr} {i : Nat} {items : Array Value} {x : Value} {Q : Option Value → Shared → Prop} (hit : s.heap.IsListIter it l i)
    (hl : s.heap.IsList l items) (hx : items[i]? = some x)
    (hQ : ∀ h', h'.IsListIter it l (i + 1) → Heap.SameBut it s.heap h' → Q (some x) { s with heap := h' }) :
    wpAny (model prog w) B (callSpecial? (.ref it) "__next__") Q E s := by
  obtain ⟨o, ho, hc, hd⟩ := id hit
  obtain ⟨ol, hol, _, nl, hdl⟩ := hl
  refine (wpAny_callSpecial?_slot (name := Str.ofString "__next__") hit.typeIs slot_listiter_next
    (wpAny_call_entry slot_listiter_next hit.typeIs entry_listiter_next ?_ (args_listiter_next _)))
  show wpAny _ _ (field (.ref it) 0 >>= _) _ _ s
  refine wpAny_bind (wpAny_field ho hd (x := .ref l) rfl ?_)
  show wpAny _ _ (if (Value.ref l == Value.none) = true then _ else _) _ _ s
  rw [if_neg (show ¬ ((Value.ref l == Value.none) = true) from Bool.false_ne_true)]
  show wpAny _ _ (field (.ref it) 1 >>= _) _ _ s
  refine wpAny_bind (wpAny_field ho hd (x := .int i 0) rfl ?_)
  show wpAny _ _ (seqItems? (.ref l) >>= _) _ _ s
  refine wpAny_bind (wpAny_seqItems hol hdl ?_)
  simp only [Int.toNat_natCast, hx]
  refine wpAny_bind (wpAny_setField ho hd (by simp) (wpAny_pure ⟨x, rfl, hQ _ ?_ (Heap.SameBut.update ..)⟩))
  exact ⟨_, Heap.get?_update_self _ ho (Obj.isFreed_of_fields (Obj.data_mapFields hd _)), (Obj.cls_mapFields ..).trans hc, by
    rw [Obj.data_mapFields hd]; simp [rawInt]⟩
theorem cs_end {B : Around} {E : Value → Shared → Prop} {it l : Addr} {i : Nat} {items : Array Value} {Q : Option Value → Shared → Prop} (hh : B.handled = none)
    (hit : s.heap.IsListIter it l i) (hl : s.heap.IsList l items) (hx : items[i]? = none)
    (hE : ∀ h' e, Heap.ExtBut it s.heap h' → (∃ o t, h'.get? e = some o ∧ o.cls = .type "StopIteration" ∧ o.data = .fields #[t, .none, .none, .none, .bool false, .none]) → E (.ref e) { s with heap := h' }) :
    wpAny (model prog w) B (callSpecial? (.ref it) "__next__") Q E s := by
  obtain ⟨o, ho, hc, hd⟩ := id hit
  obtain ⟨ol, hol, _, nl, hdl⟩ := hl
  refine (wpAny_callSpecial?_slot (name := Str.ofString "__next__") hit.typeIs slot_listiter_next
    (wpAny_call_entry slot_listiter_next hit.typeIs entry_listiter_next ?_ (args_listiter_next _)))
  show wpAny _ _ (field (.ref it) 0 >>= _) _ _ s
  refine wpAny_bind (wpAny_field ho hd (x := .ref l) rfl ?_)
  show wpAny _ _ (if (Value.ref l == Value.none) = true then _ else _) _ _ s
  rw [if_neg (show ¬ ((Value.ref l == Value.none) = true) from Bool.false_ne_true)]
  show wpAny _ _ (field (.ref it) 1 >>= _) _ _ s
  refine wpAny_bind (wpAny_field ho hd (x := .int i 0) rfl ?_)
  show wpAny _ _ (seqItems? (.ref l) >>= _) _ _ s
  refine wpAny_bind (wpAny_seqItems hol hdl ?_)
  simp only [Int.toNat_natCast, hx]
  refine wpAny_bind (wpAny_rule (wpAny_bind (wpAny_setField ho hd (by simp) ?_)))
  show wpAny _ _ (newExc (.type "StopIteration") [] >>= _) _ _ _
  refine wpAny_bind ?_
  simp only [newExc, newTuple]
  refine wpAny_bind (wpAny_newObj_type ?_ (by size_fits))
  refine wpAny_bind (m := firstArgMember _ _) (wpAny_of_eq (a := Value.none) (by first | rfl | (simp only [firstArgMember]; rfl)) ?_)
  refine wpAny_newObj_type ?_ (by size_fits)
  simp only [raiseNew]
  refine wpAny_bind (wpAny_handled ?_)
  first | rw [show B.in1.handled = none from hh] | rw [hh]
  refine wpAny_bind (wpAny_pure (wpAny_throw ?_))
  exact hE _ _ (((Heap.SameBut.update ..).extBut.push _).push _) ⟨_, _, Heap.get?_push_size _ rfl, rfl, rfl⟩
theorem slept {B : Around} {E : Value → Shared → Prop} {it l : Addr} {i : Nat} {b : Bool} {Q : Unit → Shared → Prop} (hit : s.heap.IsListIter it l i) (h : Q () s) : wpAny (model prog w) B (Builtin.Generator.sleptOver (.ref it) b) Q E s := by
  obtain ⟨o, ho, hc, hd⟩ := id hit
  unfold Builtin.Generator.sleptOver
  refine wpAny_bind (wpAny_load ho ?_)
  rw [if_pos (by rw [hc]; rfl)]
  exact wpAny_pure h
theorem seg_yf_end {it l : Addr} {T : Value} (hh : (A.over (yfC it) fs).handled = none) (hit : s.heap.IsListIter it l 1) (hl : s.heap.IsList l #[T])
    (h : ∀ h', Heap.ExtBut it s.heap h' → Seg (model prog w) A R Y n s₀ (yfC it) (leafOf (.ok (.ret .none))) fs { s with heap := h' }) :
    Seg (model prog w) A R Y n s₀ (yfC it) ((model prog w).den (yfC it)) fs s := by
  rw [den_builtin entry_yf]
  unfold Builtin.«proto.yield_from»
  dsimp only
  refine seg_b (wpAny_pure ?_)
  refine seg_b (wpAny_attempt (wpAny_holding ?_))
  rw [if_neg (by decide), if_pos (by rfl)]
  refine wpAny_bind (wpAny_rule (wpAny_bind (cs_end hh hit hl rfl fun h' e hs he => ?_)))
  obtain ⟨o, t, ho, hc, hd⟩ := he
  have hT : ({ s with heap := h' } : Shared).TypeIs (.ref e) "StopIteration" := ⟨o, ho, hc⟩
  dsimp only
  refine seg_b (m := Builtin.Generator.endsTheTurnAsAValue false (.ref e)) ?_
  unfold Builtin.Generator.endsTheTurnAsAValue Builtin.Generator.isStopAndMetaclass
  refine wpAny_bind (wpAny_bind (wpAny_typeOf hT ?_))
  dsimp only
  rw [isSubtype_stop]
  refine wpAny_bind (wpAny_pure (wpAny_bind (wpAny_of_eq (a := Value.type "type") rfl ?_)))
  refine wpAny_pure ?_
  rw [if_neg (by decide)]
  refine wpAny_pure ?_
  rw [if_pos rfl, if_neg (by decide)]
  refine seg_b (wpAny_rule (seg_b (wpAny_field ho hd (x := .none) rfl ?_)))
  exact h _ hs
theorem seg_yf_item {it l : Addr} {T : Value} (hfs : splitAtGen fs = none) (hfg : fs.any Frame.guarded = false) (hit : s.heap.IsListIter it l 0) (hl : s.heap.IsList l #[T])
    (h : ∀ h', h'.IsListIter it l 1 → Heap.SameBut it s.heap h' → ∀ kap : Resume → Shared → Prop, (∀ s'' l', s''.heap.IsListIter it l' 1 → Seg (model prog w) A R Y n s'' (yfC it) ((model prog w).den (yfC it)) fs s'' → kap (.send .none) s'') → Y n s₀ T { s with heap := h' } kap) :
    Seg (model prog w) A R Y (n + 1) s₀ (yfC it) ((model prog w).den (yfC it)) fs s := by
  rw [den_builtin entry_yf]
  unfold Builtin.«proto.yield_from»
  dsimp only
  refine seg_b (wpAny_pure ?_)
  refine seg_b (wpAny_attempt (wpAny_holding ?_))
  rw [if_neg (by decide), if_pos (by rfl)]
  refine wpAny_bind (wpAny_rule (wpAny_bind (cs_item hit hl rfl fun h' hi' hs => ?_)))
  refine wpAny_pure ?_
  dsimp only
  refine seg_b (wpAny_typeOf hi'.typeIs ?_)
  dsimp only
  rw [lookup_li_close]
  refine seg_b (wpAny_pure (seg_b (wpAny_pure (seg_b (slept hi' ?_)))))
  refine seg_yield hfs rfl hfg ?_
  refine h _ hi' hs _ fun s'' l' hi'' h'' => ?_
  refine seg_b (wpAny_pure (seg_b (slept hi'' ?_)))
  exact seg_again (Code.quiet_builtin _ (by decide +kernel)) h''
theorem seg_yfrom {e : Expr} {yp pos : Pos} {l : Addr} {T : Value} (hfs : splitAtGen fs = none) (hgd : gd false = false) (hfg : fs.any Frame.guarded = false) (hh : ∀ c k g l c' p kp, (A.over c (Frame.ret k none g l c' p kp :: fs)).handled = none) (hi : interactive env = false)
    (h : wpAny (model prog w) (A.over c fs) (eval e env) (fun v s₁ => v = .ref l ∧ s₁.heap.IsList l #[T] ∧
      ∀ h₂, h₂.IsListIter s₁.heap.objs.size l 1 → (∀ b o, s₁.heap.get? b = some o → h₂.get? b = some o) → ∀ kap : Resume → Shared → Prop,
        (∀ s'', s''.heap.IsListIter s₁.heap.objs.size l 1 → s''.heap.IsList l #[T] → (∀ h₃, Heap.ExtBut s₁.heap.objs.size s''.heap h₃ → Seg (model prog w) A R Y n s'' c (K .next) fs { s'' with heap := h₃ }) → kap (.send .none) s'') → Y n s₀ T { s₁ with heap := h₂ } kap) (fun _ _ => False) s) :
    Seg (model prog w) A R Y (n + 1) s₀ c ((exec (.Expr (.YieldFrom e yp) pos) env).wrap K H gd lv) fs s := by
  rw [exec_Expr env _ pos hi rfl]
  refine seg_bindw (wpAny_standAt ?_)
  rw [arm_eval_YieldFrom, Sem.bind_eq_wrap', Sem.wrap_wrap]
  refine seg_bindw (wpAny_mono h (fun v s₁ h₁ => ?_) fun _ _ x => x)
  obtain ⟨rfl, hl, hy⟩ := h₁
  refine seg_bindw (wpAny_standAt ?_)
  unfold yieldFrom
  refine seg_bindw (wpAny_typeOf hl.typeIs ?_)
  rw [if_neg (by decide)]
  refine seg_bindw (wpAny_holding (wpAny_pyIter_list hl ?_))
  unfold runValue
  rw [Sem.bind_eq_wrap', Sem.wrap_wrap]
  unfold run
  refine seg_call fun p => ?_
  have hne : l ≠ s₁.heap.objs.size := Nat.ne_of_lt (let ⟨_, ho, _⟩ := hl; Heap.lt_size ho)
  have hl1 : (s₁.heap.push { cls := Value.type "list_iterator", data := Data.fields #[Value.ref l, Value.int 0 0] }).IsList l #[T] := hl.push _
  refine seg_yf_item (l := l) (T := T) (by show splitAtGen (Frame.ret .. :: fs) = none; simp [splitAtGen, hfs]) (by simp [Frame.guarded, hgd, hfg]) ⟨_, Heap.get?_push_size _ rfl, rfl, rfl⟩ hl1 fun h' hi' hs kap hk => ?_
  refine hy h' hi' (fun b o hb => hs.extBut b o (Nat.ne_of_lt (Heap.lt_size hb)) (Heap.get?_push_of_some _ hb)) kap fun s'' hi'' hl'' hS => ?_
  refine hk s'' l hi'' (seg_yf_end (hh _ _ _ _ _ _ _) hi'' hl'' fun h₃ he => ?_)
  refine seg_leaf (.ok (.ret .none)) ?_
  exact hS h₃ he
end
end Mine
end

section
open PySem PySem.W PyProof.Rows PySem.Calls PySem.Spec
open Sem (wp)
namespace Mine
abbrev genO (g : Nat) (name qual : Str) (t u : Tok) : Obj := { cls := .type "generator", data := .fields #[.int g 0, .str name t, .str qual u] }
section
variable {prog : Program} {w : World} {A : Around} {R : Result → Shared → Prop} {s : Shared} {h₀ : Heap} {L : Addr} {m : Str → Option Value} {news : List (Addr × Obj)} {K : Frag} {p : Program} {loose : List Str} {mean : ExcName → Option Value} {mg mb : Str → Option Value}
theorem code_gen {name qual : Str} {params : Arguments} {body : List Stmt} {scope : Scope} {dV kV doc pm cdv ct oc : Value} {an od : Option Addr} {osl : Array (Option Value)} {f : Addr} {args : Args} {binds : List (Str × Value)}
    (F : Fr h₀ L s.heap m) (X₀ : K.In h₀) (N : News h₀ L s.heap news) (T : Top p loose mean mg mb h₀)
    (ho : K.lookup f = some ⟨oc, od, .func (fnOf name qual params body scope dV kV doc pm an cdv ct), osl⟩) (hcd : codeIn K cdv qual = true) (hroom : A.depth < recursionLimit)
    (hbind : BindsTo s (fnOf name qual params body scope dV kV doc pm an cdv ct) args binds) (hloc : ∀ y ∈ binds, scope.names.lookup y.1 = some .local)
    (h : ∀ G C oC t u h' tk', Fr h₀ L h' m → News h₀ L h' ((G, genO s.gens.size name qual t u) :: (C, oC) :: news) → LCg.NsObj oC (fun y => binds.reverse.lookup y) → (C : Nat) < G → (∀ p ∈ news, p.1 < C) →
      R (.ok (.ret (.ref G))) { s with heap := h', toks := tk', gens := s.gens.push (.fresh (.func body (envOf qual scope C f cdv))) })
    (hco : scope.isCoroutine = false) (hgen : scope.isGenerator = true) (hk : scope.kind = .function)
    (hcell : ∀ x ∈ scope.names, x.2 ≠ .cell) : codeAny (model prog w) A (.call (.ref f) args) R s := by
  refine codeAny_call_generator (body := body) hroom ((X₀.keeps F.keep) _ _ ho) rfl hco hgen rfl (codeRec_of (X₀.keeps F.keep) hcd) (hbind _ _ _ _ ?_)
  refine wpAny_newFunctionEnv hcell hloc (fun h₁ hns hsb => ?_) hk
  have hk₁ : ∀ b o, s.heap.get? b = some o → h₁.get? b = some o := fun b o e => hsb.extBut b o (Nat.ne_of_lt (Heap.lt_size e)) (Heap.get?_push_of_some _ e)
  obtain ⟨oC, hoC, nC⟩ := LCg.ns_obj hns
  have hsz : h₁.objs.size = s.heap.objs.size + 1 := by rw [hsb.1, Heap.size_push]
  have F₁ : Fr h₀ L h₁ m := F.kept hk₁
  have N₁ : News h₀ L h₁ ((s.heap.objs.size, oC) :: news) := by
    intro q hq
    rcases List.mem_cons.mp hq with rfl | hq
    · exact ⟨hoC, Nat.ne_of_gt F.ns.lt, Heap.get?_none_of_le (Nat.le_trans F.above (Nat.le_of_lt F.ns.lt))⟩
    · exact ⟨hk₁ _ _ (N q hq).1, (N q hq).2⟩
  refine ⟨(T.nolimit.keeps F.keep).fresh _ hsb, ?_⟩
  refine h h₁.objs.size s.heap.objs.size oC _ _ _ _ (F₁.push _) (News.push F₁ N₁ _) nC (by rw [hsz]; exact Nat.lt_succ_self _) (fun q hq => Heap.lt_size (N q hq).1)
end
section
variable {prog : Program} {w : World} {A : Around} {s : Shared}
def NsEnd (C sz : Addr) : GenEnd := fun n s₀ r s₁ => r = .ok (.ret .none) ∧ n = 0 ∧ ∃ h' tk, s₁ = { s₀ with heap := h', toks := tk } ∧ ∀ b o, b ≠ C → b ≠ sz → b ≠ sz + 1 → s₀.heap.get? b = some o → h'.get? b = some o
def NsGo (C sz S d1 nn : Addr) (T : Value) : Protocol := fun n s₀ v s₁ kap => n = 0 ∧ v = T ∧ ∃ h' tk, s₁ = { s₀ with heap := h', toks := tk } ∧ (∀ b o, b ≠ C → s₀.heap.get? b = some o → h'.get? b = some o) ∧ (∃ m, h'.Ns C m) ∧
  (∃ o, h'.get? sz = some o) ∧ (∃ o, h'.get? (sz + 1) = some o) ∧ ∀ s'' : Shared, (∀ b ∈ [C, sz, sz + 1, S, d1, nn], ∀ o, h'.get? b = some o → s''.heap.get? b = some o) → kap (.send .none) s''
variable {R : GenEnd} {Y : Protocol} {n : Nat} {s₀ : Shared} {fs : List Frame} {env : Env} {x : Str} {p1 p5 p6 p7 p8 p9 : Pos} {S d1 nn sz : Addr} {T : Value}
abbrev nsBody (x : Str) (p5 p6 p7 p8 p9 : Pos) : List Stmt := [.If (.Name x p5) [.Expr (.YieldFrom (.Name x p6) p7) p8] [] p9]
theorem rev_end {c : Code} (hh : ∀ c, (A.over c fs).handled = none) (hr : s.heap.IsRevIter sz S (-1)) (h : ∀ h', Heap.ExtBut sz s.heap h' → ∀ c, Seg (model prog w) A R Y n s₀ c (leafOf (.ok .next)) fs { s with heap := h' }) :
    Seg (model prog w) A R Y n s₀ (.forLoop (.Name x p1) (.ref sz) (nsBody x p5 p6 p7 p8 p9) [] env) ((model prog w).den (.forLoop (.Name x p1) (.ref sz) (nsBody x p5 p6 p7 p8 p9) [] env)) fs s := by
  refine seg_forLoop (wpAny_pyNext_rev_end (hh _) hr fun h' he => ?_)
  exact h h' he _
theorem rev_item (hk : env.scope.kind = .function) (hx : env.kindOf x = some .local) {m : Str → Option Value} {items : Array Value} {i : Nat} {l : Addr} (hC : env.locals ≠ sz) (hr : s.heap.IsRevIter sz S (i : Int)) (hS : s.heap.IsList S items) (hi : items[i]? = some (.ref l)) (hn : s.heap.Ns env.locals m)
    (h : ∀ h' tk, h'.IsRevIter sz S ((i : Int) - 1) → h'.Ns env.locals (fun y => if y = x then some (.ref l) else m y) → (∀ b o, b ≠ sz → b ≠ env.locals → s.heap.get? b = some o → h'.get? b = some o) → h'.objs.size = s.heap.objs.size →
      ∀ H', Seg (model prog w) A R Y n s₀ (.forLoop (.Name x p1) (.ref sz) (nsBody x p5 p6 p7 p8 p9) [] env) ((execs (nsBody x p5 p6 p7 p8 p9) env).wrap (fun f => match f with | .next | .cont => .pure (.again (.forLoop (.Name x p1) (.ref sz) (nsBody x p5 p6 p7 p8 p9) [] env)) | .brk => .pure (.done .next) | .ret v => .pure (.done (.ret v))) H' id id) fs { s with heap := h', toks := tk }) :
    Seg (model prog w) A R Y n s₀ (.forLoop (.Name x p1) (.ref sz) (nsBody x p5 p6 p7 p8 p9) [] env) ((model prog w).den (.forLoop (.Name x p1) (.ref sz) (nsBody x p5 p6 p7 p8 p9) [] env)) fs s := by
  have hp : (env.scope.kind == .class || (env.scope.kind == .module && env.locals != env.globals)) = false := by rw [hk]; rfl
  refine seg_forLoop (wpAny_pyNext_rev_item hr hS hi fun h1 hr1 hs1 => ?_)
  have hn1 : h1.Ns env.locals m := hn.at' fun o e => hs1.extBut _ o hC e
  refine wpAny_assign_Name (wpAny_storeName_local hx hn1 (fun h2 hn2 hs2 => ?_) hp)
  exact h h2 _ (hr1.at fun o e => hs2.extBut _ o (Ne.symm hC) e) hn2 (fun b o hb hb' e => hs2.extBut b o hb' (hs1.extBut b o hb e)) (hs2.1.trans hs1.1)
theorem test_list (hk : env.scope.kind = .function) (hx : env.kindOf x = some .local) (hd : (x == ("__debug__" : Str)) = false) {B : Around} {E : Value → Shared → Prop} {m : Str → Option Value} {items : Array Value} {l : Addr} {Q : Bool → Shared → Prop} (hn : s.heap.Ns env.locals m) (hm : m x = some (.ref l)) (hl : s.heap.IsList l items) (hz : items.size < 100)
    (h : Q (!items.isEmpty) { s with toks := s.toks + 1 + 1 }) : wpAny (model prog w) B (isTrue (.Name x p5) env (eval (.Name x p5) env)) Q E s :=
  isTrue_plain (wpAny_Name (wpAny_loadName_local hk hx hn hm (wpAny_truthy_list hl (by omega) h)) hd)
def NsFs (A : Around) (R : GenEnd) (fs : List Frame) : Prop := splitAtGen fs = none ∧ fs.any Frame.guarded = false ∧ (∀ c, (A.over c fs).handled = none) ∧ (∀ c k g l c' p kp, (A.over c (Frame.ret k none g l c' p kp :: fs)).handled = none)
theorem gen_loop (hfs : NsFs A R fs) (hk : env.scope.kind = .function) (hx : env.kindOf x = some .local) (hd : (x == ("__debug__" : Str)) = false) {m : Str → Option Value}
    (hn : s.heap.Ns env.locals m) (hC : env.locals < sz) (hr : s.heap.IsRevIter sz S 1) (hS : s.heap.IsList S #[.ref d1, .ref nn]) (hd1 : s.heap.IsList d1 #[T]) (hnn : s.heap.IsList nn #[]) (hsz : s.heap.objs.size = sz + 1) (hS' : S < sz) (hd1' : d1 < sz) (hnn' : nn < sz) (aS : S ≠ env.locals) (ad : d1 ≠ env.locals) (an : nn ≠ env.locals)
    (hY : ∀ h' tk, (∀ b o, b ≠ sz → b ≠ env.locals → s.heap.get? b = some o → h'.get? b = some o) → (∃ m, h'.Ns env.locals m) → (∃ o, h'.get? sz = some o) → (∃ o, h'.get? (sz + 1) = some o) → ∀ kap : Resume → Shared → Prop,
      (∀ s'' : Shared, (∀ b ∈ [env.locals, sz, sz + 1, S, d1, nn], ∀ o, h'.get? b = some o → s''.heap.get? b = some o) →
        (∀ h₃ tk₃, (∀ b o, b ≠ env.locals → b ≠ sz → b ≠ sz + 1 → s''.heap.get? b = some o → h₃.get? b = some o) → ∀ c, Seg (model prog w) A R Y n s'' c (leafOf (.ok .next)) fs { s'' with heap := h₃, toks := tk₃ }) → kap (.send .none) s'') → Y n s₀ T { s with heap := h', toks := tk } kap) :
    Seg (model prog w) A R Y (n + 1) s₀ (.forLoop (.Name x p1) (.ref sz) (nsBody x p5 p6 p7 p8 p9) [] env) ((model prog w).den (.forLoop (.Name x p1) (.ref sz) (nsBody x p5 p6 p7 p8 p9) [] env)) fs s := by
  obtain ⟨f1, f2, f3, f4⟩ := hfs
  have hi : interactive env = false := by unfold interactive; rw [hk]; rfl
  refine rev_item (i := 1) hk hx (Nat.ne_of_lt hC) hr hS rfl hn fun h1 tk1 hr1 hn1 k1 z1 H1 => ?_
  refine seg_execs_cons (seg_If (test_list hk hx hd hn1 (by simp) (hnn.at fun o e => k1 _ o (Nat.ne_of_lt hnn') an e) (by decide) ?_))
  rw [if_neg (by decide)]
  refine seg_execs_nil (seg_execs_nil (seg_again rfl ?_))
  refine rev_item (i := 0) hk hx (Nat.ne_of_lt hC) hr1 (hS.at fun o e => k1 _ o (Nat.ne_of_lt hS') aS e) rfl hn1 fun h2 tk2 hr2 hn2 k2 z2 H2 => ?_
  have hd2 : h2.IsList d1 #[T] := hd1.at fun o e => k2 _ o (Nat.ne_of_lt hd1') ad (k1 _ o (Nat.ne_of_lt hd1') ad e)
  refine seg_execs_cons (seg_If (test_list hk hx hd hn2 (by simp) hd2 (show 1 < 100 by decide) ?_))
  rw [if_pos (show (!(#[T] : Array Value).isEmpty) = true from rfl)]
  refine seg_execs_cons (seg_yfrom (l := d1) (T := T) f1 rfl f2 f4 hi ?_)
  dsimp only
  refine wpAny_Name (wpAny_loadName_local hk hx hn2 (if_pos rfl) ⟨rfl, hd2, fun h3 hli3 k3 kap hkap => ?_⟩) hd
  have e2 : h2.objs.size = sz + 1 := z2.trans (z1.trans hsz)
  dsimp only at hli3 hkap k3
  rw [e2] at hli3 hkap
  have hR2 : ∃ o, h3.get? sz = some o := let ⟨o, ho, _⟩ := hr2; ⟨o, k3 _ _ ho⟩
  have hr3 : h3.IsRevIter sz S (-1) := hr2.at fun o e => k3 _ o e
  have hn3 : ∃ m, h3.Ns env.locals m := ⟨_, hn2.keeps k3⟩
  refine hY h3 _ (fun b o hb hb' e => k3 _ _ (k2 _ o hb hb' (k1 _ o hb hb' e))) hn3 hR2 (let ⟨o, ho, _⟩ := hli3; ⟨o, ho⟩) kap fun s'' hal hend => ?_
  refine hkap s'' (hli3.at fun o e => hal _ (by simp) o e) ((hd2.at fun o e => k3 _ o e).at fun o e => hal _ (by simp) o e) fun h4 he4 => ?_
  refine seg_execs_nil (seg_again rfl ?_)
  have hr4 : h4.IsRevIter sz S (-1) := (hr3.at fun o e => hal _ (by simp) o e).at fun o e => he4 _ o (Nat.ne_of_lt (Nat.lt_succ_self sz)) e
  refine rev_end (c := .func [] env) f3 hr4 fun h5 he5 c' => ?_
  exact hend h5 s''.toks (fun b o hb1 hb2 hb3 e => he5 b o hb2 (he4 b o hb3 e)) c'
theorem gen_body {rv st : Str} {p2 p3 p4 p10 : Pos} {m : Str → Option Value} (hA : A.handled = none)
    (hx : env.kindOf x = some .local) (hrv : env.kindOf rv = some .local) (hst : env.kindOf st = some .local) (hk : env.scope.kind = .function)
    (hd1 : (x == ("__debug__" : Str)) = false) (hd2 : (rv == ("__debug__" : Str)) = false) (hd3 : (st == ("__debug__" : Str)) = false)
    (hn : s.heap.Ns env.locals m) (m1 : m rv = some (.type "reversed")) (m2 : m st = some (.ref S)) (hS : s.heap.IsList S #[.ref d1, .ref nn]) (hd : s.heap.IsList d1 #[T]) (hnn : s.heap.IsList nn #[]) (hsz : s.heap.objs.size = sz)
    (aS : S ≠ env.locals) (ad : d1 ≠ env.locals) (an : nn ≠ env.locals) :
    Seg (model prog w) A (NsEnd env.locals sz) (NsGo env.locals sz S d1 nn T) 1 s
      (.func [.For (.Name x p1) (.Call (.Name rv p2) [.Name st p3] [] p4) (nsBody x p5 p6 p7 p8 p9) [] p10] env)
      ((model prog w).den (.func [.For (.Name x p1) (.Call (.Name rv p2) [.Name st p3] [] p4) (nsBody x p5 p6 p7 p8 p9) [] p10] env)) [] s := by
  have hp : (env.scope.kind == .class || (env.scope.kind == .module && env.locals != env.globals)) = false := by rw [hk]; rfl
  have hi : interactive env = false := by unfold interactive; rw [hk]; rfl
  have hlC : env.locals < sz := hsz ▸ hn.lt
  have lt : ∀ {l : Addr} {items : Array Value}, s.heap.IsList l items → l < sz := fun hl => let ⟨_, ho, _⟩ := hl; hsz ▸ Heap.lt_size ho
  refine seg_func (seg_execs_cons (seg_For (by intro x; rfl) ?_))
  refine Call_Name1 (wpAny_Name (wpAny_loadName_local hk hrv hn m1 ?_) hd2)
  refine PySem.callWith_type1 (wpAny_Name (wpAny_loadName_local hk hst hn m2 ?_) hd3)
  refine call_reversed_list hS ?_
  have hr : (s.heap.push (revObj S 1)).IsRevIter sz S 1 := hsz ▸ ⟨_, Heap.get?_push_size _ rfl, rfl, rfl⟩
  show wpAny _ _ (pyIter (.ref s.heap.objs.size)) _ _ { s with heap := s.heap.push (revObj S 1) }
  rw [hsz]
  refine wpAny_pyIter_revIter hr fun p lv' => ?_
  refine gen_loop ⟨rfl, rfl, fun c => ?_, fun c k g l c' p kp => ?_⟩ hk hx hd1 (hn.push _) hlC hr (hS.push _) (hd.push _) (hnn.push _) (by rw [Heap.size_push, hsz]) (lt hS) (lt hd) (lt hnn) aS ad an ?_
  · simp [Around.over, marksOver, Frame.marks, hA]; rfl
  · simp [Around.over, marksOver, Frame.marks, hA]; rfl
  · intro h' tk k1 hn' hz hz1 kap hk
    refine ⟨rfl, rfl, h', tk, rfl, fun b o hb e => ?_, hn', hz, hz1, fun s'' hal => hk s'' hal fun h₃ tk₃ k3 c => ?_⟩
    · exact k1 b o (hsz ▸ Nat.ne_of_lt (Heap.lt_size e)) hb (Heap.get?_push_of_some _ e)
    · refine seg_leaf (.ok .next) ?_
      exact seg_execs_nil (env := env) (seg_end (.ok (.ret .none)) ⟨rfl, rfl, h₃, tk₃, rfl, k3⟩)
end
end Mine
end

section
open PySem PySem.W PyProof.Rows PySem.Calls PySem.Spec
open Sem (wp)
namespace Mine
/-- no generator with something to clean up is left behind -/
def Bg (a b : Array GenState) : Prop := AllBare a → AllBare b
theorem Bg.refl (a : Array GenState) : Bg a a := fun h => h
theorem Bg.trans {a b c : Array GenState} (h : Bg a b) (h' : Bg b c) : Bg a c := fun x => h' (h x)
theorem Bg.push (a : Array GenState) {g : GenState} (h : g.bare = true) : Bg a (a.push g) := fun x => x.push h
theorem Bg.set (a : Array GenState) (i : Nat) {g : GenState} (h : g.bare = true) : Bg a (a.setIfInBounds i g) := fun x y hy => by
  rcases Array.mem_or_eq_of_mem_setIfInBounds hy with h' | h'
  · exact x y h'
  · exact h' ▸ h
section
variable {prog : Program} {w : World} {A : Around} {E : Value → Shared → Prop} {s : Shared}
theorem pyNext_bare {a : Addr} {g n : Nat} {gs : GenState} {P : Nat → Shared → Shared → Prop} {Y : Protocol} {Q : Option Value → Shared → Prop} (hh : A.handled = none) (hl : s.heap.NoLimit) (hroom : A.depth < recursionLimit) (hg : s.heap.IsGen a g) (hgs : s.gens[g]? = some gs)
    (hgo : gs.Goes (model prog w) A.in1 (fun n s₀ r s₁ => r = .ok (.ret .none) ∧ P n s₀ s₁) Y n (.send .none) (s.setGen g .running))
    (hY : ∀ v s₁ gs', gs'.bare = true → Y (n - 1) (s.setGen g .running) v s₁ (fun r' s'' => match n with
        | 0 => False
        | m + 1 => gs'.Goes (model prog w) A.in1 (fun n s₀ r s₁ => r = .ok (.ret .none) ∧ P n s₀ s₁) Y m r' s'') → Q (some v) (s₁.setGen g gs'))
    (hP : ∀ s₁, P n (s.setGen g .running) s₁ → ∀ h', (∀ b o, s₁.heap.get? b = some o → h'.get? b = some o) → Q none { s₁.setGen g .finished with heap := h' }) :
    wpAny (model prog w) A (pyNext (.ref a)) Q E s := by
  unfold pyNext
  refine wpAny_bind (wpAny_attempt (wpAny_callSpecial?_slot (name := Str.ofString "__next__") hg.typeIs slot_gen_next (wpAny_call_entry slot_gen_next hg.typeIs entry_gen_next ?_ (args_gen_next _))))
  show wpAny _ _ (Builtin.Generator.genWake (.ref a) (.send .none)) _ _ s
  unfold Builtin.Generator.genWake
  refine wpAny_bind (wpAny_holding (wpAny_genNumber hg (wpAny_bind (wpAny_genState hgs ?_))))
  cases gs with
  | running => exact hgo.elim
  | finished => exact hgo.elim
  | _ =>
    refine wpAny_bind (wpAny_roomToWake hl hroom ?_)
    show wpAny _ _ (.resume g (.send .none) [] _) _ _ s
    refine wpAny_resumeQ hgs hgo (fun x s₁ hx => ?_) (fun v s₁ gs' hb hv => wpAny_pure ⟨v, rfl, wpAny_pure (hY v s₁ gs' hb hv)⟩)
    obtain ⟨rfl, hp⟩ := hx
    show wpAny _ _ (newExc (.type "StopIteration") [] >>= _) _ _ _
    refine wpAny_bind ?_
    simp only [newExc, newTuple]
    refine wpAny_bind (wpAny_newObj_type ?_ (by size_fits))
    refine wpAny_bind (m := firstArgMember _ _) (wpAny_of_eq (a := Value.none) (by first | rfl | (simp only [firstArgMember]; rfl)) ?_)
    refine wpAny_newObj_type ?_ (by size_fits)
    simp only [raiseNew]
    refine wpAny_bind (wpAny_bind (wpAny_handled ?_))
    rw [show A.in1.handled = none from hh]
    refine wpAny_throw (wpAny_bind (wpAny_isInstance (T := "StopIteration") (b := true) ⟨_, Heap.get?_push_size _ rfl, rfl⟩ isSubtype_stop ?_))
    exact wpAny_pure (hP s₁ hp _ fun b o hb => Heap.get?_push_of_some _ (Heap.get?_push_of_some _ hb))
end
end Mine
end

section
open PySem PySem.W PyProof.Rows PySem.Calls PySem.Spec
namespace Mine
theorem ltHd {a x : Addr} {o : Obj} {l : List (Addr × Obj)} (h : ∀ p ∈ ((x, o) :: l : List (Addr × Obj)), p.1 < a) : @LT.lt Nat _ x a := h _ (.head _)
theorem ltHd2 {a x : Addr} {o : Obj} {l : List (Addr × Obj)} (h : AllLt a ((x, o) :: l)) : @LT.lt Nat _ x a := h.1
theorem neGt {a b : Nat} (h : b < a) : a ≠ b := Nat.ne_of_gt h
theorem leAll {a : Addr} {l l' : List (Addr × Obj)} (h : ∀ p ∈ l, p.1 < a) (hs : ∀ p ∈ l', p ∈ l) : AllLt a l' := allLt_of fun p hp => h p (hs p hp)
theorem ltMem {a b : Addr} {o : Obj} {l : List (Addr × Obj)} (h : ∀ p ∈ l, p.1 < b) (m : (a, o) ∈ l) : @LT.lt Nat _ a b := h _ m
theorem ltOf {a n L x : Nat} (h : a + n < L) (k : x ≤ a + n) : x < L := Nat.lt_of_le_of_lt k h
theorem leK {x a n m k : Nat} (e : m + k = n) (h : x ≤ a + m) : x + k ≤ a + n := e ▸ Nat.add_assoc a m k ▸ Nat.add_le_add_right h k
theorem fitLt {x k : Nat} (h : x < k) (hk : k ≤ 16777216) : x ≤ sizeLine := by rw [sizeLine_eq]; exact Nat.le_trans (Nat.le_of_lt h) hk
theorem fitLe {x k : Nat} (h : x ≤ k) (hk : k ≤ 16777216) : x ≤ sizeLine := by rw [sizeLine_eq]; exact Nat.le_trans h hk
theorem catM {a b : Str} {k m : Nat} (hm : k + 10000 = m) (hb : b.length ≤ 10000) (ha : a.length ≤ k) : (a ++ b).length ≤ m := by rw [Str.length_append, ← hm]; exact Nat.add_le_add ha hb
theorem catF {a : Str} (ha : a.length ≤ 120000) : a.length ≤ sizeLine := by rw [sizeLine_eq]; exact Nat.le_trans ha (by decide)
theorem catA {a b : Str} (ha : (a ++ b).length ≤ 120000) : a.length + b.length ≤ sizeLine := by rw [sizeLine_eq]; rw [Str.length_append] at ha; exact Nat.le_trans ha (by decide)
theorem catB1 {x k m : Nat} (h : x < k) (hk : k ≤ m) : x ≤ m := Nat.le_trans (Nat.le_of_lt h) hk
end Mine
end
local macro_rules | `(tactic| walk_at $s:str) => `(tactic| k_extra $s)
local macro_rules | `(tactic| k_all) => `(tactic| k_extra "k_all")
local macro_rules | `(tactic| k_mem) => `(tactic| k_extra "k_mem")
local macro_rules | `(tactic| k_ne) => `(tactic| k_extra "k_ne")
local macro_rules | `(tactic| k_steps) => `(tactic| k_extra "k_steps")
local macro_rules | `(tactic| kcj_all) => `(tactic| k_extra "kcj_all")
local macro_rules | `(tactic| ktr_room) => `(tactic| k_extra "ktr_room")
local macro_rules | `(tactic| ktr_units) => `(tactic| k_extra "ktr_units")
local macro_rules | `(tactic| size_fits) => `(tactic| k_extra "size_fits")
local macro_rules | `(tactic| tbn_find) => `(tactic| k_extra "tbn_find")

section
open PySem PySem.W PyProof.Rows PySem.Calls PySem.Spec
set_option maxHeartbeats 0
namespace Mine
noncomputable def flagNames : List Str := [.ofString "OPTIMIZED", .ofString "NEWLOCALS", .ofString "VARARGS", .ofString "VARKEYWORDS", .ofString "NESTED", .ofString "GENERATOR", .ofString "NOFREE", .ofString "COROUTINE", .ofString "ITERABLE_COROUTINE", .ofString "ASYNC_GENERATOR"]
noncomputable def wordOf (n : Int) : Str := if n < 10 then flagNames.getD n.toNat Str.empty else Str.ofString "0x" ++ Txt.item (Str.ofString "1248") (n.fmod 4) ++ Txt.mul (Str.ofString "0") (n.fdiv 4)
theorem law_word {w : World} {P : Program} {lo : List Str} {mean : ExcName → Option Value} {mg mb : Str → Option Value} {dp un : Nat} {gd : Option (List Code)} {cn : Str} {cs : Scope} {L a : Addr} {ccd : Value} {cl : List (Str × Addr)} {outer : List Env} {A₀ : Around} {base h₀ : Heap} {m : Str → Option Value} {news : List (Addr × Obj)} {s : Shared} {Q E : Value → Shared → Prop}
  (B : Below A₀ base outer h₀) (F : Fr h₀ L s.heap m) (X : (K w.params).In h₀) (N : News h₀ L s.heap news) (T : Top P lo mean mg mb h₀) (hk : cs.kind = .function) (hd : dp + 20 < recursionLimit) (hu : un + 200 < cLine) {n : Int} {t : Tok}
  (h0 : 0 ≤ n) (h1 : n < 32) (hret : ∀ u h' tk', Fr h₀ L h' m → News h₀ L h' news → Q (.str (wordOf n) u) { s with heap := h', toks := tk' }) :
  wpAny (model PySem.Challenge.rw_sw0083_01.row.prog w) (ktrTop dp un gd cn cs L a ccd cl outer) (call (.ref 347) [.int n t]) Q E s := by
  k_with_none
  k_with "chain" => first | with_reducible assumption | exact Nat.lt_succ_self _ | (refine Nat.lt_trans ?_ (by with_reducible assumption); k_extra "chain") | ((fail_if_success (show @LT.lt Nat _ _ 295)); refine Nat.lt_succ_of_lt ?_; k_extra "chain")
  k_with "eval Constant int" => refine Mine.const_intN ?_
  k_with "eval Constant str" => refine Mine.const_strN ?_
  k_with "binaryOp Add int int" => refine Mine.add_intN ?_
  k_with "binaryOp Mod int int" => refine Mine.mod_intN (by decide) ?_
  k_with "ktr_room" => (refine Mine.ltOf (by with_reducible assumption) ?_; (try dsimp only [depth_under_make, depth_under_kw, depth_in1, depth_deeper, depth_caller]); repeat (first | with_reducible exact Nat.le_add_right _ _ | with_reducible refine Mine.leK (Eq.refl (_ + _)) ?_))
  k_with "ktr_units" => (refine Mine.ltOf (by with_reducible assumption) ?_; (try dsimp only [units_in1, units_deeper, Around.mark_units, units_caller]); repeat (first | with_reducible exact Nat.le_add_right _ _ | with_reducible refine Mine.leK (Eq.refl (_ + _)) ?_))
  k_with "size_fits" => first | with_reducible assumption | exact Nat.zero_le _ | exact Mine.fitLt (by with_reducible assumption) (by decide) | exact Mine.fitLe (by with_reducible assumption) (by decide) | exact Mine.catF (by k_extra "cat") | exact Mine.catA (by k_extra "cat")
  k_with "cat" => repeat (first | exact Mine.catB1 (by with_reducible assumption) (by decide) | exact Nat.le_trans (by with_reducible assumption) (by decide) | with_reducible refine Mine.catM (Eq.refl (_ + 10000)) ?_ ?_ | ((with_reducible show (Str.ofString _).length ≤ _); decide) | ((with_reducible show Str.empty.length ≤ _); decide))
  k_with "And" => ((first | (with_reducible show PySem.Str.length (_ ++ _) ≤ sizeLine ∧ _) | ((fail_if_success (with_reducible show _ ∧ _)); dsimp only; (with_reducible show PySem.Str.length (_ ++ _) ≤ sizeLine ∧ _))); refine ⟨Mine.catF (by k_extra "cat"), ?_⟩)
  k_with "andlt" => first | with_reducible assumption | exact (by with_reducible assumption : (@LT.lt Nat _ _ _) ∧ _).1 | exact (by with_reducible assumption : (@LT.lt Nat _ _ _) ∧ (@LT.lt Nat _ _ _) ∧ _).2.1 | exact (by with_reducible assumption : (@LT.lt Nat _ _ _) ∧ (@LT.lt Nat _ _ _) ∧ (@LT.lt Nat _ _ _) ∧ _).2.2.1 | exact (by with_reducible assumption : (@LT.lt Nat _ _ _) ∧ (@LT.lt Nat _ _ _) ∧ (@LT.lt Nat _ _ _) ∧ (@LT.lt Nat _ _ _) ∧ _).2.2.2.1 | exact (by with_reducible assumption : (@LT.lt Nat _ _ _) ∧ (@LT.lt Nat _ _ _) ∧ (@LT.lt Nat _ _ _) ∧ (@LT.lt Nat _ _ _) ∧ (@LT.lt Nat _ _ _) ∧ _).2.2.2.2.1 | exact (by with_reducible assumption : (@LT.lt Nat _ _ _) ∧ (@LT.lt Nat _ _ _) ∧ (@LT.lt Nat _ _ _) ∧ (@LT.lt Nat _ _ _) ∧ (@LT.lt Nat _ _ _) ∧ (@LT.lt Nat _ _ _) ∧ _).2.2.2.2.2.1 | exact (by with_reducible assumption : (@LT.lt Nat _ _ _) ∧ (@LT.lt Nat _ _ _) ∧ (@LT.lt Nat _ _ _) ∧ (@LT.lt Nat _ _ _) ∧ (@LT.lt Nat _ _ _) ∧ (@LT.lt Nat _ _ _) ∧ (@LT.lt Nat _ _ _) ∧ _).2.2.2.2.2.2.1 | exact (by with_reducible assumption : (@LT.lt Nat _ _ _) ∧ (@LT.lt Nat _ _ _) ∧ (@LT.lt Nat _ _ _) ∧ (@LT.lt Nat _ _ _) ∧ (@LT.lt Nat _ _ _) ∧ (@LT.lt Nat _ _ _) ∧ (@LT.lt Nat _ _ _) ∧ (@LT.lt Nat _ _ _) ∧ _).2.2.2.2.2.2.2.1 | exact (by with_reducible assumption : (@LT.lt Nat _ _ _) ∧ (@LT.lt Nat _ _ _) ∧ (@LT.lt Nat _ _ _) ∧ (@LT.lt Nat _ _ _) ∧ (@LT.lt Nat _ _ _) ∧ (@LT.lt Nat _ _ _) ∧ (@LT.lt Nat _ _ _) ∧ (@LT.lt Nat _ _ _) ∧ (@LT.lt Nat _ _ _) ∧ _).2.2.2.2.2.2.2.2.1
  k_with "k_ne" => (refine neN ?_; (try dsimp only); first | with_reducible assumption | exact Ne.symm (by with_reducible assumption) | (refine Mine.neGt ?_; k_extra "andlt") | (refine Nat.ne_of_lt ?_; k_extra "andlt") | omega)
  have hf : 0 ≤ n.fdiv 4 ∧ n.fdiv 4 < 8 := by rw [Int.fdiv_eq_ediv_of_nonneg _ (by decide)]; omega
  obtain ⟨hf0, hf1⟩ := hf
  revert X; k_fill; intro X
  refine wpAny_call ?_
  k_dflt cell_enter
  k_steps
  all_goals (refine cb_retS (Q := Q) hret ?_ (by k_asm) (cb_drop (by assumption) (by kcj_all)))
  · unfold wordOf; rw [if_pos (by assumption)]; rfl
  · unfold wordOf; rw [if_neg (by assumption)]
end Mine
end

section
open PySem PySem.W PyProof.Rows PySem.Calls PySem.Spec
set_option maxHeartbeats 0
namespace Mine
theorem norm2 {m : Str → Option Value} {a b : Str} {v u : Value} (ha : m a = some v) (hb : m b = some u) : m = fun y => if y = a then some v else if y = b then some u else m y := by
  funext y
  by_cases h1 : y = a
  · rw [if_pos h1, h1, ha]
  · rw [if_neg h1]
    by_cases h2 : y = b
    · rw [if_pos h2, h2, hb]
    · rw [if_neg h2]
section
variable {prog : Program} {w : World} {A : Around} {E : Value → Shared → Prop} {s : Shared} {env : Env} {h₀ : Heap}
abbrev rangeIt (i : Nat) (kk : Nat) : Obj := { cls := .type "range_iterator", data := .fields #[rawInt i, rawInt ((kk : Int) - i), rawInt 1] }
def BrkStep (h₀ : Heap) (L l : Addr) (rest : List (Addr × Obj)) (J : (Str → Option Value) → Obj → Prop) (Q : Flow → Shared → Prop) (s : Shared) (f : Flow) (s₂ : Shared) : Prop := match f with
  | .ret v => Q (.ret v) s₂
  | .brk => Q .next s₂
  | _ => ∃ h' tk' m₂ o₂, s₂ = { s with heap := h', toks := tk' } ∧ Fr h₀ L h' m₂ ∧ News h₀ L h' ((l, o₂) :: rest) ∧ J m₂ o₂
inductive BrkAt (prog : Program) (w : World) (A : Around) (h₀ : Heap) (env : Env) (x : Str) (body : List Stmt) (Q : Flow → Shared → Prop) (E : Value → Shared → Prop) (xv : Value) (s₁ : Shared) : Prop
  | mk (r : Addr) (kk : Nat) (a b c : Tok) (l : Addr) (o : Obj) (news : List (Addr × Obj)) (m : Str → Option Value) (J : Nat → (Str → Option Value) → Obj → Prop) (e0 : xv = .ref r) (e1 : IsRange s₁.heap r 0 kk 1 a b c) (e2 : Builtin.Range.small 0 kk 1 = true) (e3 : Builtin.Range.rangeSize 0 kk 1 = (kk : Int)) (e4 : Fr h₀ env.locals s₁.heap m) (e5 : News h₀ env.locals s₁.heap ((l, o) :: news)) (e6 : (∀ p ∈ news, p.1 ≠ l)) (e7 : J 0 m o) (e8 : (∀ i t m₁ o₁ h tk rest, i < kk → J i m₁ o₁ → OwnOff rest [l] → (∀ p ∈ news, p ∈ rest) → Fr h₀ env.locals h (fun y => if y = x then some (.int (i : Int) t) else m₁ y) → News h₀ env.locals h ((l, o₁) :: rest) →
      wpAny (model prog w) A (execs body env) (BrkStep h₀ env.locals l rest (J (i + 1)) Q { s₁ with heap := h, toks := tk }) E { s₁ with heap := h, toks := tk })) (e9 : ∀ m₁ o₁, J kk m₁ o₁ → False) : BrkAt prog w A h₀ env x body Q E xv s₁
inductive BInv (h₀ : Heap) (L I l : Addr) (kk : Nat) (st : Shared) (news : List (Addr × Obj)) (J : Nat → (Str → Option Value) → Obj → Prop) (k : Nat) (s' : Shared) : Prop
  | mk (h' : Heap) (tk : Nat) (m' : Str → Option Value) (o' : Obj) (i : Nat) (e0 : s' = { st with heap := h', toks := tk }) (e1 : IsRangeIter h' I (0 + (i : Nat) * 1) ((kk : Int) - (i : Nat)) 1) (e2 : Fr h₀ L h' m') (e3 : News h₀ L h' ((l, o') :: news)) (e4 : J i m' o') (e5 : i ≤ kk) (e6 : k = kk + 1 - i) : BInv h₀ L I l kk st news J k s'
theorem BrkAt.intro {x : Str} {body : List Stmt} {Q : Flow → Shared → Prop} {r : Addr} {a b c : Tok} {l : Addr} {o : Obj} {news : List (Addr × Obj)} {m : Str → Option Value} (kk : Nat) (J : Nat → (Str → Option Value) → Obj → Prop)
    (F : Fr h₀ env.locals s.heap m) (N : News h₀ env.locals s.heap ((l, o) :: news)) (hr : IsRange s.heap r 0 kk 1 a b c) (hl : ∀ p ∈ news, p.1 ≠ l) (h0 : J 0 m o)
    (turn : ∀ i t m₁ o₁ h tk rest, i < kk → J i m₁ o₁ → OwnOff rest [l] → (∀ p ∈ news, p ∈ rest) → Fr h₀ env.locals h (fun y => if y = x then some (.int (i : Int) t) else m₁ y) → News h₀ env.locals h ((l, o₁) :: rest) →
      wpAny (model prog w) A (execs body env) (BrkStep h₀ env.locals l rest (J (i + 1)) Q { s with heap := h, toks := tk }) E { s with heap := h, toks := tk })
    (stop : ∀ m₁ o₁, J kk m₁ o₁ → False) (hsm : Builtin.Range.small 0 kk 1 = true) (hsz : Builtin.Range.rangeSize 0 kk 1 = (kk : Int)) : BrkAt prog w A h₀ env x body Q E (.ref r) s :=
  ⟨_, kk, _, _, _, _, _, _, _, J, rfl, hr, hsm, hsz, F, N, hl, h0, turn, stop⟩
theorem for_brk {x : Str} {px pos : Pos} {iter : Expr} {body orelse : List Stmt} {Q : Flow → Shared → Prop} {m₀ : Str → Option Value} (_F : Fr h₀ env.locals s.heap m₀) (hh : A.handled = none) (hx : env.kindOf x = some .local)
    (hp : (env.scope.kind == .class || (env.scope.kind == .module && env.locals != env.globals)) = false)
    (h : wpAny (model prog w) A (eval iter env) (BrkAt prog w A h₀ env x body Q E) E s)
    (hs : ∀ x, foldedSetIterable iter env x = pure x := by intro _; rfl) (hE : PassesOwn (model prog w) A env E := by passes_own) :
    wpAny (model prog w) A (exec (.For (.Name x px) iter body orelse pos) env) Q E s := by
  refine wpAny_For (wpAny_mono h (fun xv s₁ h₁ => ?_) fun _ _ e => e) hs
  obtain ⟨r, kk, a, b, c, l, o, news, m, J, rfl, hr, hsm, hsz, F, N, hl, h0, turn, stop⟩ := h₁
  refine wpAny_pyIter_range hr hsm ?_
  rw [hsz]
  have W := Walks.range (prog := prog) (w := w) hh s₁.heap.objs.size 0 1 kk
  have hIl : s₁.heap.objs.size ≠ l := fun e => Nat.lt_irrefl _ (e ▸ Heap.lt_size (N _ (.head _)).1)
  have hIL : s₁.heap.objs.size ≠ env.locals := fun e => Nat.lt_irrefl _ (e ▸ F.ns.lt)
  have hI0 : h₀.get? s₁.heap.objs.size = none := by
    cases q : h₀.get? s₁.heap.objs.size with
    | none => rfl
    | some o' => exact absurd (Heap.lt_size (F.keep _ _ q)) (Nat.lt_irrefl _)
  have hIn : ∀ p ∈ news, p.1 ≠ s₁.heap.objs.size := fun p hp e => Nat.lt_irrefl _ (e ▸ Heap.lt_size (N p (.tail _ hp)).1)
  have F₁ : Fr h₀ env.locals (s₁.heap.push (rangeIt 0 kk)) m := F.push _
  have N₁ : News h₀ env.locals (s₁.heap.push (rangeIt 0 kk)) ((l, o) :: news) := fun p hp => ⟨Heap.get?_push_of_some _ (N p hp).1, (N p hp).2⟩
  have S₁ : IsRangeIter (s₁.heap.push (rangeIt 0 kk)) s₁.heap.objs.size (0 + ((0 : Nat) : Int) * 1) ((kk : Int) - ((0 : Nat) : Int)) 1 := Heap.get?_push_size _ rfl
  show codeAny _ _ _ _ { s₁ with heap := s₁.heap.push (rangeIt 0 kk) }
  generalize hg : s₁.heap.push (rangeIt 0 kk) = g at F₁ N₁ S₁ ⊢
  generalize s₁.heap.objs.size = I at *
  refine codeAny_forLoop
    (BInv h₀ env.locals I l kk s₁ news J) ?_ (kk + 1)
    ⟨g, s₁.toks, m, o, 0, rfl, S₁, F₁, N₁, h0, Nat.zero_le _, rfl⟩
  rintro k s' ⟨h', tk, m', o', i, rfl, hst', F', N', hJ, hi, rfl⟩
  have next : ∀ h₁ : Heap, (∀ b o, b ∉ [I] → h'.get? b = some o → h₁.get? b = some o) → Fr h₀ env.locals h₁ m' ∧ News h₀ env.locals h₁ ((l, o') :: news) := fun h₁ hk₁ =>
    ⟨⟨F'.ns.at' fun o e => hk₁ _ o (fun q => hIL (List.mem_singleton.mp q).symm) e, fun b o e => hk₁ b o (fun q => by rw [List.mem_singleton.mp q, hI0] at e; cases e) (F'.keep b o e), F'.above⟩,
      fun p hp => ⟨hk₁ _ _ (fun q => by
        rcases List.mem_cons.mp hp with rfl | hp
        · exact hIl (List.mem_singleton.mp q).symm
        · exact hIn p hp (List.mem_singleton.mp q)) (N' p hp).1, (N' p hp).2⟩⟩
  by_cases hlt : i < kk
  · refine W.item i _ _ _ hlt hst' fun v h₁ tk₁ hP hst₁ hk₁ => ?_
    obtain ⟨F₁, N₁⟩ := next h₁ hk₁
    obtain ⟨t, rfl⟩ := hP
    refine wpAny_assign_Name (wpAny_storeName_local hx F₁.ns (fun h₂ hn₂ hs₂ => ?_) hp)
    have F₂ := F₁.set hn₂ hs₂
    have e₂ : h₂.get? I = some (rangeIt (i + 1) kk) := by
      refine (hs₂.2 I hIL).trans ?_
      have e : h₁.get? I = _ := hst₁
      rw [e]
      simp only [rangeIt, Int.zero_add, Int.mul_one]
    have N₂ : News h₀ env.locals h₂ ((l, o') :: (I, rangeIt (i + 1) kk) :: news) := by
      intro p hp
      rcases List.mem_cons.mp hp with rfl | hp
      · exact N₁.set hs₂ _ (.head _)
      rcases List.mem_cons.mp hp with rfl | hp
      · exact ⟨e₂, hIL, hI0⟩
      · exact N₁.set hs₂ _ (.tail _ hp)
    have off : OwnOff ((I, rangeIt (i + 1) kk) :: news) [l] := by
      intro p hp b hb
      rw [List.mem_singleton.mp hb]
      rcases List.mem_cons.mp hp with rfl | hp
      · exact hIl
      · exact hl p hp
    have hv : (0 : Int) + (i : Int) * 1 = (i : Int) := by rw [Int.zero_add, Int.mul_one]
    rw [hv] at F₂
    refine wpAny_mono (wpAny_passesOwn hE (turn i t m' o' h₂ _ _ hlt hJ off (fun p hp => .tail _ hp) F₂ N₂)) (fun f s₃ h₃ => ?_) fun _ _ e => e
    have fin : (∃ h' tk' m₂ o₂, s₃ = { s₁ with heap := h', toks := tk' } ∧ Fr h₀ env.locals h' m₂ ∧ News h₀ env.locals h' ((l, o₂) :: (I, rangeIt (i + 1) kk) :: news) ∧ J (i + 1) m₂ o₂) →
        ∃ m, m < kk + 1 - i ∧ BInv h₀ env.locals I l kk s₁ news J m s₃ := by
      rintro ⟨h₃', tk₃, m₂, o₂, rfl, F₃, N₃, hJ₃⟩
      refine ⟨kk + 1 - (i + 1), by omega, h₃', tk₃, m₂, o₂, i + 1, rfl, ?_, F₃, fun p hp => N₃ p ?_, hJ₃, hlt, rfl⟩
      · have e : h₃'.get? I = some (rangeIt (i + 1) kk) := (N₃ _ (.tail _ (.head _))).1
        show h₃'.get? I = _
        rw [e]
        simp only [rangeIt, Int.zero_add, Int.mul_one]
      · rcases List.mem_cons.mp hp with rfl | hp
        · exact .head _
        · exact .tail _ (.tail _ hp)
    cases f with
    | ret v => exact h₃
    | brk => exact h₃
    | cont => exact fin h₃
    | next => exact fin h₃
  · have hin : i = kk := by omega
    subst hin
    exact (stop _ _ hJ).elim
end
end Mine
end

section
open PySem PySem.W PyProof.Rows PySem.Calls PySem.Spec
set_option maxHeartbeats 0
namespace Mine
section
variable {w : World} {A : Around} {E : Value → Shared → Prop} {s : Shared} {Q : Value → Shared → Prop} {prog : Program}
theorem hex_len : ∀ i : Nat, i < 32 → (baseText "0x" 16 (1 * 2 ^ ((i : Int)).toNat)).length ≤ 16 := by decide +kernel
theorem hex_word : ∀ i : Nat, i < 32 → ¬ i < 10 → baseText "0x" 16 (1 * 2 ^ ((i : Int)).toNat) = wordOf (i : Int) := by decide +kernel
theorem hex_pow {i : Nat} {t : Tok} (hi : i < 32) (h : Q (.str (baseText "0x" 16 (1 * 2 ^ ((i : Int)).toNat)) s.toks) { s with toks := s.toks + 1 }) :
    wpAny (model prog w) A (call (.builtin "hex") [.int (1 * 2 ^ ((i : Int)).toNat) t]) Q E s :=
  P.hex_of_int h (Nat.le_trans (hex_len i hi) (by rw [sizeLine_eq]; omega))
noncomputable abbrev es39 : Array DictEntry := match o39.data with | .dict es _ => es | _ => #[]
theorem find39 : ∀ i : Nat, i < 32 → findBy Value.isInt es39 (1 * 2 ^ ((i : Int)).toNat) = if i < 10 then some (.str (wordOf (i : Int)) (292 + 2 * i)) else none := by decide +kernel
theorem map39 {h : Heap} (X : (K w.params).In h) : h.MapOf (intKind prog w) 39 (fun k => findBy Value.isInt es39 k) :=
  ⟨o39, es39, 10, X 39 o39 (by kernel_rfl), ⟨rfl, rfl, rfl⟩, rfl, (by
    have : es39.toList.all (fun e => match e.key with | .int k _ => decide (e.hash = hashInt k) | _ => false) = true := by decide +kernel
    intro e he
    have := List.all_eq_true.mp this e (Array.mem_toList_iff.mpr he)
    split at this
    · rename_i k t hk
      exact ⟨k, by rw [hk]; exact intKind_is prog w k t, of_decide_eq_true this⟩
    · cases this), fun _ => rfl⟩
theorem flags_get {i : Nat} {t u : Tok} (hi : i < 32) (X : (K w.params).In s.heap) (h : ∀ u', Q (.str (wordOf (i : Int)) u') { s with toks := s.toks + 1 }) :
    wpAny (model prog w) A (call (.builtin "dict.get") [.ref 39, .int (1 * 2 ^ ((i : Int)).toNat) t, .str (baseText "0x" 16 (1 * 2 ^ ((i : Int)).toNat)) u]) Q E s := by
  have hm := map39 (prog := prog) X
  refine call_meetsIn PySem.F.slot_dict_get hm.typeIs PySem.F.entry_dict_get (PySem.F.args_dict_get_3 _ _ _) (meets_dict_get_default (intKind prog w) 39 (intKind_is prog w _ t) rfl _) ⟨_, hm, ?_⟩
  rw [find39 i hi]
  by_cases h10 : i < 10
  · rw [if_pos h10]; exact h _
  · rw [if_neg h10, hex_word i hi h10]; exact h _
end
noncomputable def pfN (n : Int) (i : Nat) : List Str := ((List.range i).filter (fun j : Nat => decide (n / (2 : Int) ^ j % 2 = 1))).map (fun j : Nat => wordOf (j : Int))
noncomputable def prettyOf (n : Int) : Str := Txt.join (Str.ofString ", ") (pfN n 32)
theorem pfN_succ_t {n : Int} {i : Nat} (h : n / 2 ^ i % 2 = 1) : pfN n (i + 1) = pfN n i ++ [wordOf (i : Int)] := by
  unfold pfN; rw [List.range_succ, List.filter_append, List.map_append]; simp [h]
theorem pfN_succ_f {n : Int} {i : Nat} (h : ¬ n / 2 ^ i % 2 = 1) : pfN n (i + 1) = pfN n i := by
  unfold pfN; rw [List.range_succ, List.filter_append, List.map_append]; simp [h]
theorem two_pow_pos (i : Nat) : (0 : Int) < 2 ^ i := Int.pow_pos (by decide)
theorem ediv_succ (n : Int) (i : Nat) : n / 2 ^ (i + 1) = n / 2 ^ i / 2 := by
  rw [Int.pow_succ, Int.ediv_ediv_of_nonneg (Int.le_of_lt (two_pow_pos i))]
theorem pfN_end {n : Int} {i : Nat} (h : n / 2 ^ i = 0) : ∀ d, pfN n (i + d) = pfN n i
  | 0 => rfl
  | d + 1 => by
    have z : ∀ d, n / 2 ^ (i + d) = 0 := fun d => by
      induction d with
      | zero => exact h
      | succ d ih => rw [← Nat.add_assoc, ediv_succ, ih]; rfl
    rw [← Nat.add_assoc, pfN_succ_f (by rw [z d]; decide), pfN_end h d]
theorem word_len : ∀ i : Nat, i < 32 → (wordOf (i : Int)).length ≤ 20 := by decide +kernel
theorem pfN_len (n : Int) : ∀ i, i ≤ 32 → ((pfN n i).map (·.length)).sum ≤ 20 * i ∧ (pfN n i).length ≤ i
  | 0, _ => by simp [pfN]
  | i + 1, h => by
    have ih := pfN_len n i (by omega)
    have hw := word_len i (by omega)
    by_cases b : n / 2 ^ i % 2 = 1
    · rw [pfN_succ_t b]; simp only [List.map_append, List.map_cons, List.map_nil, List.sum_append, List.sum_cons, List.sum_nil, List.length_append, List.length_cons, List.length_nil]; omega
    · rw [pfN_succ_f b]; omega
theorem bit_and {n : Int} {i : Nat} : Builtin.bitAnd (2 ^ i * (n / 2 ^ i)) (1 * 2 ^ ((i : Int)).toNat) = (n / 2 ^ i % 2) * 2 ^ i := by
  rw [Int.one_mul, Int.toNat_natCast, kbt_bit, Int.mul_ediv_cancel_left _ (Int.ne_of_gt (two_pow_pos i))]
theorem bit_set {n : Int} {i : Nat} (h : ¬ Builtin.bitAnd (2 ^ i * (n / 2 ^ i)) (1 * 2 ^ ((i : Int)).toNat) = 0) : n / 2 ^ i % 2 = 1 := by
  rw [bit_and] at h
  have : n / 2 ^ i % 2 = 0 ∨ n / 2 ^ i % 2 = 1 := by omega
  rcases this with e | e
  · rw [e, Int.zero_mul] at h; exact absurd rfl h
  · exact e
theorem bit_clear {n : Int} {i : Nat} (h : Builtin.bitAnd (2 ^ i * (n / 2 ^ i)) (1 * 2 ^ ((i : Int)).toNat) = 0) : n / 2 ^ i % 2 = 0 := by
  rw [bit_and] at h
  rcases Int.mul_eq_zero.mp h with e | e
  · exact e
  · exact absurd e (Int.ne_of_gt (two_pow_pos i))
theorem bit_xor {n : Int} {i : Nat} (h : n / 2 ^ i % 2 = 1) : Builtin.bitXor (2 ^ i * (n / 2 ^ i)) (1 * 2 ^ ((i : Int)).toNat) = 2 ^ (i + 1) * (n / 2 ^ (i + 1)) := by
  rw [bitXor_and, bit_and, h, Int.one_mul, Int.one_mul, Int.toNat_natCast, ediv_succ, Int.pow_succ]
  have e : n / 2 ^ i = 2 * (n / 2 ^ i / 2) + 1 := by omega
  generalize n / 2 ^ i / 2 = q at e ⊢
  rw [e]
  generalize (2 : Int) ^ i = p
  rw [Int.mul_add, Int.mul_one, Int.mul_assoc p 2 q]; omega
theorem rest_same {n : Int} {i : Nat} (h : n / 2 ^ i % 2 = 0) : 2 ^ i * (n / 2 ^ i) = 2 ^ (i + 1) * (n / 2 ^ (i + 1)) := by
  rw [ediv_succ, Int.pow_succ, Int.mul_assoc]
  congr 1
  omega
theorem strs_len : ∀ {vs : List Value} {ys : List Str}, StrsAre vs ys → vs.length = ys.length
  | _, _, .nil => rfl
  | _, _, .cons _ _ r => by simp [strs_len r]
def PfJ (l : Addr) (n : Int) (i : Nat) (m : Str → Option Value) (o : Obj) : Prop :=
  ∃ t k vs, m (.ofString "flags") = some (.int (2 ^ i * (n / 2 ^ i)) t) ∧ m (.ofString "names") = some (.ref l) ∧ o = listOf (List.toArray vs) k ∧ StrsAre vs (pfN n i) ∧ 2 ^ i * (n / 2 ^ i) ≠ 0
theorem PfJ.step {l : Addr} {n : Int} {i : Nat} {m : Str → Option Value} {vs : List Value} {u : Tok} {k : Nat} {t : Tok} (hb : ¬ Builtin.bitAnd (2 ^ i * (n / 2 ^ i)) (1 * 2 ^ ((i : Int)).toNat) = 0)
    (hx : ¬ Builtin.bitXor (2 ^ i * (n / 2 ^ i)) (1 * 2 ^ ((i : Int)).toNat) = 0) (h1 : m (.ofString "flags") = some (.int (Builtin.bitXor (2 ^ i * (n / 2 ^ i)) (1 * 2 ^ ((i : Int)).toNat)) t)) (h2 : m (.ofString "names") = some (.ref l)) (hst : StrsAre vs (pfN n i)) :
    PfJ l n (i + 1) m (listOf (vs.toArray.push (.str (wordOf (i : Int)) u)) k) := by
  have b := bit_set hb
  rw [bit_xor b] at h1 hx
  exact ⟨t, k, vs ++ [.str (wordOf (i : Int)) u], h1, h2, by simp, by rw [pfN_succ_t b]; exact kct_snoc hst, hx⟩
theorem PfJ.same {l : Addr} {n : Int} {i : Nat} {m : Str → Option Value} {vs : List Value} {k : Nat} {t : Tok} (hb : Builtin.bitAnd (2 ^ i * (n / 2 ^ i)) (1 * 2 ^ ((i : Int)).toNat) = 0)
    (h1 : m (.ofString "flags") = some (.int (2 ^ i * (n / 2 ^ i)) t)) (h2 : m (.ofString "names") = some (.ref l)) (hst : StrsAre vs (pfN n i)) (h0 : 2 ^ i * (n / 2 ^ i) ≠ 0) :
    PfJ l n (i + 1) m (listOf (List.toArray vs) k) := by
  have b := bit_clear hb
  rw [rest_same b] at h1 h0
  exact ⟨t, k, vs, h1, h2, rfl, by rw [pfN_succ_f (by omega)]; exact hst, h0⟩
theorem pf_last {n : Int} {i : Nat} (hi : i < 32) (hb : ¬ Builtin.bitAnd (2 ^ i * (n / 2 ^ i)) (1 * 2 ^ ((i : Int)).toNat) = 0) (hx : Builtin.bitXor (2 ^ i * (n / 2 ^ i)) (1 * 2 ^ ((i : Int)).toNat) = 0) :
    Txt.join (Str.ofString ", ") (pfN n i ++ [wordOf (i : Int)]) = prettyOf n := by
  have b := bit_set hb
  rw [bit_xor b] at hx
  have z : n / 2 ^ (i + 1) = 0 := by
    rcases Int.mul_eq_zero.mp hx with e | e
    · exact absurd e (Int.ne_of_gt (two_pow_pos _))
    · exact e
  rw [← pfN_succ_t b]
  unfold prettyOf
  rw [show (32 : Nat) = (i + 1) + (31 - i) by omega, pfN_end z]
theorem join_push {prog : Program} {w : World} {A : Around} {E : Value → Shared → Prop} {s : Shared} {x : Str} {t u : Tok} {Q : Value → Shared → Prop} {D : Addr} {vs : List Value} {n : Int} {i : Nat} (hl : s.heap.IsList D (vs.toArray.push (.str (wordOf (i : Int)) u))) (hi : StrsAre vs (pfN n i)) (hi32 : i < 32) (hx : x.length ≤ 16)
    (h : ∀ t' k, Q (.str (Txt.join x (pfN n i ++ [wordOf (i : Int)])) t') { s with toks := k }) : wpAny (model prog w) A (call (.builtin "str.join") [.str x t, .ref D]) Q E s := by
  refine join_list hl (ys := pfN n i ++ [wordOf (i : Int)]) (by simpa using kct_snoc hi) ?_ h
  have := pfN_len n i (by omega)
  have hw := word_len i hi32
  simp only [List.map_append, List.map_cons, List.map_nil, List.sum_append, List.sum_cons, List.sum_nil, List.length_append, List.length_cons, List.length_nil]
  have : ((pfN n i).length + (0 + 1)) * x.length ≤ 33 * 16 := Nat.mul_le_mul (by omega) hx
  omega
theorem BrkStep.nextOf {h₀ : Heap} {L l : Addr} {rest : List (Addr × Obj)} {J : (Str → Option Value) → Obj → Prop} {Q : Flow → Shared → Prop} {s : Shared} {h' : Heap} {tk' : Nat} {m₂ : Str → Option Value} {o₂ : Obj}
    (F : Fr h₀ L h' m₂) (N : News h₀ L h' ((l, o₂) :: rest)) (hJ : J m₂ o₂) : BrkStep h₀ L l rest J Q s .next { s with heap := h', toks := tk' } := ⟨h', tk', m₂, o₂, rfl, F, N, hJ⟩
theorem BrkStep.brkOf {h₀ : Heap} {L l : Addr} {rest : List (Addr × Obj)} {J : (Str → Option Value) → Obj → Prop} {Q : Flow → Shared → Prop} {s s₂ : Shared} (h : Q .next s₂) : BrkStep h₀ L l rest J Q s .brk s₂ := h
theorem pretty {w : World} {P : Program} {lo : List Str} {mean : ExcName → Option Value} {mg mb : Str → Option Value} {dp un : Nat} {gd : Option (List Code)} {cn : Str} {cs : Scope} {L a : Addr} {ccd : Value} {cl : List (Str × Addr)} {outer : List Env} {A₀ : Around} {base h₀ : Heap} {m : Str → Option Value} {news : List (Addr × Obj)} {s : Shared} {Q E : Value → Shared → Prop}
  (B : Below A₀ base outer h₀) (F : Fr h₀ L s.heap m) (X : (K w.params).In h₀) (N : News h₀ L s.heap news) (T : Top P lo mean mg mb h₀) (hk : cs.kind = .function) (hd : dp + 20 < recursionLimit) (hu : un + 200 < cLine) {n : Int} {t : Tok}
  (h0 : 0 < n) (h1 : n < 4294967296) (hret : ∀ u h' tk', Fr h₀ L h' m → News h₀ L h' news → Q (.str (prettyOf n) u) { s with heap := h', toks := tk' }) :
  wpAny (model PySem.Challenge.rw_sw0083_01.row.prog w) (ktrTop dp un gd cn cs L a ccd cl outer) (call (.ref 46) [.int n t]) Q E s := by
  k_with_none
  k_with "chain" => first | with_reducible assumption | exact Nat.lt_succ_self _ | (refine Nat.lt_trans ?_ (by with_reducible assumption); k_extra "chain") | ((fail_if_success (show @LT.lt Nat _ _ 295)); refine Nat.lt_succ_of_lt ?_; k_extra "chain")
  k_with "eval Constant int" => refine Mine.const_intN ?_
  k_with "eval Constant str" => refine Mine.const_strN ?_
  k_with "binaryOp Add int int" => refine Mine.add_intN ?_
  k_with "binaryOp Mod int int" => refine Mine.mod_intN (by decide) ?_
  k_with "ktr_room" => (refine Mine.ltOf (by with_reducible assumption) ?_; (try dsimp only [depth_under_make, depth_under_kw, depth_in1, depth_deeper, depth_caller]); repeat (first | with_reducible exact Nat.le_add_right _ _ | with_reducible refine Mine.leK (Eq.refl (_ + _)) ?_))
  k_with "ktr_units" => (refine Mine.ltOf (by with_reducible assumption) ?_; (try dsimp only [units_in1, units_deeper, Around.mark_units, units_caller]); repeat (first | with_reducible exact Nat.le_add_right _ _ | with_reducible refine Mine.leK (Eq.refl (_ + _)) ?_))
  k_with "size_fits" => first | with_reducible assumption | exact Nat.zero_le _ | exact Mine.fitLt (by with_reducible assumption) (by decide) | exact Mine.fitLe (by with_reducible assumption) (by decide) | exact Mine.catF (by k_extra "cat") | exact Mine.catA (by k_extra "cat")
  k_with "cat" => repeat (first | exact Mine.catB1 (by with_reducible assumption) (by decide) | exact Nat.le_trans (by with_reducible assumption) (by decide) | with_reducible refine Mine.catM (Eq.refl (_ + 10000)) ?_ ?_ | ((with_reducible show (Str.ofString _).length ≤ _); decide) | ((with_reducible show Str.empty.length ≤ _); decide))
  k_with "And" => ((first | (with_reducible show PySem.Str.length (_ ++ _) ≤ sizeLine ∧ _) | ((fail_if_success (with_reducible show _ ∧ _)); dsimp only; (with_reducible show PySem.Str.length (_ ++ _) ≤ sizeLine ∧ _))); refine ⟨Mine.catF (by k_extra "cat"), ?_⟩)
  k_with "andlt" => first | with_reducible assumption | exact (by with_reducible assumption : (@LT.lt Nat _ _ _) ∧ _).1 | exact (by with_reducible assumption : (@LT.lt Nat _ _ _) ∧ (@LT.lt Nat _ _ _) ∧ _).2.1 | exact (by with_reducible assumption : (@LT.lt Nat _ _ _) ∧ (@LT.lt Nat _ _ _) ∧ (@LT.lt Nat _ _ _) ∧ _).2.2.1 | exact (by with_reducible assumption : (@LT.lt Nat _ _ _) ∧ (@LT.lt Nat _ _ _) ∧ (@LT.lt Nat _ _ _) ∧ (@LT.lt Nat _ _ _) ∧ _).2.2.2.1 | exact (by with_reducible assumption : (@LT.lt Nat _ _ _) ∧ (@LT.lt Nat _ _ _) ∧ (@LT.lt Nat _ _ _) ∧ (@LT.lt Nat _ _ _) ∧ (@LT.lt Nat _ _ _) ∧ _).2.2.2.2.1 | exact (by with_reducible assumption : (@LT.lt Nat _ _ _) ∧ (@LT.lt Nat _ _ _) ∧ (@LT.lt Nat _ _ _) ∧ (@LT.lt Nat _ _ _) ∧ (@LT.lt Nat _ _ _) ∧ (@LT.lt Nat _ _ _) ∧ _).2.2.2.2.2.1 | exact (by with_reducible assumption : (@LT.lt Nat _ _ _) ∧ (@LT.lt Nat _ _ _) ∧ (@LT.lt Nat _ _ _) ∧ (@LT.lt Nat _ _ _) ∧ (@LT.lt Nat _ _ _) ∧ (@LT.lt Nat _ _ _) ∧ (@LT.lt Nat _ _ _) ∧ _).2.2.2.2.2.2.1 | exact (by with_reducible assumption : (@LT.lt Nat _ _ _) ∧ (@LT.lt Nat _ _ _) ∧ (@LT.lt Nat _ _ _) ∧ (@LT.lt Nat _ _ _) ∧ (@LT.lt Nat _ _ _) ∧ (@LT.lt Nat _ _ _) ∧ (@LT.lt Nat _ _ _) ∧ (@LT.lt Nat _ _ _) ∧ _).2.2.2.2.2.2.2.1 | exact (by with_reducible assumption : (@LT.lt Nat _ _ _) ∧ (@LT.lt Nat _ _ _) ∧ (@LT.lt Nat _ _ _) ∧ (@LT.lt Nat _ _ _) ∧ (@LT.lt Nat _ _ _) ∧ (@LT.lt Nat _ _ _) ∧ (@LT.lt Nat _ _ _) ∧ (@LT.lt Nat _ _ _) ∧ (@LT.lt Nat _ _ _) ∧ _).2.2.2.2.2.2.2.2.1
  k_with "k_ne" => (refine neN ?_; (try dsimp only); first | with_reducible assumption | exact Ne.symm (by with_reducible assumption) | (refine Mine.neGt ?_; k_extra "andlt") | (refine Nat.ne_of_lt ?_; k_extra "andlt") | omega)
  k_with "call builtin:hex" => (refine hex_pow (by assumption) ?_)
  k_with "call builtin:dict.get" => (k_here; refine flags_get (by assumption) (Frag.In.keeps (by k_asm) (Fr.keep (by k_asm))) ?_; intro _)
  k_with "call builtin:str.join" => (k_here; refine join_push (by is_list) (by assumption) (by assumption) (by decide) ?_; intro _ _)
  revert X; k_fill; intro X
  refine wpAny_call ?_
  k_dflt cell_enter
  k_steps
  refine for_brk (by k_asm) rfl rfl rfl ?_
  k_steps
  refine BrkAt.intro 32 (PfJ _ n) (by k_asm) (by k_asm) (by assumption) (fun p hp => Nat.ne_of_lt ((by assumption : ∀ p ∈ news, p.1 < _) p hp)) ⟨t, _, [], by rw [show (2 : Int) ^ 0 * (n / 2 ^ 0) = n by simp]; rfl, rfl, rfl, by unfold pfN; exact .nil, by simp; omega⟩ ?_ ?_ (by decide) (by decide)
  · intro i t' m₁ o₁ h₁ tk₁ rest hi hJ off sub F₁ N₁
    obtain ⟨tf, k, vs, hm1, hm2, rfl, hst, hne⟩ := hJ
    rw [norm2 hm1 hm2] at F₁
    clear hm1 hm2
    have hvl : vs.length ≤ 32 := by rw [strs_len hst]; exact Nat.le_trans (pfN_len n i (by omega)).2 (by omega)
    k_steps
    all_goals (try dsimp only)
    all_goals (first
      | (refine BrkStep.nextOf (by k_asm) (by k_asm) ?_; first
        | exact PfJ.step (by assumption) (by assumption) rfl rfl (by assumption)
        | exact PfJ.same (by assumption) rfl rfl (by assumption) (by assumption))
      | (refine BrkStep.brkOf ?_; dsimp only; k_steps))
    refine cb_retS (Q := Q) hret (pf_last hi (by assumption) (by assumption)) (by k_asm) (fun p hp => (by k_asm : News h₀ L _ _) p (.tail _ (sub p hp)))
  · rintro m₁ o₁ ⟨tf, k, vs, hm1, hm2, rfl, hst, hne⟩
    have : n / 2 ^ 32 = 0 := by omega
    rw [this] at hne
    exact hne (Int.mul_zero _)
end Mine
end

section
open PySem PySem.W PyProof.Rows PySem.Calls PySem.Spec
namespace Mine
open PySem.Builtin PySem.Builtin.Re
theorem rx_plain : PlainAttrs "re.Pattern" := ⟨⟨"object.__getattribute__", by rw [typeLookup_type, builtinLookup_eq_fast]; kernel_rfl, by decide +kernel⟩, by rw [typeLookup_type, builtinLookup_eq_fast]; kernel_rfl⟩
theorem rx_owner : Manifest.owners.lookup (String.ofList ['n', 'r', 'e', 't', 't', 'a', 'P', '.', 'e', 'r'].reverse) = some Manifest.sig_re_Pattern := by kernel_rfl
theorem rx_slot : Slot "re.Pattern" "search" "re.Pattern.search" :=
  .of (owner := "re.Pattern") (n := "search") (by rw [typeLookup_type, builtinLookup_eq_fast]; kernel_rfl) (by decide +kernel) (by decide +kernel) (by decide +kernel)
    (by first | exact .inl (by decide +kernel) | exact .inr (by decide +kernel)) (by rw [isSubtype_type]; kernel_rfl)
theorem rx_type : typeOf (.builtin "re.Pattern.search") = pure (.type "method_descriptor") := by show builtinType _ = _; rw [builtinType_eq_fast]; kernel_rfl
theorem rx_entry : entryFor table "re.Pattern.search" = some Builtin.«re.Pattern.search» := entryFor_of_tree (by kernel_rfl)
theorem rx_args (a b : Value) : argsOk "re.Pattern.search" ⟨[a, b], []⟩ := by
  unfold argsOk; rw [signature?_of (id := "re.Pattern.search") (n := ['h', 'c', 'r', 'a', 'e', 's']) (o := ['n', 'r', 'e', 't', 't', 'a', 'P', '.', 'e', 'r']) (by kernel_rfl) rx_owner]; kernel_rfl
theorem rx_named (a : Value) : reNamed "re.Pattern.search" "search" ["string", "pos", "endpos"] 1 [a] [] = pure [some a, none, none] := by with_unfolding_all rfl
theorem rx_drive {m : Sre.M} (h : (m.runFor 4).outcome.isSome = true) (n : Nat) : reDrive (n + 1) m = pure (m.runFor 4) := by
  rw [reDrive]; exact if_pos h
def fails (code : Array Nat) (x : Str) : Bool := match ((Sre.forSearch code x.cps 0 0 x.cps.size false).runFor 4).outcome with | some .failed => true | _ => false
theorem fails_eq {code : Array Nat} {x : Str} (h : fails code x = true) : ((Sre.forSearch code x.cps 0 0 x.cps.size false).runFor 4).outcome = some .failed := by
  unfold fails at h; split at h
  · assumption
  · cases h
section
variable {prog : Program} {w : World} {A : Around} {E : Value → Shared → Prop} {s : Shared}
theorem rx_end {m : Sre.M} {Q : Option Sre.M → Shared → Prop} (h : (m.runFor 4).outcome = some .failed) (hq : Q none s) : wpAny (model prog w) A (reRunToEnd m) Q E s := by
  unfold reRunToEnd
  rw [show (2 ^ 64 : Nat) = (2 ^ 64 - 1) + 1 from by decide, rx_drive (by rw [h]; rfl)]
  refine wpAny_bind (wpAny_pure (wpAny_bind (wpAny_forIn_list _ (fun _ _ s' => s' = s) _ ?_ ?_ _ _ rfl)))
  · rintro x rest b s' rfl
    split
    · exact wpAny_bind (wpAny_rule (wpAny_pure rfl))
    · exact wpAny_pure rfl
  · rintro b s' rfl
    rw [h]; exact wpAny_pure hq
def PatAt (h : Heap) (a : Addr) (code : Array Nat) : Prop :=
  ∃ (fs : Array Value) (T : Addr) (ws : Array Value) (n : Nat), h.get? a = some { cls := .type "re.Pattern", data := .fields fs } ∧ fs.getD 5 .none = .ref T ∧ reRawNat (fs.getD 2 .none) = 0 ∧ reRawNat (fs.getD 6 .none) = 0 ∧
    h.get? T = some { cls := .type "tuple", data := .seq ws n } ∧ (ws.map reRawOf).map (·.toNat) = code
theorem rx_call {a : Addr} {code : Array Nat} {x : Str} {t : Tok} {Q : Value → Shared → Prop} (hp : PatAt s.heap a code) (hx : fails code x = true) (hl : x.length < 1000) (h : Q .none s) :
    wpAny (model prog w) A (call (.builtin "re.Pattern.search") [.ref a, .str x t]) Q E s := by
  obtain ⟨fs, T, ws, n, h1, h2, h3, h4, h5, h6⟩ := hp
  refine call_meets rx_slot ⟨_, h1, rfl⟩ rx_entry (rx_args (.ref a) (.str x t)) (S := fun A R s' => s' = s ∧ R (.ok (.ret .none)) s') (.of_wp fun prog w A R s' hh => ?_) ⟨rfl, h⟩
  obtain ⟨rfl, hh⟩ := hh
  unfold Builtin.«re.Pattern.search» reTarget
  dsimp only
  rw [rx_named]
  have hsz : min ((2 : Int) ^ 63 - 1).toNat x.cps.size = x.cps.size := by
    have : x.cps.size < 1000 := hl
    have : ((2 : Int) ^ 63 - 1).toNat = 9223372036854775807 := by decide
    omega
  refine wpAny_bind (wpAny_bind (wpAny_pure ?_))
  dsimp only
  refine wpAny_bind (wpAny_pure (wpAny_bind (wpAny_pure (wpAny_bind (wpAny_fieldsOf h1 rfl (wpAny_bind (wpAny_bind (wpAny_pure (wpAny_pure ?_)))))))))
  simp only [h2, h3, h4]
  rw [if_neg (by decide), if_neg (by decide)]
  refine wpAny_bind ?_
  unfold reNoCollectionInside
  rw [if_neg (by decide)]
  refine wpAny_pure (wpAny_bind (wpAny_bind (wpAny_seqItems h5 rfl (wpAny_pure (wpAny_pure ?_)))))
  unfold reAnswer
  dsimp only [Option.getD_some]
  rw [h6, hsz]
  exact wpAny_bind (rx_end (fails_eq hx) (wpAny_pure ⟨_, rfl, hh⟩))
end
end Mine
end

section
open PySem PySem.W PyProof.Rows PySem.Calls PySem.Spec
namespace Mine
open PySem.Builtin PySem.Builtin.Re
noncomputable def code70 : Array Nat := #[14, 10, 4, 1, 1, 22, 0, 31, 16, 127, 0, 13, 7, 22, 0, 31, 16, 127, 0, 1]
noncomputable def code75 : Array Nat := #[14, 14, 4, 1, 1, 9, 4294966783, 0, 0, 2147483648, 0, 0, 0, 0, 0, 13, 11, 9, 4294966783, 0, 0, 2147483648, 0, 0, 0, 0, 0, 1]
def Clean (x : Str) : Prop := fails code70 x = true ∧ x.length < 1000
def CleanV (x : Str) : Prop := fails code75 x = true ∧ x.length < 1000
section
variable {w : World} {A : Around} {E : Value → Shared → Prop} {s : Shared} {prog : Program}
theorem pat70 {h : Heap} (X : (K w.params).In h) : PatAt h 70 code70 := ⟨_, 69, _, 0, X 70 o70 (by kernel_rfl), rfl, rfl, rfl, X 69 o69 (by kernel_rfl), by decide +kernel⟩
theorem pat75 {h : Heap} (X : (K w.params).In h) : PatAt h 75 code75 := ⟨_, 74, _, 0, X 75 o75 (by kernel_rfl), rfl, rfl, rfl, X 74 o74 (by kernel_rfl), by decide +kernel⟩
theorem rx70_method {pl : Sem Bool} {Q : Value × List Value → Shared → Prop} (X : (K w.params).In s.heap) (h : Q (.builtin "re.Pattern.search", [.ref 70]) s) : wpAny (model prog w) A (getMethod (.ref 70) "search" pl) Q E s :=
  getMethod_builtin ⟨_, X 70 o70 (by kernel_rfl), rfl⟩ rx_plain rx_slot rx_type (by rintro a ⟨⟩; exact ⟨_, X 70 o70 (by kernel_rfl), rfl⟩) h
theorem rx75_method {pl : Sem Bool} {Q : Value × List Value → Shared → Prop} (X : (K w.params).In s.heap) (h : Q (.builtin "re.Pattern.search", [.ref 75]) s) : wpAny (model prog w) A (getMethod (.ref 75) "search" pl) Q E s :=
  getMethod_builtin ⟨_, X 75 o75 (by kernel_rfl), rfl⟩ rx_plain rx_slot rx_type (by rintro a ⟨⟩; exact ⟨_, X 75 o75 (by kernel_rfl), rfl⟩) h
theorem rx70_call {x : Str} {t : Tok} {Q : Value → Shared → Prop} (X : (K w.params).In s.heap) (hx : Clean x) (h : Q .none s) : wpAny (model prog w) A (call (.builtin "re.Pattern.search") [.ref 70, .str x t]) Q E s :=
  rx_call (pat70 X) hx.1 hx.2 h
theorem rx75_call {x : Str} {t : Tok} {Q : Value → Shared → Prop} (X : (K w.params).In s.heap) (hx : CleanV x) (h : Q .none s) : wpAny (model prog w) A (call (.builtin "re.Pattern.search") [.ref 75, .str x t]) Q E s :=
  rx_call (pat75 X) hx.1 hx.2 h
end
theorem clean_of {x : Str} (h : (fails code70 x && decide (x.length < 1000)) = true) : Clean x := by
  rw [Bool.and_eq_true] at h; exact ⟨h.1, of_decide_eq_true h.2⟩
theorem cleanV_of {x : Str} (h : (fails code75 x && decide (x.length < 1000)) = true) : CleanV x := by
  rw [Bool.and_eq_true] at h; exact ⟨h.1, of_decide_eq_true h.2⟩
theorem clean_words : ∀ i : Nat, i < 32 → (fails code70 (wordOf (i : Int)) && decide ((wordOf (i : Int)).length < 1000)) = true := by decide +kernel
end Mine
end

section
open PySem PySem.W PyProof.Rows PySem.Calls PySem.Spec
namespace Mine
section
variable {prog : Program} {w : World} {A : Around} {E : Value → Shared → Prop} {s : Shared} {h₀ : Heap} {L l : Addr} {m : Str → Option Value} {news : List (Addr × Obj)}
theorem setslice_at {sl D : Addr} {its new : Array Value} {n : Nat} {Q : Unit → Shared → Prop} (ho : s.heap.get? l = some (seqObj "list" its n)) (hs : s.heap.IsSliceOf sl .none .none .none) (hD : s.heap.IsList D new) (hne : l ≠ D)
    (hz : its.size < 100) (hz' : new.size < 100) (h : ∀ h' n', Heap.SameBut l s.heap h' → h'.get? l = some (seqObj "list" new n') → Q () { s with heap := h' }) :
    wpAny (model prog w) A (setItem (.ref l) (.ref sl) (.ref D)) Q E s := by
  have hl : s.heap.IsList l its := ⟨_, ho, rfl, n, rfl⟩
  obtain ⟨os, hos, hcs, hds⟩ := id hs
  obtain ⟨oD, hoD, hcD, neD, hdD⟩ := id hD
  have hTs : s.TypeIs (.ref sl) "slice" := ⟨os, hos, hcs⟩
  unfold setItem
  refine wpAny_holding ?_
  refine wpAny_bind (wpAny_sequenceKey hl.typeIs (by decide) ?_)
  refine wpAny_bind (wpAny_callSpecial?_slot (name := Str.ofString "__setitem__") hl.typeIs slot_list_setitem
    (wpAny_call_entry slot_list_setitem hl.typeIs entry_list_setitem ?_ (args_list_setitem _ _ _)))
  show wpAny _ _ (Builtin.List.listSubscript? (.ref sl) >>= _) _ _ s
  refine wpAny_bind ?_
  unfold Builtin.List.listSubscript?
  refine wpAny_bind (wpAny_specialOf hTs slice_no_index ?_)
  simp only [Option.isNone_none, if_true]
  refine wpAny_pure ?_
  show wpAny _ _ (typeOf (.ref sl) >>= _) _ _ s
  refine wpAny_bind (wpAny_typeOf hTs ?_)
  rw [if_neg (by decide)]
  rw [listSliceParts_eq]
  refine wpAny_bind (wpAny_bind (wpAny_field hos hds (x := .none) rfl (wpAny_bind (wpAny_listPart (k := none) .none ?_))))
  rw [if_neg (by decide)]
  refine wpAny_bind (wpAny_field hos hds (x := .none) rfl (wpAny_bind (wpAny_listPart (k := none) .none ?_)))
  refine wpAny_bind (wpAny_field hos hds (x := .none) rfl (wpAny_bind (wpAny_listPart (k := none) .none (wpAny_pure ?_))))
  dsimp only
  have h1 : Builtin.List.listSameRef (.ref l) (.ref D) = false := by simp [Builtin.List.listSameRef, hne]
  rw [if_neg (by rw [h1]; decide)]
  unfold Builtin.List.listAllItems
  refine wpAny_bind (wpAny_bind (wpAny_typeOf hD.typeIs ?_))
  rw [if_pos (by decide)]
  refine listItems_at hoD hdD ?_
  refine wpAny_bind (listItems_at ho rfl ?_)
  refine wpAny_bind (wpAny_of_eq (sliceIndices_raw none none none its.size (by simp)) ?_)
  have hb : sliceBounds none none none its.size = (0, (its.size : Int), 1) := by simp [sliceBounds]
  rw [hb]
  dsimp only
  rw [if_pos (by decide)]
  refine wpAny_bind (wpAny_rule ?_)
  rw [if_neg (by unfold Builtin.List.listTooLong; rw [sizeLine_eq]; simp; omega)]
  refine wpAny_bind (listUpdate_at ho rfl ?_ (by rw [sizeLine_eq]; omega) (by rw [sizeLine_eq]; simp; omega))
  refine wpAny_bind (wpAny_letGo (wpAny_bind (wpAny_pure (wpAny_pure ?_))))
  refine ⟨_, rfl, wpAny_pure ?_⟩
  have e : its.extract 0 (Int.toNat 0) ++ new ++ its.extract (max 0 (its.size : Int)).toNat = new := by
    have e1 : (max 0 (its.size : Int)).toNat = its.size := by omega
    simp [e1]
  have q := get?_update_seq ho (fun xs : Array Value => xs.extract 0 (Int.toNat 0) ++ new ++ xs.extract (max 0 (its.size : Int)).toNat)
  simp only [e] at q
  exact h _ _ (Heap.SameBut.update ..) q
theorem setslice_K {g : Obj → List (Addr × Obj)} {sl D : Addr} {its new : Array Value} {n : Nat} {Q : Unit → Shared → Prop} (F : Fr h₀ L s.heap m) (N : News h₀ L s.heap news) (U : UpdF l (listOf its n) news g) (hs : s.heap.IsSliceOf sl .none .none .none) (hD : s.heap.IsList D new) (hne : l ≠ D)
    (hz : its.size < 100) (hz' : new.size < 100) (h : ∀ h' n', Fr h₀ L h' m → News h₀ L h' (g (listOf new n')) → Q () { s with heap := h' }) :
    wpAny (model prog w) A (setItem (.ref l) (.ref sl) (.ref D)) Q E s := by
  obtain ⟨pre, post, rfl, hg, a, b⟩ := U.split
  have hm := N (l, listOf its n) (List.mem_append_right _ (.head _))
  refine setslice_at hm.1 hs hD hne hz hz' fun h' n' hsb ho' => ?_
  exact h h' n' (F.change hsb hm.2.1 hm.2.2) (hg _ ▸ N.setIn a b hsb ho')
theorem setslice_P {g : Obj → List (Addr × Obj)} {D : Addr} {its new : Array Value} {n : Nat} {Q : Unit → Shared → Prop} (F : Fr h₀ L s.heap m) (N : News h₀ L s.heap news) (U : UpdF l (listOf its n) news g) (hD : s.heap.IsList D new) (hne : l ≠ D)
    (hz : its.size < 100) (hz' : new.size < 100) (h : ∀ h' n', Fr h₀ L h' m → News h₀ L h' (g (listOf new n')) → Q () { s with heap := h' }) :
    wpAny (model prog w) A (setItem (.ref l) (.ref s.heap.objs.size) (.ref D)) Q E { s with heap := s.heap.push { cls := .type "slice", data := .fields #[.none, .none, .none] } } :=
  setslice_K (s := { s with heap := s.heap.push { cls := .type "slice", data := .fields #[.none, .none, .none] } }) (F.push _) (N.grown fun _ _ e => Heap.get?_push_of_some _ e) U (Heap.IsSliceOf.new ..) (hD.push _) hne hz hz' h
end
end Mine
end

section
open PySem PySem.W PyProof.Rows PySem.Calls PySem.Spec
namespace Mine
def Hold (P : Prop) : Prop := P
theorem Hold.out {P : Prop} (h : Hold P) : P := h
section
variable {prog : Program} {w : World} {A : Around} {h₀ : Heap} {L : Addr} {m : Str → Option Value} {env : Env} {ct elt : Expr} {x : Str} {scope : Scope} {cl : List (Str × Addr)} {s : Shared} {S : List (Addr × Obj) → Prop} {P : Nat → Value → Prop} {Fin : List Value → List (Addr × Obj) → Prop} {news : List (Addr × Obj)}
theorem compU_each {n : Nat} (Inv : Nat → List Value → List (Addr × Obj) → Prop) (h0 : Inv 0 [] news)
    (turn : ∀ i ys nw v I oI C oC D m₂ h tk (E' : Value → Shared → Prop) (R : Value → List (Addr × Obj) → Prop), i < n → Inv i ys nw → P i v → LCg.NsObj oC m₂ → m₂ x = some v → Fr h₀ L h m → News h₀ L h ((I, oI) :: (C, oC) :: (D, LCg.lst ys) :: nw) → LCg.Off3 I C D nw → ((@Ne Nat I C) ∧ (@Ne Nat I D) ∧ (@Ne Nat C D)) →
      (∀ y nw', Inv (i + 1) (ys ++ [y]) nw' → R y nw') →
      wpAny (model prog w) A (eval elt (compEnvC scope cl C env)) (LCg.CompEnd h₀ L m { s with heap := h, toks := tk } I oI C oC D (LCg.lst ys) S R) E' { s with heap := h, toks := tk })
    (fin : ∀ ys nw, Inv n ys nw → Fin ys nw) : LCg.CompRest prog w A h₀ L m env elt x scope cl s S P Fin n 0 [] news := by
  have key : ∀ (j i : Nat) (ys : List Value) (nw : List (Addr × Obj)), i + j = n → Inv i ys nw → LCg.CompRest prog w A h₀ L m env elt x scope cl s S P Fin j i ys nw := by
    intro j
    induction j with
    | zero => intro i ys nw hi hI; obtain rfl : i = n := by omega
              exact fin ys nw hI
    | succ j ih =>
      intro i ys nw hi hI v I oI C oC D m₂ h tk E' hP hC hx F N off ne
      exact turn i ys nw v I oI C oC D m₂ h tk E' _ (by omega) hI hP hC hx F N off ne fun y nw' hI' => ih (i + 1) _ _ (by omega) hI'
  exact key n 0 [] news (by omega) h0
theorem compT_each {n : Nat} (Inv : Nat → List Value → List (Addr × Obj) → Prop) (h0 : Inv 0 [] news)
    (turn : ∀ i ys nw v I oI C oC D m₂ h tk (E' : Value → Shared → Prop) (R : Value → List (Addr × Obj) → Prop) (R' : List (Addr × Obj) → Prop), i < n → Inv i ys nw → P i v → LCg.NsObj oC m₂ → m₂ x = some v → Fr h₀ L h m → News h₀ L h ((I, oI) :: (C, oC) :: (D, LCg.lst ys) :: nw) → LCg.Off3 I C D nw → ((@Ne Nat I C) ∧ (@Ne Nat I D) ∧ (@Ne Nat C D)) →
      (∀ y nw', Inv (i + 1) (ys ++ [y]) nw' → R y nw') → (∀ nw', Inv (i + 1) ys nw' → R' nw') →
      wpAny (model prog w) A (isTrue ct (compEnvC scope cl C env) (eval ct (compEnvC scope cl C env))) (fun ok s' => if ok = true then wpAny (model prog w) A (eval elt (compEnvC scope cl C env)) (LCg.CompEnd h₀ L m { s with heap := h, toks := tk } I oI C oC D (LCg.lst ys) S R) E' s'
        else LCg.CompEnd h₀ L m { s with heap := h, toks := tk } I oI C oC D (LCg.lst ys) S (fun _ nw' => R' nw') Value.none s') E' { s with heap := h, toks := tk })
    (fin : ∀ ys nw, Inv n ys nw → Fin ys nw) : LCt.CompRestT prog w A h₀ L m env ct elt x scope cl s S P Fin n 0 [] news := by
  have key : ∀ (j i : Nat) (ys : List Value) (nw : List (Addr × Obj)), i + j = n → Inv i ys nw → LCt.CompRestT prog w A h₀ L m env ct elt x scope cl s S P Fin j i ys nw := by
    intro j
    induction j with
    | zero => intro i ys nw hi hI; obtain rfl : i = n := by omega
              exact fin ys nw hI
    | succ j ih =>
      intro i ys nw hi hI v I oI C oC D m₂ h tk E' hP hC hx F N off ne
      exact turn i ys nw v I oI C oC D m₂ h tk E' _ _ (by omega) hI hP hC hx F N off ne (fun y nw' hI' => ih (i + 1) _ _ (by omega) hI') fun nw' hI' => ih (i + 1) _ _ (by omega) hI'
  exact key n 0 [] news (by omega) h0
end
def keepInv (its : Array Value) (keep : Value → Bool) (news : List (Addr × Obj)) (i : Nat) (ys : List Value) (nw : List (Addr × Obj)) : Prop := nw = news ∧ ys = (its.toList.take i).filter keep
theorem keepInv.yes {its : Array Value} {keep : Value → Bool} {news nw : List (Addr × Obj)} {i : Nat} {ys : List Value} {v : Value} (h : keepInv its keep news i ys nw) (hv : its[i]? = some v) (hk : keep v = true) : keepInv its keep news (i + 1) (ys ++ [v]) nw := by
  obtain ⟨rfl, rfl⟩ := h
  refine ⟨rfl, ?_⟩
  have hv' : its.toList[i]? = some v := by simpa using hv
  rw [List.take_succ, hv', Option.toList_some, List.filter_append]
  simp [hk]
theorem keepInv.no {its : Array Value} {keep : Value → Bool} {news nw : List (Addr × Obj)} {i : Nat} {ys : List Value} {v : Value} (h : keepInv its keep news i ys nw) (hv : its[i]? = some v) (hk : keep v = false) : keepInv its keep news (i + 1) ys nw := by
  obtain ⟨rfl, rfl⟩ := h
  refine ⟨rfl, ?_⟩
  have hv' : its.toList[i]? = some v := by simpa using hv
  rw [List.take_succ, hv', Option.toList_some, List.filter_append]
  simp [hk]
noncomputable abbrev tabD (hh : Int) (kt : Tok) (l : Addr) : Obj := dictOf [⟨hh, .str (Str.ofString "_headers") kt, .ref l⟩] 1
noncomputable abbrev tupO (xs : List Value) : Obj := { cls := .type "tuple", data := .seq xs.toArray 0 }
def Rows (news : List (Addr × Obj)) (its : Array Value) (rows : List (Str × Str)) : Prop := its.size = rows.length ∧ ∀ (i : Nat) (v : Value), its[i]? = some v → ∃ (a : Addr) (r : Str × Str) (ta tb : Tok), rows[i]? = some r ∧ v = .ref a ∧ (a, tupO [.str r.1 ta, .str r.2 tb]) ∈ news
theorem sum_le {l : List Str} {c : Nat} (h : ∀ x ∈ l, x.length ≤ c) : (l.map (·.length)).sum ≤ l.length * c := by
  induction l with
  | nil => simp
  | cons a r ih =>
    have h1 := h a (.head _)
    have h2 := ih fun x hx => h x (.tail _ hx)
    simp only [List.map_cons, List.sum_cons, List.length_cons, Nat.add_mul]; omega
theorem str_app_len (x y : Str) : (x ++ y).length = x.length + y.length := by show (x.cps ++ y.cps).size = _; exact Array.size_append
theorem all_size {h₀ h : Heap} {L : Addr} {news : List (Addr × Obj)} (N : News h₀ L h news) : AllLt h.objs.size news := allLt_of fun p hp => Heap.lt_size (N p hp).1
structure SzMark : Prop where
theorem all_succ {a : Nat} : ∀ {l : List (Addr × Obj)}, AllLt a l → AllLt (a + 1) l
  | [], _ => trivial
  | _ :: _, h => ⟨Nat.lt_succ_of_lt h.1, all_succ h.2⟩
theorem ite_pos_ {c : Prop} [Decidable c] {P R : Prop} (hc : c) (h : P) : if c then P else R := by rw [if_pos hc]; exact h
theorem ite_neg_ {c : Prop} [Decidable c] {P R : Prop} (hc : ¬ c) (h : R) : if c then P else R := by rw [if_neg hc]; exact h
end Mine
end

section
open PySem PySem.W PyProof.Rows PySem.Calls PySem.Spec
open Sem (wp)
namespace Mine
section
variable {prog : Program} {w : World} {A : Around} {E : Value → Shared → Prop} {s : Shared}
def Ready1 (prog : Program) (w : World) (A : Around) (gs : GenState) (C S d1 nn : Addr) (T : Value) (h : Heap) : Prop :=
  ∀ (s : Shared) (sz : Addr), (∀ b ∈ [C, S, d1, nn], ∀ o, h.get? b = some o → s.heap.get? b = some o) → s.heap.objs.size = sz → gs.Goes (model prog w) A (NsEnd C sz) (NsGo C sz S d1 nn T) 1 (.send .none) s
def Ready0 (prog : Program) (w : World) (A : Around) (gs : GenState) (C sz S d1 nn : Addr) (T : Value) (h : Heap) : Prop :=
  ∀ s : Shared, (∀ b ∈ [C, sz, sz + 1, S, d1, nn], ∀ o, h.get? b = some o → s.heap.get? b = some o) → gs.Goes (model prog w) A (NsEnd C sz) (NsGo C sz S d1 nn T) 0 (.send .none) s
theorem ready_fresh {env : Env} {x rv st : Str} {p1 p2 p3 p4 p5 p6 p7 p8 p9 p10 : Pos} {S d1 nn : Addr} {T : Value} {m : Str → Option Value} {h : Heap} (hA : A.handled = none)
    (hx : env.kindOf x = some .local) (hrv : env.kindOf rv = some .local) (hst : env.kindOf st = some .local) (hk : env.scope.kind = .function)
    (hd1 : (x == ("__debug__" : Str)) = false) (hd2 : (rv == ("__debug__" : Str)) = false) (hd3 : (st == ("__debug__" : Str)) = false)
    (hn : h.Ns env.locals m) (m1 : m rv = some (.type "reversed")) (m2 : m st = some (.ref S)) (hS : h.IsList S #[.ref d1, .ref nn]) (hd : h.IsList d1 #[T]) (hnn : h.IsList nn #[])
    (aS : S ≠ env.locals) (ad : d1 ≠ env.locals) (an : nn ≠ env.locals) :
    Ready1 prog w A (.fresh (.func [.For (.Name x p1) (.Call (.Name rv p2) [.Name st p3] [] p4) (nsBody x p5 p6 p7 p8 p9) [] p10] env)) env.locals S d1 nn T h := fun s sz hal hsz =>
  ⟨rfl, gen_body hA hx hrv hst hk hd1 hd2 hd3 (hn.at' fun o e => hal _ (by simp) o e) m1 m2 (hS.at fun o e => hal _ (by simp) o e) (hd.at fun o e => hal _ (by simp) o e) (hnn.at fun o e => hal _ (by simp) o e) hsz aS ad an⟩
theorem next1 {G g C S d1 nn : Addr} {T : Value} {gs : GenState} {Q : Option Value → Shared → Prop} (hh : A.handled = none) (hl : s.heap.NoLimit) (hroom : A.depth < recursionLimit) (hg : s.heap.IsGen G g) (hgs : s.gens[g]? = some gs)
    (hr : Ready1 prog w A.in1 gs C S d1 nn T s.heap)
    (h : ∀ h' tk gens' gs', gens'[g]? = some gs' → Bg s.gens gens' → (∀ b o, b ≠ C → s.heap.get? b = some o → h'.get? b = some o) → (∃ m, h'.Ns C m) → (∃ o, h'.get? s.heap.objs.size = some o) → (∃ o, h'.get? (s.heap.objs.size + 1) = some o) →
      Ready0 prog w A.in1 gs' C s.heap.objs.size S d1 nn T h' → Q (some T) { s with heap := h', toks := tk, gens := gens' }) :
    wpAny (model prog w) A (pyNext (.ref G)) Q E s := by
  refine pyNext_bare (n := 1) (P := fun n s₀ s₁ => n = 0 ∧ ∃ h' tk, s₁ = { s₀ with heap := h', toks := tk } ∧ ∀ b o, b ≠ C → b ≠ s.heap.objs.size → b ≠ s.heap.objs.size + 1 → s₀.heap.get? b = some o → h'.get? b = some o) (Y := NsGo C s.heap.objs.size S d1 nn T) hh hl hroom hg hgs (hr _ _ (fun b _ o e => e) rfl) (fun v s₁ gs' hb hv => ?_) (fun s₁ hp => absurd hp.1 (by decide))
  obtain ⟨_, rfl, h', tk, rfl, k1, hn, hz, hz1, hgo⟩ := hv
  exact h h' tk _ gs' (setGen_self (gs := .running) (setGen_self hgs)) ((Bg.set _ _ rfl).trans (Bg.set _ _ hb)) k1 hn hz hz1 hgo
theorem next0 {G g C sz S d1 nn : Addr} {T : Value} {gs : GenState} {Q : Option Value → Shared → Prop} (hh : A.handled = none) (hl : s.heap.NoLimit) (hroom : A.depth < recursionLimit) (hg : s.heap.IsGen G g) (hgs : s.gens[g]? = some gs)
    (hr : Ready0 prog w A.in1 gs C sz S d1 nn T s.heap)
    (h : ∀ h' tk gens', Bg s.gens gens' → (∀ b o, b ≠ C → b ≠ sz → b ≠ sz + 1 → s.heap.get? b = some o → h'.get? b = some o) → Q none { s with heap := h', toks := tk, gens := gens' }) :
    wpAny (model prog w) A (pyNext (.ref G)) Q E s := by
  refine pyNext_bare (n := 0) (P := fun n s₀ s₁ => n = 0 ∧ ∃ h' tk, s₁ = { s₀ with heap := h', toks := tk } ∧ ∀ b o, b ≠ C → b ≠ sz → b ≠ sz + 1 → s₀.heap.get? b = some o → h'.get? b = some o) (Y := NsGo C sz S d1 nn T) hh hl hroom hg hgs (hr _ (fun b _ o e => e)) (fun v s₁ gs' hb hv => ?_) (fun s₁ hp h'' hk => ?_)
  · exact hv.2.2.elim fun _ h => h.elim fun _ h => (h.2.2.2.2.2 s₁ fun b _ o e => by rw [h.1]; exact e).elim
  · obtain ⟨_, h', tk, rfl, k1⟩ := hp
    exact h h'' tk _ ((Bg.set _ _ rfl).trans (Bg.set _ _ rfl)) fun b o h1 h2 h3 e => hk b o (k1 b o h1 h2 h3 e)
inductive GenTurn (h₀ : Heap) (L : Addr) (Q : Flow → Shared → Prop) (s₁ : Shared) (own : List (Addr × Obj)) (keep : List (Addr × Obj)) (C : Addr) (gens' : Array GenState) (f : Flow) (s₂ : Shared) : Prop
  | mk (e0 : f = .next) (h₂ : Heap) (tk₂ : Nat) (m₂ : Str → Option Value) (news₂ : List (Addr × Obj)) (e1 : s₂ = { s₁ with heap := h₂, toks := tk₂, gens := gens' }) (e2 : Fr h₀ L h₂ m₂) (e3 : News h₀ L h₂ (own ++ news₂)) (e4 : (∀ p ∈ keep, p ∈ news₂)) (e5 : (∀ p ∈ news₂, p.1 < C)) (e6 : ∀ h₃ tk₃ gens₃, Bg gens' gens₃ → Fr h₀ L h₃ m₂ → News h₀ L h₃ news₂ → Q .next { s₁ with heap := h₃, toks := tk₃, gens := gens₃ }) : GenTurn h₀ L Q s₁ own keep C gens' f s₂
inductive GenForAt (prog : Program) (w : World) (A : Around) (h₀ : Heap) (env : Env) (x1 x2 : Str) (body : List Stmt) (Q : Flow → Shared → Prop) (E : Value → Shared → Prop) (xv : Value) (s₁ : Shared) : Prop
  | mk (G g C S d1 nn T : Addr) (T1 T2 : Value) (gs : GenState) (nm ql : Str) (t u : Tok) (oC oS od on : Obj) (news : List (Addr × Obj)) (m : Str → Option Value) (e0 : xv = .ref G) (e1 : s₁.gens[g]? = some gs) (e2 : Ready1 prog w A.in1 gs C S d1 nn (.ref T) s₁.heap) (e3 : Fr h₀ env.locals s₁.heap m) (e4 : News h₀ env.locals s₁.heap ((G, genO g nm ql t u) :: (C, oC) :: news)) (e5 : (∀ p ∈ news, p.1 < C)) (e6 : C < G) (e7 : (T, tupO [T1, T2]) ∈ news) (e8 : (S, oS) ∈ news) (e9 : (d1, od) ∈ news) (e10 : (nn, on) ∈ news) (e11 : h₀.NoLimit) (e12 : ∀ h tk gens' RI LI oC' oRI oLI, Bg s₁.gens gens' → Fr h₀ env.locals h (fun y => if y = x2 then some T2 else if y = x1 then some T1 else m y) → News h₀ env.locals h ((LI, oLI) :: (RI, oRI) :: (G, genO g nm ql t u) :: (C, oC') :: news) → (G : Nat) < RI → (RI : Nat) < LI →
      wpAny (model prog w) A (execs body env) (GenTurn h₀ env.locals Q s₁ [(LI, oLI), (RI, oRI), (G, genO g nm ql t u), (C, oC')] [(S, oS), (d1, od), (nn, on)] C gens') E { s₁ with heap := h, toks := tk, gens := gens' }) : GenForAt prog w A h₀ env x1 x2 body Q E xv s₁
inductive GInv1 (prog : Program) (w : World) (A : Around) (h₀ : Heap) (L : Addr) (Q : Flow → Shared → Prop) (st : Shared) (G g C S d1 nn T : Addr) (nm ql : Str) (t u : Tok) (oS od on : Obj) (s' : Shared) : Prop
  | mk (RI : Addr) (LI : Addr) (oC' : Obj) (oRI : Obj) (oLI : Obj) (gs' : GenState) (gens' : Array GenState) (h₂ : Heap) (tk₂ : Nat) (m₂ : Str → Option Value) (news₂ : List (Addr × Obj)) (e0 : s' = { st with heap := h₂, toks := tk₂, gens := gens' }) (e1 : gens'[g]? = some gs') (e2 : (∀ h, News h₀ L h ([(LI, oLI), (RI, oRI), (G, genO g nm ql t u), (C, oC'), (S, oS), (d1, od), (nn, on)]) → Ready0 prog w A.in1 gs' C RI S d1 nn (.ref T) h)) (e3 : LI = RI + 1) (e4 : (G : Nat) < RI) (e5 : Fr h₀ L h₂ m₂) (e6 : News h₀ L h₂ ([(LI, oLI), (RI, oRI), (G, genO g nm ql t u), (C, oC')] ++ news₂)) (e7 : (∀ p ∈ [(S, oS), (d1, od), (nn, on)], p ∈ news₂)) (e8 : (∀ p ∈ news₂, p.1 < C)) (e9 : (∀ h₃ tk₃ gens₃, Bg gens' gens₃ → Fr h₀ L h₃ m₂ → News h₀ L h₃ news₂ → Q .next { st with heap := h₃, toks := tk₃, gens := gens₃ })) : GInv1 prog w A h₀ L Q st G g C S d1 nn T nm ql t u oS od on s'
theorem for_gen {x1 x2 : Str} {pa pb pt pos : Pos} {k : Nat} {iter : Expr} {body : List Stmt} {env : Env} {h₀ : Heap} {Q : Flow → Shared → Prop} (hh : A.handled = none) (hroom : A.depth < recursionLimit) (hx1 : env.kindOf x1 = some .local) (hx2 : env.kindOf x2 = some .local)
    (hp : (env.scope.kind == .class || (env.scope.kind == .module && env.locals != env.globals)) = false)
    (h : wpAny (model prog w) A (eval iter env) (GenForAt prog w A h₀ env x1 x2 body Q E) E s)
    (hs : ∀ x, foldedSetIterable iter env x = pure x := by intro _; rfl) (hE : PassesOwn (model prog w) A env E := by passes_own) :
    wpAny (model prog w) A (exec (.For (.Tuple [.Name x1 pa, .Name x2 pb] k pt) iter body [] pos) env) Q E s := by
  refine wpAny_For (wpAny_mono h (fun xv s₁ h₁ => ?_) fun _ _ e => e) hs
  obtain ⟨G, g, C, S, d1, nn, T, T1, T2, gs, nm, ql, t, u, oC, oS, od, on, news, m, rfl, hgs, hr1, F, N, hC, hCG, mT, mS, md, mn, hlim, turn⟩ := h₁
  have hg : s₁.heap.IsGen G g := ⟨_, _, _, (N _ (.head _)).1, rfl, rfl, rfl⟩
  refine wpAny_pyIter_gen hg ?_
  refine codeAny_forLoop_any (fun n s' => (n = 2 ∧ s' = s₁) ∨ (n = 1 ∧ GInv1 prog w A h₀ env.locals Q s₁ G g C S d1 nn T nm ql t u oS od on s')) ?_ 2 (.inl ⟨rfl, rfl⟩)
  rintro n s' (⟨rfl, rfl⟩ | ⟨rfl, RI, LI, oC', oRI, oLI, gs', gens', h₂, tk₂, m₂, news₂, rfl, hgs', hr0, rfl, hGR, F₂, N₂, hkeep, hlt, fin⟩)
  · refine next1 hh (hlim.keeps F.keep) hroom hg hgs hr1 fun h' tk gens' gs' hgs' hbg k1 hCn hR hL hr0 => ?_
    have hN := N
    have hL0 : env.locals < s'.heap.objs.size := F.ns.lt
    have up : ∀ a, s'.heap.objs.size ≤ a → h₀.get? a = none := fun a ha => Heap.get?_none_of_le (Nat.le_trans F.above (Nat.le_trans (Nat.le_of_lt hL0) ha))
    obtain ⟨oRI, hRI⟩ := hR
    obtain ⟨oLI, hLI⟩ := hL
    obtain ⟨mC, hCm⟩ := hCn
    obtain ⟨oC', hC', _⟩ := LCg.ns_obj hCm
    have hGz : (G : Nat) < s'.heap.objs.size := Heap.lt_size (N _ (.head _)).1
    have N1 : News h₀ env.locals h' ((s'.heap.objs.size + 1, oLI) :: (s'.heap.objs.size, oRI) :: (G, genO g nm ql t u) :: (C, oC') :: news) := by
      refine List.forall_mem_cons.mpr ⟨⟨hLI, Nat.ne_of_gt (Nat.lt_succ_of_lt hL0), up _ (Nat.le_succ _)⟩, List.forall_mem_cons.mpr ⟨⟨hRI, Nat.ne_of_gt hL0, up _ (Nat.le_refl _)⟩, List.forall_mem_cons.mpr ⟨?_, List.forall_mem_cons.mpr ⟨?_, fun p hp => ?_⟩⟩⟩⟩
      · exact ⟨k1 _ _ (Nat.ne_of_gt hCG) (N _ (.head _)).1, (N _ (.head _)).2⟩
      · exact ⟨hC', (N _ (.tail _ (.head _))).2⟩
      · exact ⟨k1 _ _ (Nat.ne_of_lt (hC p hp)) (N p (.tail _ (.tail _ hp))).1, (N p (.tail _ (.tail _ hp))).2⟩
    have hCL : C ≠ env.locals := (N (C, oC) (.tail _ (.head _))).2.1
    have hC0 : h₀.get? C = none := (N (C, oC) (.tail _ (.head _))).2.2
    have F1 : Fr h₀ env.locals h' m := ⟨F.ns.at' fun o e => k1 _ o (Ne.symm hCL) e, fun b o e => k1 b o (fun q => by rw [q, hC0] at e; cases e) (F.keep b o e), F.above⟩
    have hTT : h'.IsTuple T #[T1, T2] := ⟨_, (N1 _ (.tail _ (.tail _ (.tail _ (.tail _ mT))))).1, rfl, _, rfl⟩
    unfold letOwnedTupleGo
    refine wpAny_bind (wpAny_load (N1 _ (.tail _ (.tail _ (.head _)))).1 ?_)
    dsimp only
    rw [if_neg (by simp)]
    refine wpAny_pure ?_
    refine wpAny_assign_Tuple hh hTT rfl rfl fun h3 he3 => ?_
    show wpAny _ _ (do holding [T2] (assign (.Name x1 pa) env T1); do holding [] (assign (.Name x2 pb) env T2); pure ()) _ _ _
    have F3 : Fr h₀ env.locals h3 m := F1.kept fun b o e => he3 b o (Nat.ne_of_lt (Heap.lt_size e)) e
    have N3 : News h₀ env.locals h3 ((s'.heap.objs.size + 1, oLI) :: (s'.heap.objs.size, oRI) :: (G, genO g nm ql t u) :: (C, oC') :: news) := N1.grown fun b o e => he3 b o (Nat.ne_of_lt (Heap.lt_size e)) e
    refine wpAny_bind (wpAny_holding (wpAny_assign_Name (wpAny_storeName_local hx1 F3.ns (fun h4 hn4 hs4 => ?_) hp)))
    refine wpAny_bind (wpAny_holding (wpAny_assign_Name (wpAny_storeName_local hx2 hn4 (fun h5 hn5 hs5 => wpAny_pure ?_) hp)))
    have F5 := (F3.set hn4 hs4).set hn5 hs5
    have N5 := (N3.set hs4).set hs5
    refine wpAny_mono (wpAny_passesOwn hE (turn h5 _ gens' _ _ oC' oRI oLI hbg F5 N5 hGz (Nat.lt_succ_self _))) (fun f s₃ h₃ => ?_) fun _ _ e => e
    obtain ⟨rfl, h₂, tk₂, m₂, news₂, rfl, F₂, N₂, hkeep, hlt, fin⟩ := h₃
    refine ⟨1, by decide, .inr ⟨rfl, _, _, oC', oRI, oLI, gs', gens', h₂, tk₂, m₂, news₂, rfl, hgs', fun h NN s'' hal => ?_, rfl, hGz, F₂, N₂, hkeep, hlt, fin⟩⟩
    refine hr0 s'' fun b hb o e => hal b hb o ?_
    simp only [List.mem_cons, List.not_mem_nil, or_false] at hb
    rcases hb with rfl | rfl | rfl | rfl | rfl | rfl
    · rw [hC'] at e; cases e; exact (NN _ (.tail _ (.tail _ (.tail _ (.head _))))).1
    · rw [hRI] at e; cases e; exact (NN _ (.tail _ (.head _))).1
    · rw [hLI] at e; cases e; exact (NN _ (.head _)).1
    · rw [(N1 _ (.tail _ (.tail _ (.tail _ (.tail _ mS))))).1] at e; cases e; exact (NN _ (.tail _ (.tail _ (.tail _ (.tail _ (.head _)))))).1
    · rw [(N1 _ (.tail _ (.tail _ (.tail _ (.tail _ md))))).1] at e; cases e; exact (NN _ (.tail _ (.tail _ (.tail _ (.tail _ (.tail _ (.head _))))))).1
    · rw [(N1 _ (.tail _ (.tail _ (.tail _ (.tail _ mn))))).1] at e; cases e; exact (NN _ (.tail _ (.tail _ (.tail _ (.tail _ (.tail _ (.tail _ (.head _)))))))).1
  · have hg2 : h₂.IsGen G g := ⟨_, _, _, (N₂ _ (.tail _ (.tail _ (.head _)))).1, rfl, rfl, rfl⟩
    refine next0 (S := S) (d1 := d1) (nn := nn) (T := .ref T) (C := C) (sz := RI) hh ?_ hroom hg2 hgs' (hr0 _ ?_) fun h' tk gens₃ hbg k1 => ?_
    · exact hlim.keeps F₂.keep
    · intro p hp
      rcases List.mem_cons.mp hp with rfl | hp; · exact N₂ _ (.head _)
      rcases List.mem_cons.mp hp with rfl | hp; · exact N₂ _ (.tail _ (.head _))
      rcases List.mem_cons.mp hp with rfl | hp; · exact N₂ _ (.tail _ (.tail _ (.head _)))
      rcases List.mem_cons.mp hp with rfl | hp; · exact N₂ _ (.tail _ (.tail _ (.tail _ (.head _))))
      exact N₂ _ (.tail _ (.tail _ (.tail _ (.tail _ (hkeep p hp)))))
    · have aL := N₂ _ (.head _)
      have aR := N₂ _ (.tail _ (.head _))
      have aC := N₂ _ (.tail _ (.tail _ (.tail _ (.head _))))
      have ne : ∀ b, h₀.get? b ≠ none ∨ b = env.locals ∨ (b : Nat) < C → b ≠ C ∧ b ≠ RI ∧ b ≠ RI + 1 := by
        rintro b (hb | rfl | hb)
        · exact ⟨fun q => hb (q ▸ aC.2.2), fun q => hb (q ▸ aR.2.2), fun q => hb (q ▸ aL.2.2)⟩
        · exact ⟨Ne.symm aC.2.1, Ne.symm aR.2.1, Ne.symm aL.2.1⟩
        · have h1 : (b : Nat) < RI := Nat.lt_trans hb (Nat.lt_trans hCG hGR)
          exact ⟨Nat.ne_of_lt hb, Nat.ne_of_lt h1, Nat.ne_of_lt (Nat.lt_succ_of_lt h1)⟩
      have k2 : ∀ b o, h₀.get? b ≠ none ∨ b = env.locals ∨ (b : Nat) < C → h₂.get? b = some o → h'.get? b = some o := fun b o hb e => k1 b o (ne b hb).1 (ne b hb).2.1 (ne b hb).2.2 e
      refine wpAny_pure (fin h' tk gens₃ hbg ⟨F₂.ns.at' fun o e => k2 _ o (.inr (.inl rfl)) e, fun b o e => k2 b o (.inl (by rw [e]; simp)) (F₂.keep b o e), F₂.above⟩ fun p hp => ⟨k2 _ _ (.inr (.inr (hlt p hp))) (N₂ p (.tail _ (.tail _ (.tail _ (.tail _ hp))))).1, (N₂ p (.tail _ (.tail _ (.tail _ (.tail _ hp))))).2⟩)
end
end Mine
end

section
open PySem PySem.W PyProof.Rows PySem.Calls PySem.Spec
namespace Mine
def treeRun {α : Type} (lt : Nat → Nat → Bool) : KasT α → α
  | .ret a => a
  | .ask i j k => treeRun lt (k (lt i j))
def treeOk {α : Type} (n : Nat) : KasT α → Bool
  | .ret _ => true
  | .ask i j k => decide (i < n) && decide (j < n) && treeOk n (k true) && treeOk n (k false)
theorem tree_wp {α : Type} {n : Nat} {lt : Nat → Nat → Bool} {cmp : Nat → Nat → (Bool → Shared → Prop) → Shared → Prop} {Q : α → Shared → Prop} {s : Shared}
    (hc : ∀ i j C, i < n → j < n → C (lt i j) s → cmp i j C s) : ∀ t : KasT α, treeOk n t = true → Q (treeRun lt t) s → t.kasWp cmp Q s
  | .ret a, _, h => h
  | .ask i j k, ho, h => by
    simp only [treeOk, Bool.and_eq_true, decide_eq_true_eq] at ho
    obtain ⟨⟨⟨hi, hj⟩, h1⟩, h2⟩ := ho
    refine hc i j _ hi hj ?_
    refine tree_wp hc (k (lt i j)) ?_ h
    cases lt i j
    · exact h2
    · exact h1
theorem tree_congr {α : Type} {n : Nat} {lt lt' : Nat → Nat → Bool} (hc : ∀ i j, i < n → j < n → lt i j = lt' i j) : ∀ t : KasT α, treeOk n t = true → treeRun lt t = treeRun lt' t
  | .ret a, _ => rfl
  | .ask i j k, ho => by
    simp only [treeOk, Bool.and_eq_true, decide_eq_true_eq] at ho
    obtain ⟨⟨⟨hi, hj⟩, h1⟩, h2⟩ := ho
    show treeRun lt (k (lt i j)) = treeRun lt' (k (lt' i j))
    rw [hc i j hi hj]
    refine tree_congr hc (k (lt' i j)) ?_
    cases lt' i j
    · exact h2
    · exact h1
theorem ok2 : treeOk 2 (kas_sort 2) = true := by decide +kernel
theorem ok3 : treeOk 3 (kas_sort 3) = true := by decide +kernel
theorem ok4 : treeOk 4 (kas_sort 4) = true := by decide +kernel
theorem ok5 : treeOk 5 (kas_sort 5) = true := by decide +kernel
/-- the answers of a strict order on `0 .. n-1`, as a table -/
def tab (bs : List Bool) (n i j : Nat) : Bool := if i < j then bs.getD (i * n + j) false else if j < i then !(bs.getD (j * n + i) false) else false
def trans3 (n : Nat) (f : Nat → Nat → Bool) : Bool := (List.range n).all fun i => (List.range n).all fun j => (List.range n).all fun k => !(f i j && f j k) || f i k
def goodRun (n : Nat) (f : Nat → Nat → Bool) : Bool :=
  let p := (treeRun f (kas_sort n)).toList
  p.isPerm (List.range n) && decide (p.Pairwise fun i j => f i j = true)
theorem good2 : ∀ a : Bool, goodRun 2 (tab [false, a] 2) = true := by decide +kernel
theorem good3 : ∀ a b c : Bool, trans3 3 (tab [false, a, b, false, false, c] 3) = true → goodRun 3 (tab [false, a, b, false, false, c] 3) = true := by decide +kernel
theorem good4 : ∀ a b c d e f : Bool, trans3 4 (tab [false, a, b, c, false, false, d, e, false, false, false, f] 4) = true → goodRun 4 (tab [false, a, b, c, false, false, d, e, false, false, false, f] 4) = true := by decide +kernel
theorem good_of {n : Nat} {f lt : Nat → Nat → Bool} (hc : ∀ i j, i < n → j < n → lt i j = f i j) (hok : treeOk n (kas_sort n) = true) (hg : goodRun n f = true) :
    (treeRun lt (kas_sort n)).toList.Perm (List.range n) ∧ (treeRun lt (kas_sort n)).toList.Pairwise fun i j => lt i j = true := by
  rw [tree_congr hc _ hok]
  unfold goodRun at hg
  rw [Bool.and_eq_true] at hg
  have hp := List.isPerm_iff.mp hg.1
  refine ⟨hp, List.Pairwise.imp_of_mem (fun {i j} hi hj h => ?_) (of_decide_eq_true hg.2)⟩
  rw [hc i j (List.mem_range.mp (hp.mem_iff.mp hi)) (List.mem_range.mp (hp.mem_iff.mp hj))]; exact h
theorem trans_of {n : Nat} {f lt : Nat → Nat → Bool} (hc : ∀ i j, i < n → j < n → lt i j = f i j) (ht : ∀ i j k, i < n → j < n → k < n → lt i j = true → lt j k = true → lt i k = true) : trans3 n f = true := by
  simp only [trans3, List.all_eq_true, List.mem_range]
  intro i hi j hj k hk
  have := ht i j k hi hj hk
  rw [← hc i j hi hj, ← hc j k hj hk, ← hc i k hi hk]
  cases h1 : lt i j <;> cases h2 : lt j k <;> simp_all
structure Strict (n : Nat) (lt : Nat → Nat → Bool) : Prop where
  irr : ∀ i, i < n → lt i i = false
  tot : ∀ i j, i < n → j < n → i ≠ j → lt j i = !lt i j
  tr : ∀ i j k, i < n → j < n → k < n → lt i j = true → lt j k = true → lt i k = true
theorem sort_good {n : Nat} {lt : Nat → Nat → Bool} (h2 : 2 ≤ n) (h4 : n ≤ 4) (S : Strict n lt) :
    (treeRun lt (kas_sort n)).toList.Perm (List.range n) ∧ (treeRun lt (kas_sort n)).toList.Pairwise fun i j => lt i j = true := by
  have hn : n = 2 ∨ n = 3 ∨ n = 4 := by omega
  rcases hn with rfl | rfl | rfl
  · have hc : ∀ i j, i < 2 → j < 2 → lt i j = tab [false, lt 0 1] 2 i j := by
      intro i j hi hj
      have hi' : i = 0 ∨ i = 1 := by omega
      have hj' : j = 0 ∨ j = 1 := by omega
      rcases hi' with rfl | rfl <;> rcases hj' with rfl | rfl <;> simp [tab, S.irr, S.tot 0 1 (by decide) (by decide) (by decide)]
    exact good_of hc ok2 (good2 _)
  · have hc : ∀ i j, i < 3 → j < 3 → lt i j = tab [false, lt 0 1, lt 0 2, false, false, lt 1 2] 3 i j := by
      intro i j hi hj
      have hi' : i = 0 ∨ i = 1 ∨ i = 2 := by omega
      have hj' : j = 0 ∨ j = 1 ∨ j = 2 := by omega
      rcases hi' with rfl | rfl | rfl <;> rcases hj' with rfl | rfl | rfl <;> simp [tab, S.irr, S.tot 0 1 (by decide) (by decide) (by decide), S.tot 0 2 (by decide) (by decide) (by decide), S.tot 1 2 (by decide) (by decide) (by decide)]
    exact good_of hc ok3 (good3 _ _ _ (trans_of hc S.tr))
  · have hc : ∀ i j, i < 4 → j < 4 → lt i j = tab [false, lt 0 1, lt 0 2, lt 0 3, false, false, lt 1 2, lt 1 3, false, false, false, lt 2 3] 4 i j := by
      intro i j hi hj
      have hi' : i = 0 ∨ i = 1 ∨ i = 2 ∨ i = 3 := by omega
      have hj' : j = 0 ∨ j = 1 ∨ j = 2 ∨ j = 3 := by omega
      rcases hi' with rfl | rfl | rfl | rfl <;> rcases hj' with rfl | rfl | rfl | rfl <;> simp [tab, S.irr, S.tot 0 1 (by decide) (by decide) (by decide), S.tot 0 2 (by decide) (by decide) (by decide), S.tot 0 3 (by decide) (by decide) (by decide), S.tot 1 2 (by decide) (by decide) (by decide), S.tot 1 3 (by decide) (by decide) (by decide), S.tot 2 3 (by decide) (by decide) (by decide)]
    exact good_of hc ok4 (good4 _ _ _ _ _ _ (trans_of hc S.tr))
end Mine
end

section
open PySem PySem.W PyProof.Rows PySem.Calls PySem.Spec
namespace Mine
def RowsL (news : List (Addr × Obj)) : List Value → List (Str × Str) → Prop
  | [], [] => True
  | v :: vs, r :: rs => (∃ (a : Addr) (ta tb : Tok), v = .ref a ∧ (a, tupO [.str r.1 ta, .str r.2 tb]) ∈ news) ∧ RowsL news vs rs
  | _, _ => False
theorem rowsL_of {news : List (Addr × Obj)} : ∀ {vs : List Value} {rows : List (Str × Str)}, vs.length = rows.length → (∀ (i : Nat) (v : Value), vs[i]? = some v → ∃ (a : Addr) (r : Str × Str) (ta tb : Tok), rows[i]? = some r ∧ v = .ref a ∧ (a, tupO [.str r.1 ta, .str r.2 tb]) ∈ news) → RowsL news vs rows
  | [], [], _, _ => trivial
  | [], _ :: _, h, _ => nomatch h
  | _ :: _, [], h, _ => nomatch h
  | v :: vs, r :: rs, hl, h => by
    refine ⟨?_, rowsL_of (by simpa using hl) fun i u hu => ?_⟩
    · obtain ⟨a, r', ta, tb, hr, hv, hm⟩ := h 0 v rfl
      cases hr
      exact ⟨a, ta, tb, hv, hm⟩
    · exact h (i + 1) u (by simpa using hu)
theorem rowsL_list {news : List (Addr × Obj)} {its : Array Value} {rows : List (Str × Str)} (h : Rows news its rows) : RowsL news its.toList rows :=
  rowsL_of (by rw [Array.length_toList]; exact h.1) fun i v hv => h.2 i v (by simpa using hv)
theorem rowsL_tups {h₀ h : Heap} {L : Addr} {news : List (Addr × Obj)} (N : News h₀ L h news) : ∀ {vs : List Value} {rows : List (Str × Str)}, RowsL news vs rows → ∃ fs, KatTups h vs fs ∧ fs.length = rows.length ∧ ∀ f ∈ fs, ∃ x t, f = Value.str x t
  | [], [], _ => ⟨[], trivial, rfl, fun f hf => nomatch hf⟩
  | [], _ :: _, h => h.elim
  | _ :: _, [], h => h.elim
  | v :: vs, r :: rs, ⟨⟨a, ta, tb, hv, hm⟩, hr⟩ => by
    obtain ⟨fs, ht, hl, hf⟩ := rowsL_tups N hr
    subst hv
    refine ⟨.str r.1 ta :: fs, KatTups.cons (N _ hm).1 rfl rfl rfl ht, by simp [hl], fun f hm' => ?_⟩
    rcases List.mem_cons.mp hm' with rfl | hm'
    · exact ⟨_, _, rfl⟩
    · exact hf f hm'
def ltW (a b : Str) : Bool := decide (a.cps.toList < b.cps.toList)
theorem ltW_irr (a : Str) : ltW a a = false := by unfold ltW; exact decide_eq_false (List.lt_irrefl _)
theorem str_ext {a b : Str} (h : a.cps.toList = b.cps.toList) : a = b := by
  cases a; cases b; simp at h; simp [h]
theorem ltW_tot {a b : Str} (h : a ≠ b) : ltW b a = !ltW a b := by
  unfold ltW
  by_cases h1 : a.cps.toList < b.cps.toList
  · rw [decide_eq_true h1, decide_eq_false (List.lt_asymm h1)]; rfl
  · rw [decide_eq_false h1]
    by_cases h2 : b.cps.toList < a.cps.toList
    · rw [decide_eq_true h2]; rfl
    · exact absurd (str_ext (List.le_antisymm (List.not_lt.mp h2) (List.not_lt.mp h1))) h
theorem ltW_tr {a b c : Str} (h1 : ltW a b = true) (h2 : ltW b c = true) : ltW a c = true := by
  unfold ltW at *
  exact decide_eq_true (List.lt_trans (of_decide_eq_true h1) (of_decide_eq_true h2))
theorem pw_getD {rows : List (Str × Str)} (h : rows.Pairwise fun a b => a.1 ≠ b.1) {i j : Nat} (hi : i < rows.length) (hj : j < rows.length) (hij : i ≠ j) (d : Str × Str) : (rows.getD i d).1 ≠ (rows.getD j d).1 := by
  have key : ∀ {i j : Nat}, i < j → (hj : j < rows.length) → (rows.getD i d).1 ≠ (rows.getD j d).1 := by
    intro i j hij hj
    have hi : i < rows.length := by omega
    simp only [List.getD_eq_getElem?_getD, List.getElem?_eq_getElem hi, List.getElem?_eq_getElem hj, Option.getD_some]
    exact List.pairwise_iff_getElem.mp h i j hi hj hij
  rcases Nat.lt_or_gt_of_ne hij with h1 | h1
  · exact key h1 hj
  · exact (key h1 hi).symm
theorem strict_rows {rows : List (Str × Str)} (h : rows.Pairwise fun a b => a.1 ≠ b.1) (d : Str × Str) : Strict rows.length fun i j => ltW (rows.getD i d).1 (rows.getD j d).1 :=
  ⟨fun i _ => ltW_irr _, fun i j hi hj hij => ltW_tot (pw_getD h hi hj hij d), fun i j k _ _ _ h1 h2 => ltW_tr h1 h2⟩
end Mine
end

section
open PySem PySem.W PyProof.Rows PySem.Calls PySem.Spec
namespace Mine
section
variable {prog : Program} {w : World} {A : Around} {E : Value → Shared → Prop} {s : Shared} {h₀ : Heap} {L : Addr} {m : Str → Option Value} {news : List (Addr × Obj)}
theorem rows_lt {h : Heap} {vs : List Value} {rows : List (Str × Str)} {i j : Nat} {C : Bool → Shared → Prop} (N : News h₀ L s.heap news) (hR : Rows news vs.toArray rows) (d : Str × Str) (hi : i < rows.length) (hj : j < rows.length) (hne : i ≠ j → (rows.getD i d).1 ≠ (rows.getD j d).1)
    (h : C (ltW (rows.getD i d).1 (rows.getD j d).1) s) : kas_ask prog w A (tuples' true) vs i j C s := by
  have hl : vs.length = rows.length := by simpa using hR.1
  unfold kas_ask
  have gi : vs.toArray[i]? = some (vs.getD i Value.none) := by simp [List.getD_eq_getElem?_getD, List.getElem?_eq_getElem (show i < vs.length by omega)]
  have gj : vs.toArray[j]? = some (vs.getD j Value.none) := by simp [List.getD_eq_getElem?_getD, List.getElem?_eq_getElem (show j < vs.length by omega)]
  obtain ⟨a, r, ta, tb, hr, hv, hm⟩ := hR.2 i _ gi
  obtain ⟨b, q, tc, td, hq, hw, hn⟩ := hR.2 j _ gj
  have er : rows.getD i d = r := by rw [List.getD_eq_getElem?_getD, hr]; rfl
  have eq : rows.getD j d = q := by rw [List.getD_eq_getElem?_getD, hq]; rfl
  rw [er, eq] at h hne
  rw [hv, hw]
  refine kat_lt (N _ hm).1 rfl (N _ hn).1 rfl ?_
  refine kat_cons (wpAny_eqBool_str ?_)
  by_cases hij : i = j
  · subst hij
    rw [hr] at hq; cases hq
    rw [decide_eq_true rfl]
    refine kat_yes (kat_cons (wpAny_eqBool_str ?_))
    rw [decide_eq_true rfl]
    refine kat_yes (kat_nil ?_)
    rw [ltW_irr] at h
    exact h
  · rw [decide_eq_false (hne hij)]
    exact kat_no (oneLt_str h)
theorem map_rows {vs : List Value} {rows : List (Str × Str)} (hR : Rows news vs.toArray rows) (d : Str × Str) {p : List Nat} (hp : ∀ i ∈ p, i < rows.length) : Rows news (p.map fun i => vs.getD i Value.none).toArray (p.map fun i => rows.getD i d) := by
  have hl : vs.length = rows.length := by simpa using hR.1
  refine ⟨by simp, fun k v hv => ?_⟩
  simp only [List.getElem?_toArray, List.getElem?_map, Option.map_eq_some_iff] at hv
  obtain ⟨i, hi, rfl⟩ := hv
  have hlt := hp i (List.mem_of_getElem? hi)
  have gi : vs.toArray[i]? = some (vs.getD i Value.none) := by simp [List.getD_eq_getElem?_getD, List.getElem?_eq_getElem (show i < vs.length by omega)]
  obtain ⟨a, r, ta, tb, hr, hv, hm⟩ := hR.2 i _ gi
  refine ⟨a, r, ta, tb, ?_, hv, hm⟩
  rw [List.getElem?_map, hi, Option.map_some, List.getD_eq_getElem?_getD, hr]; rfl
theorem perm_getD (d : Str × Str) : ∀ l : List (Str × Str), (List.range l.length).map (fun i => l.getD i d) = l := by
  intro l
  apply List.ext_getElem (by simp)
  intro i h1 h2
  simp [List.getD_eq_getElem?_getD, List.getElem?_eq_getElem h2]
theorem sorted_rows2 {l : Addr} {vs : List Value} {rows : List (Str × Str)} {Q : Value → Shared → Prop} (F : Fr h₀ L s.heap m) (N : News h₀ L s.heap news) (hl : s.heap.IsList l vs.toArray) (hR : Rows news vs.toArray rows) (h2 : 2 ≤ rows.length) (h4 : rows.length ≤ 4) (hne : rows.Pairwise fun a b => a.1 ≠ b.1)
    (h : ∀ D out c h' rows', Fr h₀ L h' m → News h₀ L h' ((D, listOf out c) :: news) → (∀ q ∈ news, q.1 < D) → Rows news out rows' → rows'.Perm rows → rows'.Pairwise (fun a b => ltW a.1 b.1 = true) → Q (.ref D) { s with heap := h' }) :
    wpAny (model prog w) A (call (.builtin "sorted") [.ref l]) Q E s := by
  have hlen : vs.length = rows.length := by simpa using hR.1
  obtain ⟨d, -⟩ : ∃ d : Str × Str, True := ⟨(Str.empty, Str.empty), trivial⟩
  refine kat_sorted F N hl (by omega) (by omega) fun D e1 h' F' N' hlt => ?_
  have Nn : News h₀ L h' news := fun p hp => N' p (.tail _ hp)
  have hRL := rowsL_list hR
  rw [List.toList_toArray] at hRL
  obtain ⟨fs, ht, hfl, hfs⟩ := rowsL_tups Nn hRL
  refine kat_kind (fs := fs) (T := .type "str") ht (by omega) (fun v hv => ?_) (by rfl) ?_
  · obtain ⟨x, t, rfl⟩ := hfs v hv
    exact .now
  rw [show (Value.type "str" != Value.type "tuple") = true from by decide, hlen]
  obtain ⟨hp, hpw⟩ := sort_good h2 h4 (strict_rows hne d)
  have hok : treeOk rows.length (kas_sort rows.length) = true := by
    have hn : rows.length = 2 ∨ rows.length = 3 ∨ rows.length = 4 := by omega
    rcases hn with e | e | e <;> rw [e]
    · exact ok2
    · exact ok3
    · exact ok4
  refine tree_wp (n := rows.length) (lt := fun i j => ltW (rows.getD i d).1 (rows.getD j d).1) (fun i j C hi hj hC => rows_lt (h := h') Nn hR d hi hj (fun hij => pw_getD hne hi hj hij d) hC) _ hok ?_
  generalize (treeRun (fun i j => ltW (rows.getD i d).1 (rows.getD j d).1) (kas_sort rows.length)).toList = p at hp hpw
  refine KasFin.intro F' N' (UpdF.head fun q hq => Nat.ne_of_lt (hlt q hq)) fun h'' c F'' N'' => ?_
  refine h D _ c h'' (p.map fun i => rows.getD i d) F'' N'' hlt (map_rows hR d fun i hi => List.mem_range.mp (hp.mem_iff.mp hi)) ?_ ?_
  · have := hp.map fun i => rows.getD i d
    rw [perm_getD d] at this
    exact this
  · rw [List.pairwise_map]; exact hpw
theorem sort_one {a : Addr} {v : Value} {n : Nat} {P : PySem.Fin → Shared → Prop} (F : Fr h₀ L s.heap m) (N : News h₀ L s.heap news) (ho : s.heap.get? a = some (seqObj "list" #[v] n)) (haL : a ≠ L) (ha0 : h₀.get? a = none) (hna : ∀ p ∈ news, p.1 ≠ a)
    (h : ∀ h' c, Fr h₀ L h' m → News h₀ L h' ((a, listOf #[v] c) :: news) → P (.done (.ret .none)) { s with heap := h' }) :
    wpAny (model prog w) A (Builtin.«list.sort» ⟨[.ref a], []⟩) P E s := by
  have ha : a < s.heap.objs.size := Heap.lt_size ho
  have s1 := Heap.SameBut.update s.heap a (Obj.mapSeq fun _ => (#[] : Array Value))
  obtain ⟨e1, ho1⟩ : ∃ e1, (s.heap.update a (Obj.mapSeq fun _ => (#[] : Array Value))).get? a = some (seqObj "list" #[] e1) := ⟨_, get?_update_seq ho fun _ => #[]⟩
  have F3 : Fr h₀ L (((s.heap.update a (Obj.mapSeq fun _ => (#[] : Array Value))).push (seqObj "tuple" [v].toArray 0)).push (seqObj "list" #[] 0)) m := ((kas_fr F s1 haL ha0).push _).push _
  have N2 : News h₀ L (((s.heap.update a (Obj.mapSeq fun _ => (#[] : Array Value))).push (seqObj "tuple" [v].toArray 0)).push (seqObj "list" #[] 0)) news :=
    (kas_news N s1 hna).grown fun b x e => Heap.get?_push_of_some _ (Heap.get?_push_of_some _ e)
  have ho6 : (((s.heap.update a (Obj.mapSeq fun _ => (#[] : Array Value))).push (seqObj "tuple" [v].toArray 0)).push (seqObj "list" #[] 0)).get? a = some (seqObj "list" #[] e1) := Heap.get?_push_of_some _ (Heap.get?_push_of_some _ ho1)
  have N3 : News h₀ L (((s.heap.update a (Obj.mapSeq fun _ => (#[] : Array Value))).push (seqObj "tuple" [v].toArray 0)).push (seqObj "list" #[] 0)) ((a, seqObj "list" #[] e1) :: news) := fun p hp => by
    rcases List.mem_cons.mp hp with rfl | hp
    · exact ⟨ho6, haL, ha0⟩
    · exact N2 p hp
  rw [list_sort_plain]
  refine wpAny_bind (listItems_at ho rfl ?_)
  refine wpAny_bind (listUpdate_at ho rfl ?_ (by rw [sizeLine_eq]; simp) (Nat.zero_le _))
  refine wpAny_bind (seqEpoch_at ho1 rfl ?_)
  refine wpAny_bind (wpAny_newTuple ?_ (by show 1 ≤ _; rw [sizeLine_eq]; omega))
  refine wpAny_bind (wpAny_newList ?_ (Nat.zero_le _))
  refine wpAny_holding ?_
  show wpAny (model prog w) A _ P E { s with heap := ((s.heap.update a (Obj.mapSeq fun _ => (#[] : Array Value))).push (seqObj "tuple" [v].toArray 0)).push (seqObj "list" #[] 0) }
  dsimp only
  have h2 : (#[v] : Array Value).size < 2 := by simp
  rw [if_pos h2, if_pos h2]
  refine wpAny_bind (wpAny_pure ?_)
  rw [StateT.run_pure]
  refine wpAny_bind (wpAny_pure ?_)
  dsimp only
  refine wpAny_bind (seqEpoch_at ho6 rfl ?_)
  have he : (arrOf (SortSt.mk' general' ((#[v] : Array Value).zip #[v]) #[] 7 none)).map (·.2) = #[v] := by show (((#[v] : Array Value).zip #[v]).map (·.2)) = #[v]; simp
  rw [he]
  refine wpAny_bind (listUpdate_at ho6 rfl ?_ (Nat.zero_le _) (by rw [sizeLine_eq]; show 1 ≤ _; omega))
  simp only [bne_self_eq_false, Bool.false_eq_true, if_false]
  obtain ⟨c2, hc2⟩ : ∃ c2, ((((s.heap.update a (Obj.mapSeq fun _ => (#[] : Array Value))).push (seqObj "tuple" [v].toArray 0)).push (seqObj "list" #[] 0)).update a (Obj.mapSeq fun _ => (#[v] : Array Value))).get? a = some (seqObj "list" #[v] c2) := ⟨_, get?_update_seq ho6 fun _ => #[v]⟩
  refine wpAny_pure (h _ c2 (kas_fr F3 (Heap.SameBut.update _ a (Obj.mapSeq fun _ => (#[v] : Array Value))) haL ha0) ?_)
  have nn := news_set (pre := []) N3 (by simp) hna (Heap.SameBut.update _ a (Obj.mapSeq fun _ => (#[v] : Array Value))) hc2
  exact nn
theorem sorted_one {l : Addr} {v : Value} {Q : Value → Shared → Prop} (F : Fr h₀ L s.heap m) (N : News h₀ L s.heap news) (hl : s.heap.IsList l [v].toArray)
    (h : ∀ D c h', Fr h₀ L h' m → News h₀ L h' ((D, listOf #[v] c) :: news) → (∀ q ∈ news, q.1 < D) → Q (.ref D) { s with heap := h' }) :
    wpAny (model prog w) A (call (.builtin "sorted") [.ref l]) Q E s := by
  refine Calls.call_function_entry kind_sorted plain_sorted entry_sorted (args_sorted1 _) ?_
  unfold Builtin.«sorted»
  refine wpAny_bind (m := checkCount "sorted" 1 1 _) (wpAny_pure ?_)
  refine wpAny_bind (collect_list hl ?_ (by rw [sizeLine_eq]; simp))
  refine wpAny_bind (wpAny_newList ?_ (by rw [sizeLine_eq]; simp))
  have hsz : ((s.heap.push (seqObj "list" #[] 0)).update s.heap.objs.size (Obj.mapSeq (· ++ [v].toArray))).objs.size = s.heap.objs.size + 1 := by
    rw [Heap.size_update, size_push']
  have hoL : (((s.heap.push (seqObj "list" #[] 0)).update s.heap.objs.size (Obj.mapSeq (· ++ [v].toArray))).push (seqObj "list" [v].toArray 0)).get? (s.heap.objs.size + 1) = some (seqObj "list" [v].toArray 0) := by
    rw [← hsz]; exact Heap.get?_push_size _ rfl
  have keep : ∀ b o, s.heap.get? b = some o → (((s.heap.push (seqObj "list" #[] 0)).update s.heap.objs.size (Obj.mapSeq (· ++ [v].toArray))).push (seqObj "list" [v].toArray 0)).get? b = some o := fun b o q => by
    have hlt : b < s.heap.objs.size := Heap.lt_size q
    rw [Heap.get?_push_ne _ _ _ (by rw [hsz]; exact Nat.ne_of_lt (Nat.lt_succ_of_lt hlt)), Heap.get?_update_ne _ _ _ _ (Nat.ne_of_lt hlt), Heap.get?_push_ne _ _ _ (Nat.ne_of_lt hlt)]
    exact q
  have hL : L < s.heap.objs.size := F.ns.lt
  show wpAny _ _ _ _ _ { s with heap := ((s.heap.push (seqObj "list" #[] 0)).update s.heap.objs.size (Obj.mapSeq (· ++ [v].toArray))).push (seqObj "list" [v].toArray 0) }
  rw [hsz]
  refine wpAny_bind (wpAny_holding (wpAny_call_entry slot_list_sort ⟨_, hoL, rfl⟩ entry_list_sort ?body (args_list_sort _)))
  case body =>
    refine sort_one (s := { s with heap := ((s.heap.push (seqObj "list" #[] 0)).update s.heap.objs.size (Obj.mapSeq (· ++ [v].toArray))).push (seqObj "list" [v].toArray 0) })
      (F.kept keep) (N.grown keep) hoL (Nat.ne_of_gt (Nat.lt_succ_of_lt hL)) (Heap.get?_none_of_le (Nat.le_trans F.above (Nat.le_succ_of_le (Nat.le_of_lt hL))))
      (fun p hp => Nat.ne_of_lt (Nat.lt_succ_of_lt (Heap.lt_size (N p hp).1))) fun h' c F' N' => ?_
    exact ⟨_, rfl, wpAny_pure ⟨_, rfl, h _ c h' F' N' fun q hq => Nat.lt_succ_of_lt (Heap.lt_size (N q hq).1)⟩⟩
theorem sorted_rows {l : Addr} {vs : List Value} {rows : List (Str × Str)} {Q : Value → Shared → Prop} (F : Fr h₀ L s.heap m) (N : News h₀ L s.heap news) (hl : s.heap.IsList l vs.toArray) (hR : Rows news vs.toArray rows) (h1 : 1 ≤ rows.length) (h4 : rows.length ≤ 4) (hne : rows.Pairwise fun a b => a.1 ≠ b.1)
    (h : ∀ D out c h' rows', Fr h₀ L h' m → News h₀ L h' ((D, listOf out c) :: news) → (∀ q ∈ news, q.1 < D) → Rows news out rows' → rows'.Perm rows → rows'.Pairwise (fun a b => ltW a.1 b.1 = true) → Q (.ref D) { s with heap := h' }) :
    wpAny (model prog w) A (call (.builtin "sorted") [.ref l]) Q E s := by
  by_cases h2 : 2 ≤ rows.length
  · exact sorted_rows2 F N hl hR h2 h4 hne h
  · have hlen : vs.length = rows.length := by simpa using hR.1
    obtain ⟨v, rfl⟩ : ∃ v, vs = [v] := by
      match vs, hlen with
      | [], e => simp at e; omega
      | [v], _ => exact ⟨v, rfl⟩
      | _ :: _ :: _, e => simp at e; omega
    obtain ⟨r, rfl⟩ : ∃ r, rows = [r] := by
      match rows, hlen with
      | [], e => simp at e
      | [r], _ => exact ⟨r, rfl⟩
      | _ :: _ :: _, e => simp at e
    exact sorted_one F N hl fun D c h' F' N' lt => h D _ c h' [r] F' N' lt hR (List.Perm.refl _) (List.pairwise_singleton _ _)
end
end Mine
end

section
open PySem PySem.W PyProof.Rows PySem.Calls PySem.Spec
namespace Mine
section
variable {prog : Program} {w : World} {A : Around} {E : Value → Shared → Prop} {h₀ : Heap} {L : Addr} {m : Str → Option Value} {env : Env} {elt : Expr} {x x₂ : Str} {scope : Scope} {cl : List (Str × Addr)} {s : Shared} {S : List (Addr × Obj) → Prop} {P : Nat → Value → Prop} {Fin : List Value → List (Addr × Obj) → Prop} {news : List (Addr × Obj)}
theorem compP_each {n : Nat} (Inv : Nat → List Value → List (Addr × Obj) → Prop) (h0 : Inv 0 [] news)
    (turn : ∀ i ys nw v, i < n → Inv i ys nw → P i v → ∃ (t : Addr) (ot : Obj) (v₁ v₂ : Value) (nt : Nat), v = .ref t ∧ (t, ot) ∈ nw ∧ ot.cls = .type "tuple" ∧ ot.data = .seq #[v₁, v₂] nt ∧
      ∀ I oI C oC D m₂ h tk (E' : Value → Shared → Prop) (R : Value → List (Addr × Obj) → Prop), LCg.NsObj oC m₂ → m₂ x = some v₁ → m₂ x₂ = some v₂ → Fr h₀ L h m → News h₀ L h ((I, oI) :: (C, oC) :: (D, LCg.lst ys) :: nw) → LCg.Off3 I C D nw → ((@Ne Nat I C) ∧ (@Ne Nat I D) ∧ (@Ne Nat C D)) →
      (∀ y nw', Inv (i + 1) (ys ++ [y]) nw' → R y nw') →
      wpAny (model prog w) A (eval elt (compEnvC scope cl C env)) (LCg.CompEnd h₀ L m { s with heap := h, toks := tk } I oI C oC D (LCg.lst ys) S R) E' { s with heap := h, toks := tk })
    (fin : ∀ ys nw, Inv n ys nw → Fin ys nw) : LCp.CompRestP prog w A h₀ L m env elt x x₂ scope cl s S P Fin n 0 [] news := by
  have key : ∀ (j i : Nat) (ys : List Value) (nw : List (Addr × Obj)), i + j = n → Inv i ys nw → LCp.CompRestP prog w A h₀ L m env elt x x₂ scope cl s S P Fin j i ys nw := by
    intro j
    induction j with
    | zero => intro i ys nw hi hI; obtain rfl : i = n := by omega
              exact fin ys nw hI
    | succ j ih =>
      intro i ys nw hi hI v hP
      obtain ⟨t, ot, v₁, v₂, nt, h1, h2, h3, h4, h5⟩ := turn i ys nw v (by omega) hI hP
      exact ⟨t, ot, v₁, v₂, nt, h1, h2, h3, h4, fun I oI C oC D m₂ h tk E' hC hx hx2 F N off ne => h5 I oI C oC D m₂ h tk E' _ hC hx hx2 F N off ne fun y nw' hI' => ih (i + 1) _ _ (by omega) hI'⟩
  exact key n 0 [] news (by omega) h0
theorem item_sv {value slice : PySem.Expr} {l : Addr} {vs : List Value} {ws : List Str} {k : Int} {u : Tok} {Q : Value → Shared → Prop} (hl : s.heap.IsList l vs.toArray) (hst : StrsAre vs ws)
    (h0 : 0 ≤ k) (h1 : k < ws.length) (hz : ws.length < 100) (h : ∀ t, Q (.str (ws.getD k.toNat Str.empty) t) s)
    (hs : subscripted slice false (.ref l) (.int k u) = operate [.ref l, .int k u] (getItem (.ref l) (.int k u)) := by with_unfolding_all rfl) :
    wpAny (model prog w) A (subscriptTail value slice (.ref l) (.int k u)) Q E s := by
  have key : ∀ {vs : List Value} {ws : List Str} {i : Nat}, StrsAre vs ws → i < ws.length → ∃ t, vs[i]? = some (.str (ws.getD i Str.empty) t) := by
    intro vs ws i hst hi
    induction hst generalizing i with
    | nil => simp at hi
    | cons n t h ih =>
      cases i with
      | zero => exact ⟨t, rfl⟩
      | succ i => simpa using ih (by simpa using hi)
  obtain ⟨t, ht⟩ := key hst (show k.toNat < ws.length by omega)
  exact tail_any hl.typeIs slot_list_getitem.lookup (wpAny_getItem_list hl h0 (by omega) (x := .str (ws.getD k.toNat Str.empty) t) (by simpa using ht) (h t)) hs
end
theorem mem_rot {α : Type} {t i c d : α} {nw : List α} : ∀ p ∈ i :: c :: d :: t :: nw, p ∈ t :: i :: c :: d :: nw := by
  intro p hp
  simp only [List.mem_cons] at hp ⊢
  rcases hp with h | h | h | h | h <;> simp [h]
theorem int_at {vs : List Value} {js : List Int} (h : IntsAre vs js) {i : Nat} {v : Value} (hv : vs.toArray[i]? = some v) : ∃ k t, js[i]? = some k ∧ v = .int k t := by
  have hv' : vs[i]? = some v := by simpa using hv
  clear hv
  induction h generalizing i with
  | nil => simp at hv'
  | cons n t h ih =>
    cases i with
    | zero => exact ⟨_, _, rfl, by simpa using hv'.symm⟩
    | succ i => exact ih (by simpa using hv')
theorem rows_snoc {nw : List (Addr × Obj)} {ys : List Value} {rows : List (Str × Str)} {t : Addr} {x y : Str} {ta tb : Tok} (h : Rows nw ys.toArray rows) : Rows ((t, tupO [.str x ta, .str y tb]) :: nw) (ys ++ [Value.ref t]).toArray (rows ++ [(x, y)]) := by
  have hl : ys.length = rows.length := by simpa using h.1
  refine ⟨by simp [hl], fun i v hv => ?_⟩
  have hv' : (ys ++ [Value.ref t])[i]? = some v := by simpa using hv
  by_cases hi : i < ys.length
  · rw [List.getElem?_append_left hi] at hv'
    obtain ⟨a, r, ta, tb, hr, hv2, hm⟩ := h.2 i v (by simpa using hv')
    exact ⟨a, r, ta, tb, by rw [List.getElem?_append_left (by omega)]; exact hr, hv2, .tail _ hm⟩
  · have e : i = ys.length := by
      have := List.getElem?_eq_some_iff.mp hv'
      obtain ⟨hlt, _⟩ := this
      simp at hlt; omega
    subst e
    rw [List.getElem?_concat_length] at hv'
    cases hv'
    exact ⟨t, (x, y), ta, tb, by rw [hl]; exact List.getElem?_concat_length, rfl, .head _⟩
theorem rows_mono {nw nw' : List (Addr × Obj)} {its : Array Value} {rows : List (Str × Str)} (h : Rows nw its rows) (hs : ∀ p ∈ nw, p ∈ nw') : Rows nw' its rows :=
  ⟨h.1, fun i v hv => let ⟨a, r, ta, tb, h1, h2, h3⟩ := h.2 i v hv; ⟨a, r, ta, tb, h1, h2, hs _ h3⟩⟩
end Mine
end

section
open PySem PySem.W PyProof.Rows PySem.Calls PySem.Spec
namespace Mine
theorem glue_fold (sep : Str) : ∀ (r : List Str) (acc : Array Nat), (r.foldl (fun acc p => acc ++ sep.cps ++ p.cps) acc).toList = acc.toList ++ (r.map fun p => sep.cps.toList ++ p.cps.toList).flatten
  | [], acc => by simp
  | p :: r, acc => by
    rw [List.foldl_cons, glue_fold sep r]
    simp [List.append_assoc]
theorem join_toList (sep y : Str) (r : List Str) : (Txt.join sep (y :: r)).cps.toList = y.cps.toList ++ (r.map fun p => sep.cps.toList ++ p.cps.toList).flatten := by
  show ((r.foldl (fun acc p => acc ++ sep.cps ++ p.cps) y.cps)).toList = _
  exact glue_fold sep r y.cps
theorem join_nil (sep : Str) : (Txt.join sep []).cps.toList = [] := by rfl
theorem str_len (x : Str) : x.length = x.cps.toList.length := by show x.cps.size = _; simp
theorem join_len {sep : Str} {ys : List Str} {B : Nat} (h : ∀ y ∈ ys, y.length ≤ B) : (Txt.join sep ys).length ≤ ys.length * (sep.length + B) := by
  cases ys with
  | nil => rw [str_len, join_nil]; simp
  | cons y r =>
    rw [str_len, join_toList, List.length_append, ← str_len]
    have h1 := h y (.head _)
    have : ∀ r : List Str, (∀ y ∈ r, y.length ≤ B) → ((r.map fun p => sep.cps.toList ++ p.cps.toList).flatten).length ≤ r.length * (sep.length + B) := by
      intro r
      induction r with
      | nil => intro _; simp
      | cons p r ih =>
        intro hr
        have a := hr p (.head _)
        have b := ih fun y hy => hr y (.tail _ hy)
        rw [List.map_cons, List.flatten_cons, List.length_append, List.length_append, ← str_len, ← str_len, List.length_cons, Nat.add_mul]
        omega
    have c := this r fun y hy => h y (.tail _ hy)
    rw [List.length_cons, Nat.add_mul]
    omega
theorem app_toList (x y : Str) : (x ++ y).cps.toList = x.cps.toList ++ y.cps.toList := by show (x.cps ++ y.cps).toList = _; simp
end Mine
end

section
open PySem PySem.W PyProof.Rows PySem.Calls PySem.Spec
namespace Mine
theorem bm_slot_get : Slot "method_descriptor" "__get__" "method_descriptor.__get__" :=
  .of (owner := "method_descriptor") (n := "__get__") (by rw [typeLookup_type, builtinLookup_eq_fast]; kernel_rfl) (by decide +kernel) (by decide +kernel) (by decide +kernel)
    (by first | exact .inl (by decide +kernel) | exact .inr (by decide +kernel)) (by rw [isSubtype_type]; kernel_rfl)
theorem bm_at_get : entryFor table "method_descriptor.__get__" = some Builtin.«method_descriptor.__get__» := entryFor_of_tree (by kernel_rfl)
theorem bm_no_set : typeLookup (.type "method_descriptor") "__set__" = pure none := by rw [typeLookup_type, builtinLookup_eq_fast]; kernel_rfl
theorem bm_no_delete : typeLookup (.type "method_descriptor") "__delete__" = pure none := by rw [typeLookup_type, builtinLookup_eq_fast]; kernel_rfl
theorem bm_args (a b c : Value) : argsOk "method_descriptor.__get__" ⟨[a, b, c], []⟩ := by unfold argsOk; kernel_rfl
theorem bm_owner : isSubtype (.type "list") (.type (".".intercalate ("list.append".cutAt '.').dropLast)) = pure true := by
  have e : ".".intercalate ("list.append".cutAt '.').dropLast = "list" := by decide +kernel
  rw [e, isSubtype_type]; kernel_rfl
abbrev bmObj (a : Addr) : Obj := { cls := .type "builtin_function_or_method", data := .fields #[.builtin "list.append", .ref a] }
section
variable {prog : Program} {w : World} {A : Around} {E : Value → Shared → Prop} {h : Heap} {g : Array GenState} {d : Drawn} {t : Nat} {os : OsState} {a : Addr} {its : Array Value} {n : Nat}
theorem bm_get {R : Result → Shared → Prop} (hx : h.get? a = some (listOf its n)) (hq : R (.ok (.ret (.ref h.objs.size))) ⟨h.push (bmObj a), g, d, t, os⟩) :
    codeAny (model prog w) A (.call (.builtin "method_descriptor.__get__") ⟨[.builtin "list.append", .ref a, .type "list"], []⟩) R ⟨h, g, d, t, os⟩ := by
  have hT : (⟨h, g, d, t, os⟩ : Shared).TypeIs (.ref a) "list" := ⟨_, hx, rfl⟩
  have hT5 : (⟨h, g, d, t, os⟩ : Shared).TypeIs (.builtin "list.append") "method_descriptor" := type_list_append
  have f8 := bm_owner
  refine codeAny_call_builtin bm_slot_get.plain bm_at_get (bm_slot_get.check _ _ _ _ _ _ _ _ hT5 (bm_args _ _ _) ?_)
  repeat (any_goals (first | assumption | wp_step))
theorem bm_found {tk : Tok} {Q : PySem.Fin → Shared → Prop} (hx : h.get? a = some (listOf its n)) (hq : Q (.done (.ret (.ref h.objs.size))) ⟨h.push (bmObj a), g, d, t, os⟩) :
    wpAny (model prog w) A (Builtin.«object.__getattribute__» ⟨[.ref a, .str "append" tk], []⟩) Q E ⟨h, g, d, t, os⟩ := by
  have hT : (⟨h, g, d, t, os⟩ : Shared).TypeIs (.ref a) "list" := ⟨_, hx, rfl⟩
  have hT5 : (⟨h, g, d, t, os⟩ : Shared).TypeIs (.builtin "list.append") "method_descriptor" := type_list_append
  have f4 : typeLookup (.type "list") (Str.ofString "append") = pure (some (.builtin "list.append")) := slot_list_append.lookup
  have f5 := type_list_append
  have f6 := bm_slot_get.lookup
  have f7 := bm_no_set
  have f8 := bm_no_delete
  repeat (any_goals (first | assumption | wp_step))
  refine bm_get hx ?_
  repeat (any_goals (first | assumption | wp_step))
theorem bm_attr {ex : Bool} {Q : Value → Shared → Prop} (hx : h.get? a = some (listOf its n)) (hq : Q (.ref h.objs.size) ⟨h.push (bmObj a), g, d, t + 1, os⟩) :
    wpAny (model prog w) A (getAttr (.ref a) "append" ex) Q E ⟨h, g, d, t, os⟩ := by
  have hT : (⟨h, g, d, t, os⟩ : Shared).TypeIs (.ref a) "list" := ⟨_, hx, rfl⟩
  have f2 := F.slot_list_getattribute.lookup
  have f3 := F.slot_list_getattribute.bind (.ref a)
  unfold getAttr
  repeat (any_goals (first | assumption | wp_step))
  rw [if_neg (by cases ex <;> decide)]
  repeat (any_goals (first | assumption | wp_step))
  refine codeAny_call_builtin F.slot_list_getattribute.plain F.entry_list_ga (F.slot_list_getattribute.check _ _ _ _ _ _ _ _ (show (⟨h, g, d, t + 1, os⟩ : Shared).TypeIs (.ref a) "list" from ⟨_, hx, rfl⟩) (F.args_list_getattribute_2 _ _) (bm_found hx ?_))
  dsimp only
  repeat (any_goals (first | assumption | wp_step))
end
section
variable {prog : Program} {w : World} {A : Around} {E : Value → Shared → Prop} {s : Shared} {h₀ : Heap} {L a : Addr} {m : Str → Option Value} {news : List (Addr × Obj)} {its : Array Value} {n : Nat}
theorem bm_attr_K {ex : Bool} {Q : Value → Shared → Prop} (F : Fr h₀ L s.heap m) (N : News h₀ L s.heap news) (hm : (a, listOf its n) ∈ news)
    (h : ∀ B h', Fr h₀ L h' m → News h₀ L h' ((B, bmObj a) :: news) → (∀ p ∈ news, p.1 < B) → Q (.ref B) { s with heap := h', toks := s.toks + 1 }) :
    wpAny (model prog w) A (getAttr (.ref a) "append" ex) Q E s := by
  obtain ⟨hp, g, d, t, os⟩ := s
  exact bm_attr (N _ hm).1 (h _ _ (F.push _) (News.push F N _ rfl) fun p hp => Heap.lt_size (N p hp).1)
end
end Mine
end

section
open PySem PySem.W PyProof.Rows PySem.Calls PySem.Spec
namespace Mine
noncomputable def nsKv : List (Str × Value) := [(.ofString "http://www.w3.org/XML/1998/namespace", .str (.ofString "xml") 674), (.ofString "http://www.w3.org/1999/xhtml", .str (.ofString "html") 676), (.ofString "http://www.w3.org/1999/02/22-rdf-syntax-ns#", .str (.ofString "rdf") 678), (.ofString "http://schemas.xmlsoap.org/wsdl/", .str (.ofString "wsdl") 680), (.ofString "http://www.w3.org/2001/XMLSchema", .str (.ofString "xs") 682), (.ofString "http://www.w3.org/2001/XMLSchema-instance", .str (.ofString "xsi") 684), (.ofString "http://purl.org/dc/elements/1.1/", .str (.ofString "dc") 686)]
section
variable {prog : Program} {w : World}
theorem d216 : (o216 w.params).IsDictOf (strKind prog w) nsKv := by
  refine ⟨_, _, ⟨rfl, rfl, rfl⟩, rfl, ?_, ?_, ?_⟩
  · intro e he
    simp only [List.mem_toArray, List.mem_cons, List.not_mem_nil, or_false] at he
    rcases he with rfl | rfl | rfl | rfl | rfl | rfl | rfl <;> exact ⟨_, strKind_is _ _ _ _, rfl⟩
  · exact .cons (strKind_is _ _ _ _) rfl (.cons (strKind_is _ _ _ _) rfl (.cons (strKind_is _ _ _ _) rfl (.cons (strKind_is _ _ _ _) rfl (.cons (strKind_is _ _ _ _) rfl (.cons (strKind_is _ _ _ _) rfl (.cons (strKind_is _ _ _ _) rfl .nil))))))
  · decide +kernel
variable {A : Around} {E : Value → Shared → Prop} {s : Shared} {h₀ : Heap} {L : Addr} {m : Str → Option Value} {news : List (Addr × Obj)}
theorem ns_method {pl : Sem Bool} {Q : Value × List Value → Shared → Prop} (X : (K w.params).In s.heap) (h : Q (.builtin "dict.items", [.ref 216]) s) : wpAny (model prog w) A (getMethod (.ref 216) "items" pl) Q E s :=
  getMethod_builtin ⟨_, X 216 (o216 w.params) (by kernel_rfl), rfl⟩ PySem.F.plainAttrs_dict PySem.F.slot_dict_items PySem.F.type_dict_items (by rintro a ⟨⟩; exact ⟨_, X 216 (o216 w.params) (by kernel_rfl), rfl⟩) h
theorem ns_view {Q : Value → Shared → Prop} (F : Fr h₀ L s.heap m) (N : News h₀ L s.heap news) (X : (K w.params).In s.heap)
    (h : ∀ (D : Addr) h', Fr h₀ L h' m → News h₀ L h' ((D, { cls := .type "dict_items", data := .fields #[.ref 216] }) :: news) → (∀ q ∈ news, q.1 < D) → Q (.ref D) { s with heap := h' }) :
    wpAny (model prog w) A (call (.builtin "dict.items") [.ref 216]) Q E s :=
  have hD : s.heap.DictOf (strKind prog w) 216 nsKv := Heap.dictOf_iff.mpr ⟨_, X 216 (o216 w.params) (by kernel_rfl), d216⟩
  call_meetsIn PySem.F.slot_dict_items hD.typeIs PySem.F.entry_dict_items (PySem.F.args_dict_items_1 _) (meets_dict_items (strKind prog w) 216 (by decide)) ⟨⟨nsKv, hD⟩, h _ _ (F.push _) (News.push F N _) fun q hq => Heap.lt_size (N q hq).1⟩
theorem ns_list {v : Addr} {Q : Value → Shared → Prop} (hh : A.handled = none) (F : Fr h₀ L s.heap m) (N : News h₀ L s.heap news) (X : (K w.params).In s.heap) (hv : (v, ({ cls := .type "dict_items", data := .fields #[.ref 216] } : Obj)) ∈ news)
    (h : ∀ (D : Addr) acc c h' tk, Fr h₀ L h' m → News h₀ L h' ((D, listOf acc c) :: news) → (∀ q ∈ news, q.1 < D) → Q (.ref D) { s with heap := h', toks := tk }) :
    wpAny (model prog w) A (call (.type "list") [.ref v]) Q E s := by
  obtain ⟨ep, hat⟩ := KdkAt.of (d216 (prog := prog) (w := w))
  refine kdx_call (knd := strKind prog w) (kvs := nsKv) (ep := ep) hh ⟨_, (N _ hv).1, rfl, rfl⟩ (hat.dictAt (X 216 (o216 w.params) (by kernel_rfl))) (by rw [sizeLine_eq]; decide) fun h' tk acc c as hk hS hl hG hacc => ?_
  refine h _ acc c h' tk (F.keeps hk) (fun q hq => ?_) fun q hq => Heap.lt_size (N q hq).1
  rcases List.mem_cons.mp hq with rfl | hq
  · exact ⟨hS, kdx_fresh F (Nat.le_refl _)⟩
  · exact ⟨hk _ _ (N q hq).1, (N q hq).2⟩
end
end Mine
end

section
open PySem PySem.W PyProof.Rows PySem.Calls PySem.Spec
set_option maxHeartbeats 0
namespace Mine
theorem mfact {h₀ h : Heap} {L : Addr} {m : Str → Option Value} (F : Fr h₀ L h m) (x : Str) (v : Value) (e : m x = some v) : m x = some v := e
noncomputable abbrev tgtD (P : Params) (B dt dS nS pm ps : Addr) (k1 k2 k3 k4 k5 k6 k7 k8 k9 k10 k11 k12 k13 k14 k15 k16 k17 t0 : Tok) : Obj := dictOf [⟨PyData.keyHash P (Str.ofString "_write"), .str (Str.ofString "_write") k1, .ref B⟩, ⟨PyData.keyHash P (Str.ofString "_data"), .str (Str.ofString "_data") k2, .ref dt⟩, ⟨PyData.keyHash P (Str.ofString "_with_comments"), .str (Str.ofString "_with_comments") k3, .bool false⟩, ⟨PyData.keyHash P (Str.ofString "_strip_text"), .str (Str.ofString "_strip_text") k4, .bool false⟩, ⟨PyData.keyHash P (Str.ofString "_exclude_attrs"), .str (Str.ofString "_exclude_attrs") k5, .none⟩, ⟨PyData.keyHash P (Str.ofString "_exclude_tags"), .str (Str.ofString "_exclude_tags") k6, .none⟩, ⟨PyData.keyHash P (Str.ofString "_rewrite_prefixes"), .str (Str.ofString "_rewrite_prefixes") k7, .bool false⟩, ⟨PyData.keyHash P (Str.ofString "_qname_aware_tags"), .str (Str.ofString "_qname_aware_tags") k8, .none⟩, ⟨PyData.keyHash P (Str.ofString "_find_qname_aware_attrs"), .str (Str.ofString "_find_qname_aware_attrs") k9, .none⟩, ⟨PyData.keyHash P (Str.ofString "_declared_ns_stack"), .str (Str.ofString "_declared_ns_stack") k10, .ref dS⟩, ⟨PyData.keyHash P (Str.ofString "_ns_stack"), .str (Str.ofString "_ns_stack") k11, .ref nS⟩, ⟨PyData.keyHash P (Str.ofString "_prefix_map"), .str (Str.ofString "_prefix_map") k12, .ref pm⟩, ⟨PyData.keyHash P (Str.ofString "_preserve_space"), .str (Str.ofString "_preserve_space") k13, .ref ps⟩, ⟨PyData.keyHash P (Str.ofString "_pending_start"), .str (Str.ofString "_pending_start") k14, .none⟩, ⟨PyData.keyHash P (Str.ofString "_root_seen"), .str (Str.ofString "_root_seen") k15, .bool false⟩, ⟨PyData.keyHash P (Str.ofString "_root_done"), .str (Str.ofString "_root_done") k16, .bool false⟩, ⟨PyData.keyHash P (Str.ofString "_ignored_depth"), .str (Str.ofString "_ignored_depth") k17, .int 0 t0⟩] 17
noncomputable abbrev nsT (t1 t2 : Tok) : Obj := tupO [.str (Str.ofString "http://www.w3.org/XML/1998/namespace") t1, .str (Str.ofString "xml") t2]
end Mine
end

section
open PySem PySem.W PyProof.Rows PySem.Calls PySem.Spec
set_option maxHeartbeats 0
namespace Mine
theorem qname {w : World} {P : Program} {lo : List Str} {mean : ExcName → Option Value} {mg mb : Str → Option Value} {dp un : Nat} {gd : Option (List Code)} {cn : Str} {cs : Scope} {L a : Addr} {ccd : Value} {cl : List (Str × Addr)} {outer : List Env} {A₀ : Around} {base h₀ : Heap} {m : Str → Option Value} {news : List (Addr × Obj)} {s : Shared} {Q E : Value → Shared → Prop}
  (B : Below A₀ base outer h₀) (F : Fr h₀ L s.heap m) (X : (K w.params).In h₀) (N : News h₀ L s.heap news) (T : Top P lo mean mg mb h₀) (hk : cs.kind = .function) (hd : dp + 20 < recursionLimit) (hu : un + 200 < cLine) {x d dt dS d1 nn T nS pm ps B : Addr} {c1 c2 c3 : Nat} {k1 k2 k3 k4 k5 k6 k7 k8 k9 k10 k11 k12 k13 k14 k15 k16 k17 t0 t1 t2 t : Tok} {n : Str}
  (mx : (x, instObj 322 d) ∈ news) (md : (d, tgtD w.params B dt dS nS pm ps k1 k2 k3 k4 k5 k6 k7 k8 k9 k10 k11 k12 k13 k14 k15 k16 k17 t0) ∈ news) (mS : (dS, listOf #[.ref d1, .ref nn] c1) ∈ news) (m1 : (d1, listOf #[.ref T] c2) ∈ news) (mn : (nn, listOf #[] c3) ∈ news) (mT : (T, nsT t1 t2) ∈ news) (hn : n.length < 1000) (hb : ¬ Txt.slice n none (some 1) = Str.ofString "{")
  (hret : ∀ tp u3 h' tk' gens', Bg s.gens gens' → Fr h₀ L h' m → News h₀ L h' ((tp, tupO [.str n t, .str n t, .str (Str.ofString "") u3]) :: news) → AllLt tp news → Q (.ref tp) { s with heap := h', toks := tk', gens := gens' }) :
  codeAny (model PySem.Challenge.rw_sw0083_01.row.prog w) (ktrTop dp un gd cn cs L a ccd cl outer) (.call (.ref 262) ⟨[.ref x, .str n t], []⟩) (fun r s' => match r with | .ok (.ret v) => Q v s' | .ok _ => False | .error e => E e s') s := by
  k_with_none
  k_with "chain" => first | with_reducible assumption | exact Nat.lt_succ_self _ | (refine Nat.lt_trans ?_ (by with_reducible assumption); k_extra "chain") | ((fail_if_success (show @LT.lt Nat _ _ 295)); refine Nat.lt_succ_of_lt ?_; k_extra "chain")
  k_with "eval Constant int" => refine Mine.const_intN ?_
  k_with "eval Constant str" => refine Mine.const_strN ?_
  k_with "binaryOp Add int int" => refine Mine.add_intN ?_
  k_with "binaryOp Mod int int" => refine Mine.mod_intN (by decide) ?_
  k_with "ktr_room" => (refine Mine.ltOf (by with_reducible assumption) ?_; (try dsimp only [depth_under_make, depth_under_kw, depth_in1, depth_deeper, depth_caller]); repeat (first | with_reducible exact Nat.le_add_right _ _ | with_reducible refine Mine.leK (Eq.refl (_ + _)) ?_))
  k_with "ktr_units" => (refine Mine.ltOf (by with_reducible assumption) ?_; (try dsimp only [units_in1, units_deeper, Around.mark_units, units_caller]); repeat (first | with_reducible exact Nat.le_add_right _ _ | with_reducible refine Mine.leK (Eq.refl (_ + _)) ?_))
  k_with "size_fits" => first | with_reducible assumption | exact Nat.zero_le _ | exact Mine.fitLt (by with_reducible assumption) (by decide) | exact Mine.fitLe (by with_reducible assumption) (by decide) | exact Mine.catF (by k_extra "cat") | exact Mine.catA (by k_extra "cat")
  k_with "cat" => repeat (first | exact Mine.catB1 (by with_reducible assumption) (by decide) | exact Nat.le_trans (by with_reducible assumption) (by decide) | with_reducible refine Mine.catM (Eq.refl (_ + 10000)) ?_ ?_ | ((with_reducible show (Str.ofString _).length ≤ _); decide) | ((with_reducible show Str.empty.length ≤ _); decide))
  k_with "And" => ((first | (with_reducible show PySem.Str.length (_ ++ _) ≤ sizeLine ∧ _) | ((fail_if_success (with_reducible show _ ∧ _)); dsimp only; (with_reducible show PySem.Str.length (_ ++ _) ≤ sizeLine ∧ _))); refine ⟨Mine.catF (by k_extra "cat"), ?_⟩)
  k_with "andlt" => first | with_reducible assumption | exact (by with_reducible assumption : (@LT.lt Nat _ _ _) ∧ _).1 | exact (by with_reducible assumption : (@LT.lt Nat _ _ _) ∧ (@LT.lt Nat _ _ _) ∧ _).2.1 | exact (by with_reducible assumption : (@LT.lt Nat _ _ _) ∧ (@LT.lt Nat _ _ _) ∧ (@LT.lt Nat _ _ _) ∧ _).2.2.1 | exact (by with_reducible assumption : (@LT.lt Nat _ _ _) ∧ (@LT.lt Nat _ _ _) ∧ (@LT.lt Nat _ _ _) ∧ (@LT.lt Nat _ _ _) ∧ _).2.2.2.1 | exact (by with_reducible assumption : (@LT.lt Nat _ _ _) ∧ (@LT.lt Nat _ _ _) ∧ (@LT.lt Nat _ _ _) ∧ (@LT.lt Nat _ _ _) ∧ (@LT.lt Nat _ _ _) ∧ _).2.2.2.2.1 | exact (by with_reducible assumption : (@LT.lt Nat _ _ _) ∧ (@LT.lt Nat _ _ _) ∧ (@LT.lt Nat _ _ _) ∧ (@LT.lt Nat _ _ _) ∧ (@LT.lt Nat _ _ _) ∧ (@LT.lt Nat _ _ _) ∧ _).2.2.2.2.2.1 | exact (by with_reducible assumption : (@LT.lt Nat _ _ _) ∧ (@LT.lt Nat _ _ _) ∧ (@LT.lt Nat _ _ _) ∧ (@LT.lt Nat _ _ _) ∧ (@LT.lt Nat _ _ _) ∧ (@LT.lt Nat _ _ _) ∧ (@LT.lt Nat _ _ _) ∧ _).2.2.2.2.2.2.1 | exact (by with_reducible assumption : (@LT.lt Nat _ _ _) ∧ (@LT.lt Nat _ _ _) ∧ (@LT.lt Nat _ _ _) ∧ (@LT.lt Nat _ _ _) ∧ (@LT.lt Nat _ _ _) ∧ (@LT.lt Nat _ _ _) ∧ (@LT.lt Nat _ _ _) ∧ (@LT.lt Nat _ _ _) ∧ _).2.2.2.2.2.2.2.1 | exact (by with_reducible assumption : (@LT.lt Nat _ _ _) ∧ (@LT.lt Nat _ _ _) ∧ (@LT.lt Nat _ _ _) ∧ (@LT.lt Nat _ _ _) ∧ (@LT.lt Nat _ _ _) ∧ (@LT.lt Nat _ _ _) ∧ (@LT.lt Nat _ _ _) ∧ (@LT.lt Nat _ _ _) ∧ (@LT.lt Nat _ _ _) ∧ _).2.2.2.2.2.2.2.2.1
  k_with "k_ne" => (refine neN ?_; (try dsimp only); first | with_reducible assumption | exact Ne.symm (by with_reducible assumption) | (refine Mine.neGt ?_; k_extra "andlt") | (refine Nat.ne_of_lt ?_; k_extra "andlt") | omega)
  k_with "k_mem" => first | exact List.Mem.head _ | (refine' List.Mem.tail _ ?_; k_mem) | assumption
  k_with "exec For Tuple Call" => (refine Hold.out ?_)
  k_with "subscriptTail Name Slice str ref" => ((refine slice_strN_ns (s := ⟨_, _, _, _, _⟩) (by k_asm) (by k_asm) ?_ (by with_unfolding_all rfl) (by intro _; with_unfolding_all rfl) (by rw [sizeLine_eq]; omega)); intro kw_h' kw_t' kw_k' kw_F' kw_N'; (try dsimp only at kw_F' kw_N'))
  k_with "ite" => (refine ite_neg_ (by first | (simp only [decide_eq_true_eq]; exact (by assumption : ¬ _ = Str.ofString "{")) | (simp only [beq_iff_eq]; exact (by assumption : ¬ _ = Str.ofString "{"))) ?_)
  k_with "call ref" => ((with_reducible show wpAny _ _ (call (Value.ref 247) _ _) _ _ _); refine Hold.out ?_)
  k_with "call builtin:set.add" => ((k_dflt (refine kse_add (s := ⟨_, _, _, _, _⟩) (knd := PySem.strKind _ _) (by k_asm) (by k_asm) (by k_updF) (by assumption) (by decide) (strKind_is _ _ _ _) rfl ?_)); intro kw_h' kw_so' kw_F' kw_N' kw_S'; (try dsimp only at kw_F' kw_N'))
  revert X; k_fill; intro X
  k_dflt (refine' code_def ?k1 ?k2 ?k3 ?k4 ?k5 ?kA ?kF ?kK ?k6 ?k7 ?k8 ?k9 ?kB ?_ ?c2 ?c3 ?c4 ?c5; (case kA => exact rfl); (case kF => exact rfl); (case kK => first | exact rfl | assumption); (case k1 => k_asm); (case k2 => k_asm); (case k3 => k_asm); (case k4 => k_asm); (case k5 => k_asm); (case k6 => k_is); (case k7 => k_is); (case k8 => ktr_room); (case k9 => first | exact BindsTo.of_eq rfl | (refine' kp_binds ?kx ?ke; (case kx => k_in); (case ke => exact fun _ => rfl))); (case c5 => decide); (case kB => exact locs rfl); (case c2 => exact rfl); (case c3 => exact rfl); (case c4 => exact rfl); k_whole)
  intro g' L' h' FG' F' N' B' X' T'
  try dsimp only
  try k_lift B'
  try k_fold
  k_steps
  unfold Hold
  refine for_gen (h₀ := g') (by rfl) (by ktr_room) (by rfl) (by rfl) (by rfl) ?_
  k_steps
  unfold Hold
  refine wpAny_call ?_
  k_dflt (refine' code_gen ?k2 ?k3 ?k4 ?k5 ?k6 ?k7 ?k8 ?k9 ?kB ?_ ?c2 ?c3 ?c4 ?c5; (case k2 => k_asm); (case k3 => k_asm); (case k4 => k_asm); (case k5 => k_asm); (case k6 => k_is); (case k7 => k_is); (case k8 => ktr_room); (case k9 => first | exact BindsTo.of_eq rfl | (refine' kp_binds ?kx ?ke; (case kx => k_in); (case ke => exact fun _ => rfl))); (case c5 => decide); (case kB => exact locs rfl); (case c2 => exact rfl); (case c3 => exact rfl); (case c4 => exact rfl); k_whole)
  intro G C oC t9 u9 h9 tk9 F9 N9 nC9 l9 l1
  have hSC : dS ≠ C := Nat.ne_of_lt (l1 (dS, _) (by k_mem))
  have h1C : d1 ≠ C := Nat.ne_of_lt (l1 (d1, _) (by k_mem))
  have hnC : nn ≠ C := Nat.ne_of_lt (l1 (nn, _) (by k_mem))
  show GenForAt _ _ _ _ _ _ _ _ _ _ _ _
  refine ⟨G, _, C, dS, d1, nn, T, _, _, _, _, _, _, _, oC, _, _, _, _, _, rfl, Array.getElem?_push_size .., ?rd, F9, N9, l1, l9, by k_mem, by k_mem, by k_mem, by k_mem, (by k_asm : Top _ _ _ _ _ g').nolimit, ?turn⟩
  case rd =>
    refine ready_fresh (by rfl) (by rfl) (by rfl) (by rfl) (by rfl) (by decide) (by decide) (by decide) (nC9.ns (N9 (C, oC) (.tail _ (.head _))).1) (by kernel_rfl) (by kernel_rfl) (News.isList N9 (by k_mem)) (News.isList N9 (by k_mem)) (News.isList N9 (by k_mem)) hSC h1C hnC
  case turn =>
    intro h tk gens' RI LI oC' oRI oLI bg1 Fv Nv q1 q2
    have l2 := allLt_of l1
    dsimp only [AllLt] at l2
    replace q1 := ltN q1
    replace q2 := ltN q2
    replace l9 := ltN l9
    k_steps
    refine ⟨rfl, _, _, _, _ :: _ :: news, rfl, by k_asm, by k_asm, ?keep, ?lt, ?fin⟩
    case keep => exact List.forall_mem_cons.mpr ⟨by k_mem, List.forall_mem_cons.mpr ⟨by k_mem, List.forall_mem_cons.mpr ⟨by k_mem, fun p hp => nomatch hp⟩⟩⟩
    case lt => exact List.forall_mem_cons.mpr ⟨l2.1, List.forall_mem_cons.mpr ⟨l2.2.1, fun p hp => l1 p (.tail _ (.tail _ hp))⟩⟩
    case fin =>
      clear Nv Fv N9 F9
      intro h₃ tk₃ gens₃ bg2 Fz Nz
      try dsimp only
      k_steps
      rename News h₀ _ _ _ => Nq
      exact hret _ _ _ _ _ (((Bg.push _ rfl).trans bg1).trans bg2) (by k_asm) (cb_drop Nq (List.forall_mem_cons.mpr ⟨.head _, fun p hp => .tail _ (.tail _ (.tail _ hp))⟩)) (by tbn_find)
end Mine
end

section
open PySem PySem.W PyProof.Rows PySem.Calls PySem.Spec
set_option maxHeartbeats 0
namespace Mine
def EscOf (v p : Str) : Prop := (v = Str.ofString "<" ∧ p = Str.ofString "&lt;") ∨ (v = Str.ofString "&" ∧ p = Str.ofString "&amp;") ∨ (v = Str.ofString "\"" ∧ p = Str.ofString "&quot;") ∨ (v = Str.ofString "\t" ∧ p = Str.ofString "&#x9;")
theorem gen_toks {α : Type} {M : Model} {A : Around} {c : Sem α} {Q : α → Shared → Prop} {E : Value → Shared → Prop} {h : Heap} {g : Array GenState} {d} {t : Tok} {os} (ht : @LT.lt Nat _ 0 t) (hw : ∀ tk : Nat, @LT.lt Nat _ 0 tk → wpAny M A c Q E ⟨h, g, d, tk, os⟩) : wpAny M A c Q E ⟨h, g, d, t, os⟩ := hw t ht
theorem esc_attr {w : World} {P : Program} {lo : List Str} {mean : ExcName → Option Value} {mg mb : Str → Option Value} {dp un : Nat} {gd : Option (List Code)} {cn : Str} {cs : Scope} {L a : Addr} {ccd : Value} {cl : List (Str × Addr)} {outer : List Env} {A₀ : Around} {base h₀ : Heap} {m : Str → Option Value} {news : List (Addr × Obj)} {s : Shared} {Q E : Value → Shared → Prop}
  (B : Below A₀ base outer h₀) (F : Fr h₀ L s.heap m) (X : (K w.params).In h₀) (N : News h₀ L s.heap news) (T : Top P lo mean mg mb h₀) (hk : cs.kind = .function) (hd : dp + 20 < recursionLimit) (hu : un + 200 < cLine) {v p : Str} {t : Tok} (he : EscOf v p)
  (hret : ∀ u h' tk', Fr h₀ L h' m → News h₀ L h' news → Q (.str p u) { s with heap := h', toks := tk' }) :
  wpAny (model PySem.Challenge.rw_sw0083_01.row.prog w) (ktrTop dp un gd cn cs L a ccd cl outer) (call (.ref 340) [.str v t]) Q E s := by
  k_with_none
  k_with "chain" => first | with_reducible assumption | exact Nat.lt_succ_self _ | (refine Nat.lt_trans ?_ (by with_reducible assumption); k_extra "chain") | ((fail_if_success (show @LT.lt Nat _ _ 295)); refine Nat.lt_succ_of_lt ?_; k_extra "chain")
  k_with "eval Constant int" => refine Mine.const_intN ?_
  k_with "eval Constant str" => refine Mine.const_strN ?_
  k_with "binaryOp Add int int" => refine Mine.add_intN ?_
  k_with "binaryOp Mod int int" => refine Mine.mod_intN (by decide) ?_
  k_with "ktr_room" => (refine Mine.ltOf (by with_reducible assumption) ?_; (try dsimp only [depth_under_make, depth_under_kw, depth_in1, depth_deeper, depth_caller]); repeat (first | with_reducible exact Nat.le_add_right _ _ | with_reducible refine Mine.leK (Eq.refl (_ + _)) ?_))
  k_with "ktr_units" => (refine Mine.ltOf (by with_reducible assumption) ?_; (try dsimp only [units_in1, units_deeper, Around.mark_units, units_caller]); repeat (first | with_reducible exact Nat.le_add_right _ _ | with_reducible refine Mine.leK (Eq.refl (_ + _)) ?_))
  k_with "size_fits" => first | with_reducible assumption | exact Nat.zero_le _ | exact Mine.fitLt (by with_reducible assumption) (by decide) | exact Mine.fitLe (by with_reducible assumption) (by decide) | exact Mine.catF (by k_extra "cat") | exact Mine.catA (by k_extra "cat")
  k_with "cat" => repeat (first | exact Mine.catB1 (by with_reducible assumption) (by decide) | exact Nat.le_trans (by with_reducible assumption) (by decide) | with_reducible refine Mine.catM (Eq.refl (_ + 10000)) ?_ ?_ | ((with_reducible show (Str.ofString _).length ≤ _); decide) | ((with_reducible show Str.empty.length ≤ _); decide))
  k_with "And" => ((first | (with_reducible show PySem.Str.length (_ ++ _) ≤ sizeLine ∧ _) | ((fail_if_success (with_reducible show _ ∧ _)); dsimp only; (with_reducible show PySem.Str.length (_ ++ _) ≤ sizeLine ∧ _))); refine ⟨Mine.catF (by k_extra "cat"), ?_⟩)
  k_with "andlt" => first | with_reducible assumption | exact (by with_reducible assumption : (@LT.lt Nat _ _ _) ∧ _).1 | exact (by with_reducible assumption : (@LT.lt Nat _ _ _) ∧ (@LT.lt Nat _ _ _) ∧ _).2.1 | exact (by with_reducible assumption : (@LT.lt Nat _ _ _) ∧ (@LT.lt Nat _ _ _) ∧ (@LT.lt Nat _ _ _) ∧ _).2.2.1 | exact (by with_reducible assumption : (@LT.lt Nat _ _ _) ∧ (@LT.lt Nat _ _ _) ∧ (@LT.lt Nat _ _ _) ∧ (@LT.lt Nat _ _ _) ∧ _).2.2.2.1 | exact (by with_reducible assumption : (@LT.lt Nat _ _ _) ∧ (@LT.lt Nat _ _ _) ∧ (@LT.lt Nat _ _ _) ∧ (@LT.lt Nat _ _ _) ∧ (@LT.lt Nat _ _ _) ∧ _).2.2.2.2.1 | exact (by with_reducible assumption : (@LT.lt Nat _ _ _) ∧ (@LT.lt Nat _ _ _) ∧ (@LT.lt Nat _ _ _) ∧ (@LT.lt Nat _ _ _) ∧ (@LT.lt Nat _ _ _) ∧ (@LT.lt Nat _ _ _) ∧ _).2.2.2.2.2.1 | exact (by with_reducible assumption : (@LT.lt Nat _ _ _) ∧ (@LT.lt Nat _ _ _) ∧ (@LT.lt Nat _ _ _) ∧ (@LT.lt Nat _ _ _) ∧ (@LT.lt Nat _ _ _) ∧ (@LT.lt Nat _ _ _) ∧ (@LT.lt Nat _ _ _) ∧ _).2.2.2.2.2.2.1 | exact (by with_reducible assumption : (@LT.lt Nat _ _ _) ∧ (@LT.lt Nat _ _ _) ∧ (@LT.lt Nat _ _ _) ∧ (@LT.lt Nat _ _ _) ∧ (@LT.lt Nat _ _ _) ∧ (@LT.lt Nat _ _ _) ∧ (@LT.lt Nat _ _ _) ∧ (@LT.lt Nat _ _ _) ∧ _).2.2.2.2.2.2.2.1 | exact (by with_reducible assumption : (@LT.lt Nat _ _ _) ∧ (@LT.lt Nat _ _ _) ∧ (@LT.lt Nat _ _ _) ∧ (@LT.lt Nat _ _ _) ∧ (@LT.lt Nat _ _ _) ∧ (@LT.lt Nat _ _ _) ∧ (@LT.lt Nat _ _ _) ∧ (@LT.lt Nat _ _ _) ∧ (@LT.lt Nat _ _ _) ∧ _).2.2.2.2.2.2.2.2.1
  k_with "k_ne" => (refine neN ?_; (try dsimp only); first | with_reducible assumption | exact Ne.symm (by with_reducible assumption) | (refine Mine.neGt ?_; k_extra "andlt") | (refine Nat.ne_of_lt ?_; k_extra "andlt") | omega)
  k_with "ite" => first | (refine ite_pos_ (by decide +kernel) ?_) | (refine ite_neg_ (by decide +kernel) ?_)
  k_with "execs cons" => ((fail_if_success (refine gen_toks (by assumption) ?_)); (refine gen_toks (by (try dsimp only); omega) ?_); intro kw_tk kw_htk)
  k_with "execs nil" => ((fail_if_success (refine gen_toks (by assumption) ?_)); (refine gen_toks (by (try dsimp only); omega) ?_); intro kw_tk kw_htk)
  k_with "call builtin:str.replace" => ((refine SC.replace (s := ⟨_, _, _, _, _⟩) (by show @Ne Nat _ _; (try dsimp only); omega) (by show @Ne Nat _ _; (try dsimp only); omega) (by show @Ne Nat _ _; (try dsimp only); omega) (by decide) (by decide) ?_); intro kw_t' kw_k')
  revert X; k_fill; intro X
  rcases he with ⟨rfl, rfl⟩ | ⟨rfl, rfl⟩ | ⟨rfl, rfl⟩ | ⟨rfl, rfl⟩
  all_goals (refine wpAny_call ?_; k_dflt cell_enter)
  all_goals k_steps
  all_goals exact hret _ _ _ (by k_asm) (by k_asm)
end Mine
end

section
open PySem PySem.W PyProof.Rows PySem.Calls PySem.Spec
open Sem (wp)
namespace Mine
def KvOf : List (Str × Value) → List (Str × Str) → Prop
  | [], [] => True
  | kv :: k, r :: rs => kv.1 = r.1 ∧ (∃ t, kv.2 = .str r.2 t) ∧ KvOf k rs
  | _, _ => False
theorem KvOf.snoc {x y : Str} {t : Tok} : ∀ {kvs : List (Str × Value)} {rows : List (Str × Str)}, KvOf kvs rows → KvOf (kvs ++ [(x, .str y t)]) (rows ++ [(x, y)])
  | [], [], _ => ⟨rfl, ⟨t, rfl⟩, trivial⟩
  | [], _ :: _, h => h.elim
  | _ :: _, [], h => h.elim
  | _ :: _, _ :: _, h => ⟨h.1, h.2.1, KvOf.snoc h.2.2⟩
theorem KvOf.len : ∀ {kvs : List (Str × Value)} {rows : List (Str × Str)}, KvOf kvs rows → kvs.length = rows.length
  | [], [], _ => rfl
  | [], _ :: _, h => h.elim
  | _ :: _, [], h => h.elim
  | _ :: _, _ :: _, h => by simp [KvOf.len h.2.2]
theorem KvOf.keys : ∀ {kvs : List (Str × Value)} {rows : List (Str × Str)}, KvOf kvs rows → kvs.map (·.1) = rows.map (·.1)
  | [], [], _ => rfl
  | [], _ :: _, h => h.elim
  | _ :: _, [], h => h.elim
  | _ :: _, _ :: _, h => by simp [KvOf.keys h.2.2, h.1]
theorem stored_new {kvs : List (Str × Value)} {k : Str} {v : Value} (h : k ∉ kvs.map (·.1)) : stored kvs k v = kvs ++ [(k, v)] := by
  unfold stored
  rw [if_neg]
  intro hc
  obtain ⟨kv, hm, he⟩ := List.any_eq_true.mp hc
  exact h (List.mem_map.mpr ⟨kv, hm, of_decide_eq_true he⟩)
section
variable {prog : Program} {w : World} {A : Around} {E : Value → Shared → Prop} {s : Shared} {h₀ : Heap} {L : Addr} {m : Str → Option Value} {news : List (Addr × Obj)}
theorem getAttrBy_miss_list {a : Addr} {o : Obj} {xs : Array Value} {k : Nat} {name : Str} {u : Tok} {Q : Value → Shared → Prop}
    (hx : s.heap.get? a = some o) (hc : o.cls = .type "list") (hdat : o.data = .seq xs k) (hd : o.dict = none) (hmiss : typeLookup (.type "list") name = pure none) (hname : (["__module__", "__name__", "__qualname__", "__doc__", "__annotations__"] : List Str).contains name = false) (hA : A.handled = none)
    (h : ∀ h' tk e, Heap.NewExcOf s.heap h' e "AttributeError" → E (.ref e) { s with heap := h', toks := tk }) (hsz : name.length + 100 ≤ sizeLine := by size_fits) :
    wpAny (model prog w) A (getAttrBy (.ref a) (.str name u) false) Q E s := by
  obtain ⟨c, dct, dat, sl⟩ := o
  simp only at hc hdat hd
  subst hc hdat hd
  obtain ⟨hp, g, d, tk, os⟩ := s
  have hT : ∀ tk', (⟨hp, g, d, tk', os⟩ : Shared).TypeIs (.ref a) "list" := fun _ => ⟨_, hx, rfl⟩
  have f1 := sub_AttributeError
  have f3 := F.slot_list_getattribute.lookup
  have f4 := F.slot_list_getattribute.bind (.ref a)
  have f5 := am_list_getattr_none
  unfold getAttrBy
  repeat (any_goals (first | assumption | exact hT _ | ((with_reducible show wpAny _ _ (call (Value.builtin "list.__getattribute__") _ _) _ _ _); refine call_meets F.slot_list_getattribute (hT _) am_entry_list_getattribute (F.args_list_getattribute_2 _ _) (meets_getattribute_miss_list a xs k sl name _ hmiss hname hsz) ⟨hx, hA, fun h' tk' e hx' => ?_⟩) | wp_step))
  obtain ⟨t', u', he⟩ := hx'.there
  show wpAny _ _ (getattributeRaised _ _ _ _ _ _ _) _ _ _
  unfold getattributeRaised
  repeat (any_goals (first | assumption | wp_step))
  exact h _ _ _ hx'.of
theorem list_no_keys : typeLookup (.type "list") "keys" = pure none := am_miss_of_fast (by decide +kernel)
theorem getAttr?_keys_list {a : Addr} {its : Array Value} {k : Nat} {Q : Option Value → Shared → Prop} (hx : s.heap.get? a = some (listOf its k)) (hA : A.handled = none)
    (h : ∀ h' tk, (∀ b o, s.heap.get? b = some o → h'.get? b = some o) → Q none { s with heap := h', toks := tk }) :
    wpAny (model prog w) A (getAttr? (.ref a) "keys") Q E s := by
  unfold getAttr? getAttrBy?
  refine wpAny_bind (wpAny_mkText (wpAny_bind (wpAny_attempt ?_)))
  refine getAttrBy_miss_list (s := { s with toks := s.toks + 1 }) hx rfl rfl rfl list_no_keys (by decide) hA (fun h' tk e hx' => ?_)
  obtain ⟨hk, _, ob, vs, he, hc, _, _⟩ := hx'
  dsimp only
  exact wpAny_bind (wpAny_isInstance (T := "AttributeError") (b := true) ⟨ob, he, hc⟩ sub_AttributeError (wpAny_pure (h _ _ hk)))
theorem entry_dul : entryFor table "dict.update.loop" = some Builtin.«dict.update.loop» := entryFor_of_tree (by kernel_rfl)
theorem plain_dul : plainId "dict.update.loop" = true := by decide +kernel
abbrev liO (l : Addr) (i : Nat) : Obj := { cls := .type "list_iterator", data := .fields #[.ref l, .int i 0] }
theorem dict_loop {l d I : Addr} {its : Array Value} {n0 : Nat} {rows : List (Str × Str)} {R : Result → Shared → Prop} (hA : A.handled = none) (ml : (l, listOf its n0) ∈ news) (hR : Rows news its rows) (hne : (rows.map (·.1)).Nodup) (hz : rows.length < 100)
    (hd : ∀ p ∈ news, p.1 < d) (hI : (d : Nat) < I) (st : Shared)
    (h : ∀ h' tk o kvs, Fr h₀ L h' m → News h₀ L h' ((d, o) :: news) → o.IsDictOf (PySem.strKind prog w) kvs → KvOf kvs rows → R (.ok (.ret .none)) { st with heap := h', toks := tk }) :
    ∀ (j i : Nat) (h' : Heap) (tk : Nat) (o oI : Obj) (kvs : List (Str × Value)) (u : Tok), i + j = its.size → Fr h₀ L h' m → News h₀ L h' ((I, oI) :: (d, o) :: news) → h'.IsListIter I l i → o.IsDictOf (PySem.strKind prog w) kvs → KvOf kvs (rows.take i) →
      codeAny (model prog w) A (.builtin "dict.update.loop" ⟨[.ref d, .ref I, .int i u, .none], []⟩) R { st with heap := h', toks := tk } := by
  have hdn : ∀ p ∈ news, p.1 ≠ d := fun p hp => Nat.ne_of_lt (hd p hp)
  have hIn : ∀ p ∈ news, p.1 ≠ I := fun p hp => Nat.ne_of_lt (Nat.lt_trans (hd p hp) hI)
  have hdI : d ≠ I := Nat.ne_of_lt hI
  intro j
  induction j with
  | zero =>
    intro i h' tk o oI kvs u hi F N hit ho hk
    have hi : i = its.size := by omega
    subst hi
    rw [hR.1, List.take_length] at hk
    have hl : h'.IsList l its := News.isList N (.tail _ (.tail _ ml))
    refine codeAny_builtin entry_dul ?_
    rw [Around.under_plainId plain_dul _]
    unfold Builtin.«dict.update.loop»
    dsimp only
    refine wpAny_bind (wpAny_pyNext_list_end (show A.in1.handled = none from hA) hit hl (by simp) fun h2 he => ?_)
    dsimp only
    refine wpAny_bind (wpAny_pure (wpAny_pure ?_))
    have aI := N _ (.head _)
    have up : ∀ b, b ≠ I → ∀ o, h'.get? b = some o → h2.get? b = some o := fun b hb o e => he b o hb e
    refine h h2 tk o kvs ⟨F.ns.at' fun o e => up _ (Ne.symm aI.2.1) o e, fun b o e => up b (fun q => by rw [q, aI.2.2] at e; cases e) o (F.keep b o e), F.above⟩ ?_ ho hk
    exact List.forall_mem_cons.mpr ⟨⟨up _ hdI _ (N _ (.tail _ (.head _))).1, (N _ (.tail _ (.head _))).2⟩, fun p hp => ⟨up _ (hIn p hp) _ (N p (.tail _ (.tail _ hp))).1, (N p (.tail _ (.tail _ hp))).2⟩⟩
  | succ j ih =>
    intro i h' tk o oI kvs u hi F N hit ho hk
    have hlt : i < its.size := by omega
    have hl : h'.IsList l its := News.isList N (.tail _ (.tail _ ml))
    obtain ⟨v, hv⟩ : ∃ v, its[i]? = some v := ⟨its[i], by simp [hlt]⟩
    obtain ⟨a, r, ta, tb, hr, rfl, hm⟩ := hR.2 i v hv
    refine codeAny_builtin entry_dul ?_
    rw [Around.under_plainId plain_dul _]
    unfold Builtin.«dict.update.loop»
    dsimp only
    refine wpAny_bind (wpAny_pyNext_list_item hit hl hv fun h2 hit2 hs2 => ?_)
    obtain ⟨oI2, hoI2, r2⟩ := id hit2
    have aI := N _ (.head _)
    have hap : ∀ p ∈ (d, o) :: news, p.1 ≠ I := List.forall_mem_cons.mpr ⟨hdI, hIn⟩
    have N2 := N.setHead hap hs2 hoI2
    have F2 : Fr h₀ L h2 m := F.change hs2 aI.2.1 aI.2.2
    have hT : ({ st with heap := h2, toks := tk } : Shared).TypeIs (.ref a) "tuple" := ⟨_, (N2 _ (.tail _ (.tail _ hm))).1, rfl⟩
    refine wpAny_bind (wpAny_holding (wpAny_bind (wpAny_tryCatch ?_)))
    unfold Builtin.Dict.pairItems
    refine wpAny_bind (wpAny_typeOf hT ?_)
    rw [if_pos (by decide)]
    refine wpAny_bind (wpAny_seqItems (N2 _ (.tail _ (.tail _ hm))).1 rfl ?_)
    refine wpAny_pure ?_
    show wpAny _ _ (holding [.str r.1 ta, .str r.2 tb] (dictSet d (.str r.1 ta) (.str r.2 tb))) _ _ _
    have hdo : h2.DictOf (PySem.strKind prog w) d kvs := Heap.dictOf_iff.mpr ⟨o, (N2 _ (.tail _ (.head _))).1, ho⟩
    have hkl := KvOf.len hk
    have hlen : kvs.length ≤ sizeLine := by rw [hkl, sizeLine_eq, List.length_take]; omega
    refine wpAny_holding (wpAny_dictSet_pairs (s := { st with heap := h2, toks := tk }) (strKind_is _ _ r.1 ta) hdo (fun h3 hd3 hs3 => ?_) hlen)
    have hnew : r.1 ∉ kvs.map (·.1) := by
      rw [KvOf.keys hk]
      have hsp : rows.map (·.1) = (rows.take i).map (·.1) ++ r.1 :: (rows.drop (i + 1)).map (·.1) := by
        conv => lhs; rw [← List.take_append_drop i rows]
        have hlr : i < rows.length := by rw [← hR.1]; exact hlt
        rw [List.map_append, List.drop_eq_getElem_cons hlr, List.map_cons]
        have : rows[i] = r := by rw [List.getElem?_eq_getElem hlr] at hr; exact Option.some.inj hr
        rw [this]
      rw [hsp] at hne
      exact fun hm' => (List.nodup_append.mp hne).2.2 _ hm' _ (.head _) rfl
    rw [stored_new hnew] at hd3
    obtain ⟨o3, ho3, hd3'⟩ := Heap.dictOf_iff.mp hd3
    have ad := N2 _ (.tail _ (.head _))
    have N3 : News h₀ L h3 ((I, oI2) :: (d, o3) :: news) := News.setIn (own := [(I, oI2)]) N2 (by simp; exact Ne.symm hdI) hdn hs3 ho3
    have F3 : Fr h₀ L h3 m := F2.change hs3 ad.2.1 ad.2.2
    refine wpAny_pure ⟨Code.quiet_builtin _ (by decide +kernel), ?_⟩
    have := ih (i + 1) h3 (tk + 1) o3 oI2 _ 0 (by omega) F3 N3 (hit2.at fun o e => hs3.extBut _ o (Ne.symm hdI) e) hd3' (by rw [List.take_add_one, hr]; exact KvOf.snoc (t := tb) hk)
    exact this
theorem dict_pairs {l : Addr} {its : Array Value} {n0 : Nat} {rows : List (Str × Str)} {Q : Value → Shared → Prop} (hA : A.handled = none) (F : Fr h₀ L s.heap m) (N : News h₀ L s.heap news) (hbig : h₀.NoLimit) (ml : (l, listOf its n0) ∈ news) (hR : Rows news its rows) (hne : (rows.map (·.1)).Nodup) (hz : rows.length < 100)
    (h : ∀ d h' tk o kvs, Fr h₀ L h' m → News h₀ L h' ((d, o) :: news) → (∀ p ∈ news, p.1 < d) → (d == sysModules) = false → o.IsDictOf (PySem.strKind prog w) kvs → KvOf kvs rows → Q (.ref d) { s with heap := h', toks := tk }) :
    wpAny (model prog w) A (call (.type "dict") [.ref l]) Q E s := by
  refine callType_codes (Q₁ := fun obj s₁ => obj = .ref s.heap.objs.size ∧ s₁ = { s with heap := s.heap.push { cls := .type "dict", data := .dict #[] } }) PySem.F.kt_called_dict (PySem.F.kt_typeCall_dict_1 _) PySem.F.entry_dict_init (kt_code_dict_new _ ⟨rfl, rfl⟩) ?_
  rintro obj s₁ ⟨rfl, rfl⟩
  have hnew : (s.heap.push { cls := .type "dict", data := .dict #[] }).DictOf (PySem.strKind prog w) s.heap.objs.size [] := Heap.DictOf.new s.heap
  refine ⟨hnew.typeIs, PySem.F.args_dict_init_2 _ _, ?_⟩
  unfold Builtin.«dict.__init__»
  refine wpAny_bind ?_
  unfold Builtin.Dict.selfAndRest
  refine wpAny_bind (wpAny_notOrdered_dict hnew.typeIs ?_)
  show wpAny _ _ (pure (s.heap.objs.size, [Value.ref l])) _ _ _
  refine wpAny_pure ?_
  show wpAny _ _ (Builtin.Dict.updateFrom "dict.__init__" s.heap.objs.size (.ref l) [] .none) _ _ _
  unfold Builtin.Dict.updateFrom
  have N1 := News.push F N { cls := .type "dict", data := .dict #[] }
  have F1 : Fr h₀ L (s.heap.push { cls := .type "dict", data := .dict #[] }) m := F.push _
  have hT : ({ s with heap := s.heap.push { cls := .type "dict", data := .dict #[] } } : Shared).TypeIs (.ref l) "list" := ⟨_, (N1 _ (.tail _ ml)).1, rfl⟩
  refine wpAny_bind (wpAny_typeOf hT ?_)
  rw [if_pos (by decide)]
  refine wpAny_bind (getAttr?_keys_list (s := { s with heap := s.heap.push { cls := .type "dict", data := .dict #[] } }) (N1 _ (.tail _ ml)).1 hA fun h2 tk2 k2 => ?_)
  rw [if_pos (show (none : Option Value).isNone = true from rfl)]
  have N2 : News h₀ L h2 ((s.heap.objs.size, { cls := .type "dict", data := .dict #[] }) :: news) := N1.grown k2
  have F2 : Fr h₀ L h2 m := F1.kept k2
  refine wpAny_bind (wpAny_rule (wpAny_bind (wpAny_pyIter_list (s := { s with heap := h2, toks := tk2 }) (News.isList N2 (.tail _ ml)) ?_)))
  have N3 := News.push F2 N2 (liO l 0)
  have F3 : Fr h₀ L (h2.push (liO l 0)) m := F2.push _
  have hz2 : s.heap.objs.size < h2.objs.size := Heap.lt_size (N2 _ (.head _)).1
  refine wpAny_bind (wpAny_pure (wpAny_pure ⟨Code.quiet_builtin _ (by decide +kernel), ?_⟩))
  have hlt : ∀ p ∈ news, p.1 < s.heap.objs.size := fun p hp => Heap.lt_size (N p hp).1
  obtain ⟨o0, ho0, hd0⟩ := Heap.dictOf_iff.mp (hnew.keep k2)
  have e0 : o0 = { cls := .type "dict", data := .dict #[] } := by
    have := (N2 _ (.head _)).1
    dsimp only at this
    rw [ho0] at this
    exact Option.some.inj this
  subst e0
  exact dict_loop (A := A.in1) (R := wants (fun r s₂ => r = Value.none ∧ Q (.ref s.heap.objs.size) s₂) E) hA ml hR hne hz hlt hz2 { s with toks := tk2 }
    (fun h' tk o kvs F' N' ho hk => ⟨rfl, h _ h' tk o kvs F' N' hlt (F.notModules (modules_low hbig)) ho hk⟩) its.size 0 _ _ _ _ [] 0 (Nat.zero_add _) F3 N3 ⟨_, Heap.get?_push_size _ rfl, rfl, rfl⟩ hd0 trivial
end
end Mine
end

section
open PySem PySem.W PyProof.Rows PySem.Calls PySem.Spec
open Sem (wp)
namespace Mine
def memS (l : List Str) (k : Str) : Bool := decide (k ∈ l)
theorem free_first {mask n : Nat} (hm : ∀ i, i < n → (List.range (SetTable.runEnd mask i + 1 - i)).find? (fun k => ((Array.replicate n (none : Option Nat)).getD (i + k) (some 0)).isNone) = some 0) {f i p : Nat} (hi : i < n) : SetTable.layClean.free mask (Array.replicate n none) (f + 1) i p = some i := by
  unfold SetTable.layClean.free
  rw [hm i hi]
  rfl
theorem find7 : ∀ i, i < 8 → (List.range (SetTable.runEnd 7 i + 1 - i)).find? (fun k => ((Array.replicate 8 (none : Option Nat)).getD (i + k) (some 0)).isNone) = some 0 := by decide +kernel
theorem find15 : ∀ i, i < 16 → (List.range (SetTable.runEnd 15 i + 1 - i)).find? (fun k => ((Array.replicate 16 (none : Option Nat)).getD (i + k) (some 0)).isNone) = some 0 := by decide +kernel
theorem live7 : ∀ i, i < 8 → (List.range 8).filterMap (fun j => (((Array.replicate 8 (none : Option Nat)).setIfInBounds i (some 0)).getD j none).map (j, ·)) = [(i, 0)] := by decide +kernel
theorem live15 : ∀ i, i < 16 → (List.range 16).filterMap (fun j => (((Array.replicate 16 (none : Option Nat)).setIfInBounds i (some 0)).getD j none).map (j, ·)) = [(i, 0)] := by decide +kernel
theorem laid7 (h : Int) (finger moves : Nat) (led plain : Bool) : ∃ t', SetTable.laid 7 finger moves led plain #[h] = some (t', #[0]) ∧ t'.fits 1 = true ∧ t'.plain = plain := by
  have hi : SetTable.bits h % 8 < 8 := Nat.mod_lt _ (by decide)
  have e : SetTable.layClean 7 #[h] = some ((Array.replicate 8 none).setIfInBounds (SetTable.bits h % 8) (some 0)) := by
    show ((SetTable.layClean.free 7 (Array.replicate 8 none) (21 + 1) (SetTable.bits h % 8) (SetTable.bits h)).bind fun j => some ((Array.replicate 8 none).setIfInBounds j (some 0), 0 + 1)).map (·.1) = _
    rw [free_first find7 hi]; rfl
  unfold SetTable.laid
  rw [e]
  show ∃ t', some (_, _) = some (t', _) ∧ _
  rw [show (List.range (7 + 1)).filterMap (fun j => (((Array.replicate 8 (none : Option Nat)).setIfInBounds (SetTable.bits h % 8) (some 0)).getD j none).map (j, ·)) = [(SetTable.bits h % 8, 0)] from live7 _ hi]
  exact ⟨_, rfl, by rfl, rfl⟩
theorem laid15 (h : Int) (finger moves : Nat) (led plain : Bool) : ∃ t', SetTable.laid 15 finger moves led plain #[h] = some (t', #[0]) ∧ t'.fits 1 = true ∧ t'.plain = plain := by
  have hi : SetTable.bits h % 16 < 16 := Nat.mod_lt _ (by decide)
  have e : SetTable.layClean 15 #[h] = some ((Array.replicate 16 none).setIfInBounds (SetTable.bits h % 16) (some 0)) := by
    show ((SetTable.layClean.free 15 (Array.replicate 16 none) (29 + 1) (SetTable.bits h % 16) (SetTable.bits h)).bind fun j => some ((Array.replicate 16 none).setIfInBounds j (some 0), 0 + 1)).map (·.1) = _
    rw [free_first find15 hi]; rfl
  unfold SetTable.laid
  rw [e]
  show ∃ t', some (_, _) = some (t', _) ∧ _
  rw [show (List.range (15 + 1)).filterMap (fun j => (((Array.replicate 16 (none : Option Nat)).setIfInBounds (SetTable.bits h % 16) (some 0)).getD j none).map (j, ·)) = [(SetTable.bits h % 16, 0)] from live15 _ hi]
  exact ⟨_, rfl, by rfl, rfl⟩
theorem laid_plain {mask finger moves : Nat} {led plain : Bool} {hs : Array Int} {t' : SetTable} {o : Array Nat} (e : SetTable.laid mask finger moves led plain hs = some (t', o)) : t'.plain = plain := by
  unfold SetTable.laid at e
  cases hc : SetTable.layClean mask hs with
  | none => rw [hc] at e; cases e
  | some ow =>
    rw [hc] at e
    cases e
    rfl
theorem put_plain (t : SetTable) (j : Nat) : (t.put j).1.plain = t.plain := rfl
theorem orStandIn_plain {t : SetTable} (n : Nat) (h : t.plain = false) : (t.orStandIn n).plain = false := by
  unfold SetTable.orStandIn
  split
  · exact h
  · rfl
theorem layNew_plain {t : SetTable} (es : Array (Int × Value)) (h : Int) (x : Value) (hp : t.plain = false) : (layNew t es h x).2.1.plain = false := by
  unfold layNew
  cases t.freeSlot h with
  | none => rfl
  | some q => exact orStandIn_plain _ (by rw [put_plain]; exact hp)
theorem relayAll_plain {t : SetTable} (es : Array (Int × Value)) (n : Nat) (hp : t.plain = false) : (relayAll t es n).2.1.plain = false := by
  unfold relayAll
  cases hr : t.relaid (es.map (·.1)) n with
  | none => rfl
  | some q =>
    obtain ⟨t', o⟩ := q
    dsimp only
    split
    · have := laid_plain hr
      exact this.trans hp
    · rfl
section
variable {prog : Program} {w : World} {A : Around} {E : Value → Shared → Prop} {s : Shared}
inductive SetP (prog : Program) (w : World) (h : Heap) (D : Addr) (l : List Str) : Prop
  | mk (o : Obj) (es : Array (Int × Value)) (ep : Nat) (t : SetTable) (e1 : h.get? D = some o) (e2 : o.ExactSet ∧ o.data = .set es ep t ∧ ElemsOf (PySem.strKind prog w) es.toList ∧ (∀ k, memS l k = true ↔ ∃ e ∈ es.toList, (PySem.strKind prog w).is k e.2 = true) ∧
    es.size < scanBound ∧ t.fits es.size = true ∧ es.size = l.length ∧ t.plain = false) : SetP prog w h D l
theorem SetP.setOf {h : Heap} {D : Addr} {l : List Str} (x : SetP prog w h D l) : h.SetOf (PySem.strKind prog w) D (memS l) l.length :=
  let ⟨o, es, ep, t, a1, a2, a3, a4, a5, a6, a7, a8, _⟩ := x; ⟨o, es, ep, t, a1, a2, a3, a4, a5, a6, a7, a8⟩
theorem SetP.at {h h' : Heap} {D : Addr} {l : List Str} (x : SetP prog w h D l) (e : ∀ o, h.get? D = some o → h'.get? D = some o) : SetP prog w h' D l :=
  let ⟨o, es, ep, t, ho, r⟩ := x; ⟨o, es, ep, t, e o ho, r⟩
theorem SetP.lt {h : Heap} {D : Addr} {l : List Str} (x : SetP prog w h D l) : D < h.objs.size := let ⟨_, _, _, _, ho, _⟩ := x; Heap.lt_size ho
theorem setP_store {h : Heap} {a : Addr} {o : Obj} {es : Array (Int × Value)} {ep : Nat} {t : SetTable} (ho : h.get? a = some o) (hex : o.ExactSet) (hd : o.data = .set es ep t)
    {es' : Array (Int × Value)} {t' : SetTable} {l : List Str} (hel : ElemsOf (PySem.strKind prog w) es'.toList) (hmem : ∀ k, memS l k = true ↔ ∃ e ∈ es'.toList, (PySem.strKind prog w).is k e.2 = true) (hb : es'.size < scanBound) (hf : t'.fits es'.size = true) (hl : es'.size = l.length) (hp : t'.plain = false) :
    (h.update a (Obj.putSet es' t')).get? a = some { o with data := .set es' (ep + 1) t' } ∧ SetP prog w (h.update a (Obj.putSet es' t')) a l := by
  obtain ⟨g, _⟩ := SetOf_store (knd := PySem.strKind prog w) ho hex hd hel hmem hb hf
  exact ⟨g, _, es', ep + 1, t', g, hex, rfl, hel, hmem, hb, hf, hl, hp⟩
theorem one_of {x : Str} {es : Array (Int × Value)} (h : es.size = [x].length) : ∃ e, es = #[e] := by
  obtain ⟨l⟩ := es
  match l, h with
  | [e], _ => exact ⟨e, rfl⟩
theorem relay_one {D : Addr} {wanted : Nat} {x : Str} {Q : Unit → Shared → Prop} (hw : SetTable.sizeAbove wanted = 8 ∨ SetTable.sizeAbove wanted = 16) (hS : SetP prog w s.heap D [x])
    (h : ∀ h', Heap.SameBut D s.heap h' → SetP prog w h' D [x] → Q () { s with heap := h' }) : wpAny (model prog w) A (setRelay D wanted) Q E s := by
  obtain ⟨o, es, ep, t, ho, hex, hd, hel, hmem, hb, hf, hn, hp⟩ := hS
  obtain ⟨e, rfl⟩ := one_of hn
  have hr : ∃ t', t.relaid ((#[e] : Array (Int × Value)).map (·.1)) wanted = some (t', #[0]) ∧ t'.fits 1 = true ∧ t'.plain = t.plain := by
    unfold SetTable.relaid
    rw [show (#[e] : Array (Int × Value)).map (·.1) = #[e.1] by simp]
    rcases hw with hw | hw <;> rw [hw]
    · exact laid7 ..
    · exact laid15 ..
  obtain ⟨t', hr, hf', hp'⟩ := hr
  unfold setRelay
  refine wpAny_bind (wpAny_setState_of ho hd hf ?_)
  dsimp only
  rw [if_neg (by rw [sizeLine_eq]; rcases hw with hw | hw <;> rw [hw] <;> omega), hr]
  refine wpAny_bind (wpAny_of_eq (a := ((#[e] : Array (Int × Value)), t')) rfl ?_)
  dsimp only
  refine wpAny_storeSet_of ho hd ?_ (by rw [sizeLine_eq]; simp)
  exact h _ (Heap.SameBut.update ..) (setP_store ho hex hd hel hmem hb hf' hn (hp'.trans hp)).2
theorem room_for {D : Addr} {n : Nat} {x : Str} {Q : Unit → Shared → Prop} (h1 : 1 ≤ n) (h4 : n ≤ 4) (hS : SetP prog w s.heap D [x])
    (h : ∀ h', Heap.SameBut D s.heap h' → SetP prog w h' D [x] → Q () { s with heap := h' }) : wpAny (model prog w) A (setRoomFor D n) Q E s := by
  obtain ⟨o, es, ep, t, ho, hex, hd, hel, hmem, hb, hf, hn, hpl⟩ := id hS
  unfold setRoomFor
  refine wpAny_bind (wpAny_setState_of ho hd hf ?_)
  dsimp only
  have hp : t.place.size = 1 := by
    unfold SetTable.fits at hf
    rw [Bool.and_eq_true, beq_iff_eq] at hf
    rw [hf.1]; exact hn
  unfold SetTable.roomFor
  by_cases hc : (t.fill + n) * 5 ≥ t.mask * 3
  · rw [if_pos hc, hp]
    dsimp only
    refine relay_one ?_ hS h
    have : n = 1 ∨ n = 2 ∨ n = 3 ∨ n = 4 := by omega
    rcases this with rfl | rfl | rfl | rfl <;> decide
  · rw [if_neg hc]
    exact wpAny_pure (h s.heap (Heap.SameBut.refl _ _) hS)
theorem strKey_scan {k : Str} {v : Value} (h : (PySem.strKind prog w).is k v = true) : v.scannable = true := by
  obtain ⟨t, rfl⟩ := Value.isStrOf_shape h
  rfl
theorem strKey_plain {k : Str} {v : Value} (h : (PySem.strKind prog w).is k v = true) : plainKind v = false := by
  obtain ⟨t, rfl⟩ := Value.isStrOf_shape h
  rfl
theorem add_tail {g : Bool → Sem Unit} (hg : ∀ (b : Bool) (s₁ : Shared) (Q' : Unit → Shared → Prop), Q' () s₁ → wpAny (model prog w) A (g b) Q' E s₁) {D : Addr} {o : Obj} {es : Array (Int × Value)} {ep : Nat} {t : SetTable} (ho : s.heap.get? D = some o) (hex : o.ExactSet) (hd : o.data = .set es ep t)
    {es1 : Array (Int × Value)} {t2 : SetTable} {l : List Str} (hel1 : ElemsOf (PySem.strKind prog w) es1.toList) (hmem1 : ∀ k', memS l k' = true ↔ ∃ e ∈ es1.toList, (PySem.strKind prog w).is k' e.2 = true)
    (hb1 : es1.size < scanBound) (hf2 : t2.fits es1.size = true) (hl : es1.size = l.length) (hp : t2.plain = false) {wasDummy : Bool} {R : Option Bool → Shared → Prop}
    (h : ∀ h', Heap.SameBut D s.heap h' → SetP prog w h' D l → R (some true) { s with heap := h' }) :
    wpAny (model prog w) A (do
        storeSet D es1 t2
        if (!wasDummy && t2.tooFull) = true then do
            g (relayAll t2 es1 (SetTable.grown es1.size)).2.2
            storeSet D (relayAll t2 es1 (SetTable.grown es1.size)).1 (relayAll t2 es1 (SetTable.grown es1.size)).2.1
            pure (some true)
          else pure (some true)) R E s := by
  obtain ⟨ho1, hS1⟩ := setP_store (prog := prog) (w := w) ho hex hd hel1 hmem1 hb1 hf2 hl hp
  refine wpAny_bind (wpAny_storeSet_of ho hd ?_ (fits_of_scanBound hb1))
  have hsb1 := Heap.SameBut.update s.heap D (Obj.putSet es1 t2)
  split
  · have hpm := relayAll_perm t2 es1 (SetTable.grown es1.size)
    have hfr := relayAll_fits t2 es1 (SetTable.grown es1.size)
    have hpl := relayAll_plain es1 (SetTable.grown es1.size) hp
    generalize relayAll t2 es1 (SetTable.grown es1.size) = Rl at hpm hfr hpl ⊢
    obtain ⟨es2, t3, gave2⟩ := Rl
    dsimp only at hpm hfr hpl ⊢
    have hsz : es2.size = es1.size := by rw [← Array.length_toList, hpm.length_eq, Array.length_toList]
    have hb2 : es2.size < scanBound := by rw [hsz]; exact hb1
    refine wpAny_bind (hg _ _ _ (wpAny_bind (wpAny_storeSet_of ho1 rfl ?_ (fits_of_scanBound hb2))))
    refine wpAny_pure (h _ (hsb1.trans (Heap.SameBut.update _ D _)) (setP_store ho1 hex rfl (hel1.perm hpm) (fun k' => (hmem1 k').trans ⟨fun ⟨e, he, q⟩ => ⟨e, hpm.mem_iff.mpr he, q⟩, fun ⟨e, he, q⟩ => ⟨e, hpm.mem_iff.mp he, q⟩⟩) hb2 hfr (hsz.trans hl) hpl).2)
  · exact wpAny_pure (h _ hsb1 hS1)
theorem add_hash {D : Addr} {k : Str} {key : Value} {l : List Str} {Q : Bool → Shared → Prop} (hkey : (PySem.strKind prog w).is k key = true) (hS : s.heap.SetOf (PySem.strKind prog w) D (memS l) l.length) (hk : k ∉ l) (hl : l.length < 100)
    (h : ∀ b h', Heap.SameBut D s.heap h' → SetP prog w h' D (l ++ [k]) → Q b { s with heap := h' }) :
    wpAny (model prog w) A (setAddHashed D key ((PySem.strKind prog w).hash k)) Q E s := by
  obtain ⟨o, es, ep, t, ho, hex, hd, hel, hmem, hb, hf, hn⟩ := hS
  have hsc := strKey_scan hkey
  have hnone : List.findIdx? (fun e => (PySem.strKind prog w).is k e.2) es.toList = none := by
    refine List.findIdx?_eq_none_iff.mpr fun e he => ?_
    cases hc : (PySem.strKind prog w).is k e.2 with
    | false => rfl
    | true => exact absurd (of_decide_eq_true ((hmem k).mpr ⟨e, he, hc⟩)) hk
  unfold setAddHashed setAddHashedIn
  refine wpAny_holding (wpAny_bind (wpAny_setState_of ho hd hf ?_))
  dsimp only
  rw [byScan_of hsc hb hel]
  simp only [↓reduceIte]
  unfold setAddByScan
  refine wpAny_bind (wpAny_bind (wpAny_rule (wpAny_bind (wpAny_setScan_of hkey ho hd hf hel ?_))))
  rw [hnone]
  dsimp only
  have hperm := layNew_perm t es ((PySem.strKind prog w).hash k) key
  have hfits := layNew_fits t es ((PySem.strKind prog w).hash k) key
  generalize layNew t es ((PySem.strKind prog w).hash k) key = L at hperm hfits ⊢
  obtain ⟨es1, t1, wasDummy, gave⟩ := L
  dsimp only at hperm hfits ⊢
  rw [Array.toList_push] at hperm
  have hel1 : ElemsOf (PySem.strKind prog w) es1.toList := (hel.push hkey hsc).perm hperm
  have hsz1 : es1.size = (l ++ [k]).length := by rw [← Array.length_toList, hperm.length_eq, List.length_append, Array.length_toList, hn, List.length_append]; rfl
  have hmem1 : ∀ k', memS (l ++ [k]) k' = true ↔ ∃ e ∈ es1.toList, (PySem.strKind prog w).is k' e.2 = true := fun k' => by
    rw [← mem_push_iff hkey hmem hperm k']
    unfold memS
    rw [← Bool.decide_or, decide_eq_true_eq, decide_eq_true_eq]
    simp
  have hb1 : es1.size < scanBound := by rw [hsz1, List.length_append]; show l.length + 1 < 4096; omega
  have hgw : ∀ (b : Bool) (s₁ : Shared) (E' : Value → Shared → Prop) (Q' : Unit → Shared → Prop), Q' () s₁ → wpAny (model prog w) A (match b with | true => rule "set.scan.the-table-gave-way" | false => pure ()) Q' E' s₁ :=
    fun b s₁ E' Q' hq => by cases b <;> first | exact wpAny_pure hq | exact wpAny_rule hq
  refine wpAny_bind (hgw _ _ _ _ ?_)
  cases hp1 : t1.plain with
  | true =>
    rw [if_pos rfl]
    refine wpAny_bind ?_
    rw [hashByValue_scannable 8 hsc, strKey_plain hkey]
    refine wpAny_pure ?_
    exact add_tail (fun b s₁ Q' hq => hgw b s₁ _ Q' hq) ho hex hd hel1 hmem1 hb1 (SetTable.fits_plain_off hfits) hsz1 rfl fun h' hsb hS' => wpAny_pure (h _ h' hsb hS')
  | false =>
    rw [if_neg Bool.false_ne_true]
    refine wpAny_bind (wpAny_pure ?_)
    exact add_tail (fun b s₁ Q' hq => hgw b s₁ _ Q' hq) ho hex hd hel1 hmem1 hb1 hfits hsz1 hp1 fun h' hsb hS' => wpAny_pure (h _ h' hsb hS')
theorem add_key {D : Addr} {k : Str} {key : Value} {l : List Str} {Q : Bool → Shared → Prop} (hkey : (PySem.strKind prog w).is k key = true) (hS : s.heap.SetOf (PySem.strKind prog w) D (memS l) l.length) (hk : k ∉ l) (hl : l.length < 100)
    (h : ∀ b h', Heap.SameBut D s.heap h' → SetP prog w h' D (l ++ [k]) → Q b { s with heap := h', toks := s.toks + 1 }) :
    wpAny (model prog w) A (setAdd D key) Q E s := by
  unfold setAdd
  exact wpAny_holding (wpAny_bind ((PySem.strKind prog w).pyHash hkey (add_hash (s := { s with toks := s.toks + 1 }) hkey hS hk hl h)))
theorem sub_dict_set : isSubtype (.type "dict") (.type "set") = pure false := by rw [isSubtype_type]; kernel_rfl
theorem sub_dict_frozenset : isSubtype (.type "dict") (.type "frozenset") = pure false := by rw [isSubtype_type]; kernel_rfl
theorem keys_fresh {α : Type} {l : List (Str × α)} {x : Str} (hn : (l.map (·.1)).Nodup) (hx : x ∉ l.map (·.1)) {i : Nat} {k : Str} {v : α} (hi : l[i]? = some (k, v)) : k ∉ x :: (l.map (·.1)).take i := by
  have hlt : i < l.length := (List.getElem?_eq_some_iff.mp hi).1
  have hki : (l.map (·.1))[i]? = some k := by simp [hi]
  have hm : k ∈ l.map (·.1) := List.mem_of_getElem? hki
  intro hc
  rcases List.mem_cons.mp hc with rfl | hc
  · exact hx hm
  · obtain ⟨j, hj, hjk⟩ := List.mem_iff_getElem.mp hc
    rw [List.length_take] at hj
    rw [List.getElem_take] at hjk
    have h1 : j < (l.map (·.1)).length := by omega
    have h2 : i < (l.map (·.1)).length := by rw [List.length_map]; exact hlt
    refine List.pairwise_iff_getElem.mp hn j i h1 h2 (by omega) ?_
    rw [hjk]
    rw [List.getElem?_eq_getElem h2] at hki
    exact (Option.some.inj hki).symm
theorem take_snoc {l : List (Str × Value)} {x : Str} {i : Nat} {k : Str} {v : Value} (hi : l[i]? = some (k, v)) : (x :: (l.map (·.1)).take i) ++ [k] = x :: (l.map (·.1)).take (i + 1) := by
  rw [List.take_add_one, List.getElem?_map, hi]
  rfl
theorem dict_eq_at {d : Addr} {kvs : List (Str × Value)} {h : Heap} (hd : h.DictOf (PySem.strKind prog w) d kvs) : ∃ ep, h.DictAt (PySem.strKind prog w) d kvs ep := by
  obtain ⟨o, es, ep, r⟩ := hd
  exact ⟨ep, o, es, r⟩
theorem upd_loop {D d I : Addr} {kvs : List (Str × Value)} {ep : Nat} {x : Str} {R : Result → Shared → Prop} (hA : A.handled = none) (hx : x ∉ kvs.map (·.1)) (hz : kvs.length < 90) (hDd : D ≠ d) (hDI : D ≠ I) (hdI : d ≠ I) (st : Shared)
    (h : ∀ h' tk, (∀ b o, b ≠ D → b ≠ I → st.heap.get? b = some o → h'.get? b = some o) → SetP prog w h' D (x :: kvs.map (·.1)) → R (.ok (.ret .none)) { st with heap := h', toks := tk }) :
    ∀ (j i : Nat) (h' : Heap) (tk : Nat), i + j = kvs.length → (∀ b o, b ≠ D → b ≠ I → st.heap.get? b = some o → h'.get? b = some o) → h'.DictAt (PySem.strKind prog w) d kvs ep → h'.IsKeyIter I d i kvs.length ep → SetP prog w h' D (x :: (kvs.map (·.1)).take i) →
      codeAny (model prog w) A (.builtin "set.update.loop" ⟨[.ref D, .ref I], []⟩) R { st with heap := h', toks := tk } := by
  intro j
  induction j with
  | zero =>
    intro i h' tk hi hk hd hit hS
    have hi : i = kvs.length := by omega
    subst hi
    refine codeAny_builtin PyProof.Rows.F.entry_set_update_loop ?_
    rw [Around.under_plainId PyProof.Rows.F.plain_set_update_loop _]
    show wpAny _ A.in1 (pyNext (.ref I) >>= _) _ _ { st with heap := h', toks := tk }
    refine wpAny_bind (wpAny_pyNext_dict_end (show A.in1.handled = none from hA) hit hd (by simp) fun h2 he => ?_)
    refine wpAny_pure (h h2 tk (fun b o h1 h2' e => he b o h2' (hk b o h1 h2' e)) ?_)
    rw [← List.length_map (f := fun kv : Str × Value => kv.1), List.take_length] at hS
    exact hS.at fun o e => he _ _ hDI e
  | succ j ih =>
    intro i h' tk hi hk hd hit hS
    have hlt : i < kvs.length := by omega
    obtain ⟨⟨k, v⟩, hkv⟩ : ∃ kv, kvs[i]? = some kv := ⟨_, List.getElem?_eq_getElem hlt⟩
    refine codeAny_builtin PyProof.Rows.F.entry_set_update_loop ?_
    rw [Around.under_plainId PyProof.Rows.F.plain_set_update_loop _]
    show wpAny _ A.in1 (pyNext (.ref I) >>= _) _ _ { st with heap := h', toks := tk }
    refine wpAny_bind (wpAny_pyNext_dict_item hit hd hkv fun key h2 hkey hit2 hs2 => ?_)
    have hS2 : SetP prog w h2 D (x :: (kvs.map (·.1)).take i) := hS.at fun o e => hs2.extBut _ _ hDI e
    show wpAny _ A.in1 (holding [key] (setAdd D key) >>= _) _ _ { st with heap := h2, toks := tk }
    refine wpAny_bind (wpAny_holding (add_key (s := { st with heap := h2, toks := tk }) hkey hS2.setOf (keys_fresh hd.nodup hx hkv) (by rw [List.length_cons, List.length_take]; omega) fun b h3 hs3 hS3 => ?_))
    rw [take_snoc hkv] at hS3
    refine wpAny_pure ⟨plainId_quiet PyProof.Rows.F.plain_set_update_loop _, ?_⟩
    exact ih (i + 1) h3 (tk + 1) (by omega) (fun b o h1 h2' e => hs3.extBut _ _ h1 (hs2.extBut _ _ h2' (hk b o h1 h2' e))) ((hd.extBut hs2.extBut hdI).extBut hs3.extBut (Ne.symm hDd)) (hit2.extBut hs3.extBut (Ne.symm hDI)) hS3
theorem disp_star {D d : Addr} {kvs : List (Str × Value)} {x : Str} {Q : Unit → Shared → Prop} (hA : A.handled = none) (hDd : D ≠ d) (lo : (d == sysModules) = false) (hd : s.heap.DictOf (PySem.strKind prog w) d kvs) (hS : SetP prog w s.heap D [x])
    (hx : x ∉ kvs.map (·.1)) (h1 : 1 ≤ kvs.length) (h4 : kvs.length ≤ 4)
    (h : ∀ h' tk, (∀ b o, b ≠ D → s.heap.get? b = some o → h'.get? b = some o) → SetP prog w h' D (x :: kvs.map (·.1)) → Q () { s with heap := h', toks := tk }) :
    wpAny (model prog w) A (setDisplayStar D (.ref d)) Q E s := by
  have hT : s.TypeIs (.ref d) "dict" := hd.typeIs
  obtain ⟨ep, hat⟩ := dict_eq_at hd
  unfold setDisplayStar
  dsimp only
  refine wpAny_bind (wpAny_isInstance hT sub_dict_set ?_)
  rw [if_neg (by decide)]
  refine wpAny_bind (wpAny_isInstance hT sub_dict_frozenset ?_)
  refine wpAny_bind (wpAny_askSetting ?_)
  dsimp only
  by_cases hb : (model prog w).w.params.followText "set-display-star-reads-storage" = true
  · rw [if_pos hb]
    dsimp only
    refine wpAny_bind (wpAny_pyIter_dict lo hat ?_)
    refine wpAny_bind (wpAny_runValue ?_)
    have hDl : D < s.heap.objs.size := hS.lt
    have hdl : d < s.heap.objs.size := hat.lt_size
    have hS' : SetP prog w (s.heap.push { cls := .type "dict_keyiterator", data := .fields #[.ref d, .int 0 0, .int kvs.length 0, .int ep 0] }) D [x] := hS.at fun o e => Heap.get?_push_of_some _ e
    refine upd_loop (ep := ep) (x := x) hA hx (by omega) hDd (Nat.ne_of_lt hDl) (Nat.ne_of_lt hdl) s (fun h' tk k1 hS1 => ?_) kvs.length 0 _ s.toks (Nat.zero_add _) (fun b o _ _ e => Heap.get?_push_of_some _ e) (hat.push _) ⟨_, Heap.get?_push_size _ rfl, rfl, rfl⟩ hS'
    refine wpAny_pure (h h' tk (fun b o hbD e => k1 b o hbD (Nat.ne_of_lt (Heap.lt_size e)) e) hS1)
  · rw [if_neg hb]
    dsimp only
    rw [if_neg (by decide)]
    refine wpAny_bind (wpAny_typeOf hT ?_)
    rw [if_pos (by decide)]
    obtain ⟨od, esd, hod, hcd, hdd, hkd, hpd, hnd⟩ := id hat
    have hlen : kvs.length = esd.size := by rw [← hpd.length]; simp
    refine wpAny_bind (wpAny_rule ?_)
    rw [if_neg (by rw [lo]; exact Bool.false_ne_true)]
    refine wpAny_bind (wpAny_dictEpoch hod hdd (wpAny_bind (wpAny_dictEntries hod hdd ?_)))
    refine wpAny_bind (room_for (n := esd.size) (by omega) (by omega) hS fun h1' hs1 hS1 => ?_)
    rw [Std.Legacy.Range.forIn_eq_forIn_range']
    simp only [Std.Legacy.Range.size, Nat.sub_zero, Nat.add_sub_cancel, Nat.div_one]
    refine wpAny_bind (wpAny_forIn_list _
      (fun rest _ s' => ∃ h' i, s' = { s with heap := h' } ∧ rest = List.range' i (esd.size - i) ∧ i ≤ esd.size ∧ SetP prog w h' D (x :: (kvs.map (·.1)).take i) ∧ h'.get? d = some od ∧ (∀ b o, b ≠ D → s.heap.get? b = some o → h'.get? b = some o))
      _ ?_ ?_ _ _ ⟨h1', 0, rfl, by simp, Nat.zero_le _, hS1, (hs1.2 d (Ne.symm hDd)).trans hod, fun b o hb e => hs1.extBut b o hb e⟩)
    · rintro y rest b s' ⟨h', i, rfl, hr, hi, hS', hod', hk'⟩
      have hlt : i < esd.size := by
        rcases Nat.lt_or_ge i esd.size with h | h
        · exact h
        · rw [Nat.sub_eq_zero_of_le h] at hr; simp at hr
      obtain ⟨rfl, hrest⟩ : y = i ∧ rest = List.range' (i + 1) (esd.size - (i + 1)) := by
        have e : esd.size - i = (esd.size - (i + 1)) + 1 := by omega
        rw [e, List.range'_succ] at hr
        injection hr with h1 h2
        exact ⟨h1, h2⟩
      refine wpAny_bind (wpAny_dictEntries hod' hdd ?_)
      rw [Array.getElem?_eq_getElem hlt]
      obtain ⟨kv, hkv⟩ : ∃ kv, kvs[y]? = some kv := ⟨kvs[y]'(by rw [hlen]; exact hlt), List.getElem?_eq_getElem _⟩
      obtain ⟨k, v⟩ := kv
      obtain ⟨hkey, hval⟩ := hpd.get? (e := esd[y]) (by simp [hlt]) hkv
      obtain ⟨k', hkey', hhash⟩ := hkd esd[y] (Array.getElem_mem hlt)
      obtain rfl : k' = k := (PySem.strKind prog w).inj _ _ _ hkey' hkey
      show wpAny _ _ (holding [esd[y].key] (setAddHashed D esd[y].key esd[y].hash >>= fun _ => pure ()) >>= _) _ _ _
      rw [hhash]
      refine wpAny_bind (wpAny_holding (wpAny_bind (add_hash hkey hS'.setOf (keys_fresh hnd hx hkv) (by rw [List.length_cons, List.length_take]; omega) fun b h'' hs'' hS'' => wpAny_pure ?_)))
      rw [take_snoc hkv] at hS''
      have hod'' : h''.get? d = some od := (hs''.2 d (Ne.symm hDd)).trans hod'
      refine wpAny_bind (wpAny_dictEpoch hod'' hdd ?_)
      rw [if_neg (by simp)]
      exact wpAny_pure ⟨h'', y + 1, rfl, hrest, hlt, hS'', hod'', fun b o hb e => hs''.extBut b o hb (hk' b o hb e)⟩
    · rintro b s' ⟨h', i, rfl, hr, hi, hS', hod', hk'⟩
      have hin : i = esd.size := by
        rcases Nat.lt_or_ge i esd.size with h | h
        · have e : esd.size - i = (esd.size - (i + 1)) + 1 := by omega
          rw [e, List.range'_succ] at hr; exact nomatch hr
        · exact Nat.le_antisymm hi h
      rw [hin, ← hlen, ← List.length_map (f := fun kv : Str × Value => kv.1), List.take_length] at hS'
      exact wpAny_pure (h h' s.toks hk' hS')
end
section
variable {prog : Program} {w : World} {A : Around} {E : Value → Shared → Prop} {s : Shared} {h₀ : Heap} {m : Str → Option Value} {news : List (Addr × Obj)}
theorem set_star {K : Frag} {env : Env} {tg at_ : Str} {k : Nat} {p1 p2 p3 pos : Pos} {d : Addr} {od : Obj} {kvs : List (Str × Value)} {x : Str} {t : Tok} {Q : Value → Shared → Prop} (hA : A.handled = none)
    (F : Fr h₀ env.locals s.heap m) (N : News h₀ env.locals s.heap news) (X : K.In h₀) (hc : kdsCode K env.code = true) (hk : env.scope.kind = .function) (k1 : env.kindOf tg = some .local) (k2 : env.kindOf at_ = some .local)
    (d1 : (tg == ("__debug__" : Str)) = false) (d2 : (at_ == ("__debug__" : Str)) = false) (m1 : m tg = some (.str x t)) (m2 : m at_ = some (.ref d)) (md : (d, od) ∈ news) (hd : od.IsDictOf (PySem.strKind prog w) kvs) (lo : (d == sysModules) = false)
    (hx : x ∉ kvs.map (·.1)) (h1 : 1 ≤ kvs.length) (h4 : kvs.length ≤ 4) (hroad : displayRoad k [.Name tg p1, .Starred (.Name at_ p2) p3] = .oneByOne)
    (h : ∀ D o h' tk, Fr h₀ env.locals h' m → News h₀ env.locals h' ((D, o) :: news) → (∀ p ∈ news, p.1 < D) → SetP prog w h' D (x :: kvs.map (·.1)) → Q (.ref D) { s with heap := h', toks := tk }) :
    wpAny (model prog w) A (eval (.Set [.Name tg p1, .Starred (.Name at_ p2) p3] k pos) env) Q E s := by
  rw [arm_eval_Set]
  refine wpAny_bind (wpAny_standAt (wpAny_bind (kds_main (X.keeps F.keep) hc fun b => ?_)))
  rw [hroad]
  unfold setDisplay
  dsimp only
  rw [if_neg (by decide)]
  refine wpAny_bind (wpAny_newSet_of (knd := PySem.strKind prog w) fun led hS0 => ?_)
  dsimp only
  have F1 : Fr h₀ env.locals (s.heap.push { cls := .type "set", dict := none, data := .set #[] 0 (.fresh 0 0 led) }) m := F.push _
  have N1 := News.push F N ({ cls := .type "set", dict := none, data := .set #[] 0 (.fresh 0 0 led) } : Obj) rfl
  have e1 : starEach [.Name tg p1, .Starred (.Name at_ p2) p3] env = [(false, eval (.Name tg p1) env), (true, eval (.Name at_ p2) env)] := rfl
  have e2 : (if 2 > 30 then 0 else ((List.findIdx? (fun x : Bool × Sem Value => x.1) [(false, do let v ← eval (.Name tg p1) env; standAt pos; pure v), (true, do let v ← eval (.Name at_ p2) env; standAt pos; pure v)]).getD 2)) = 1 := rfl
  rw [e1]
  simp only [List.map_cons, List.map_nil, List.length_cons, List.length_nil, Nat.zero_add, Nat.reduceAdd]
  rw [e2]
  simp only [List.take_succ_cons, List.take_zero, List.drop_succ_cons, List.drop_zero, List.map_cons, List.map_nil]
  have hD0 : ∀ p ∈ news, p.1 < s.heap.objs.size := fun p hp => Heap.lt_size (N p hp).1
  have aD := N1 _ (.head _)
  refine wpAny_bind (wpAny_holding (wpAny_bind (wpAny_evalAll_cons (wpAny_bind (wpAny_Name (wpAny_loadName_local hk k1 F1.ns m1 (wpAny_bind (wpAny_standAt (wpAny_pure (wpAny_evalAll_nil ?_))))) d1)))))
  refine wpAny_bind (wpAny_holding ?_)
  rw [List.forIn_cons]
  refine wpAny_bind (wpAny_bind (wpAny_bind (add_key (s := { s with heap := s.heap.push { cls := .type "set", dict := none, data := .set #[] 0 (.fresh 0 0 led) } }) (l := []) (strKind_is _ _ x t) (SetOf_congr hS0 (fun k => by simp [memS]) rfl) (by simp) (by decide) fun b h2 hs2 hS2 => ?_)))
  dsimp only
  refine wpAny_pure ?_
  dsimp only
  rw [List.forIn_nil]
  refine wpAny_pure ?_
  rw [if_neg (by decide)]
  refine wpAny_pure ?_
  have F2 : Fr h₀ env.locals h2 m := F1.change hs2 aD.2.1 aD.2.2
  have Nn : News h₀ env.locals h2 news := fun p hp => ⟨hs2.extBut _ _ (Nat.ne_of_lt (hD0 p hp)) (N1 p (.tail _ hp)).1, (N1 p (.tail _ hp)).2⟩
  rw [List.forIn_cons]
  refine wpAny_bind (wpAny_bind (wpAny_bind (wpAny_bind (wpAny_Name (wpAny_loadName_local hk k2 F2.ns m2 (wpAny_bind (wpAny_standAt (wpAny_pure ?_)))) d2))))
  rw [if_pos rfl]
  have hDd : s.heap.objs.size ≠ d := Nat.ne_of_gt (hD0 (d, od) md)
  refine wpAny_bind (wpAny_holding (disp_star (x := x) hA hDd lo (Heap.dictOf_iff.mpr ⟨od, (Nn _ md).1, hd⟩) hS2 hx h1 h4 fun h3 tk k3 hS3 => ?_))
  refine wpAny_pure ?_
  dsimp only
  rw [List.forIn_nil]
  refine wpAny_pure (wpAny_pure (wpAny_pure ?_))
  obtain ⟨o3, ho3, _⟩ := hS3.setOf.objOf
  have F3 : Fr h₀ env.locals h3 m := ⟨F2.ns.at' fun o e => k3 _ o (Ne.symm aD.2.1) e, fun b o e => k3 b o (fun q => by rw [q, aD.2.2] at e; cases e) (F2.keep b o e), F2.above⟩
  exact h _ o3 h3 tk F3 (List.forall_mem_cons.mpr ⟨⟨ho3, aD.2⟩, fun p hp => ⟨k3 _ _ (Nat.ne_of_lt (hD0 p hp)) (Nn p hp).1, (Nn p hp).2⟩⟩) hD0 hS3
end
end Mine
end

section
open PySem PySem.W PyProof.Rows PySem.Calls PySem.Spec
open Sem (wp)
namespace Mine
theorem owner_si : Manifest.owners.lookup (String.ofList ['r', 'o', 't', 'a', 'r', 'e', 't', 'i', '_', 't', 'e', 's'].reverse) = some Manifest.sig_set_iterator := by kernel_rfl
theorem slot_si_next : Slot "set_iterator" "__next__" "set_iterator.__next__" :=
  .of (owner := "set_iterator") (n := "__next__") (by rw [typeLookup_type, builtinLookup_eq_fast]; kernel_rfl) (by decide +kernel) (by decide +kernel) (by decide +kernel)
    (by first | exact .inl (by decide +kernel) | exact .inr (by decide +kernel)) (by rw [isSubtype_type]; kernel_rfl)
theorem entry_si_next : entryFor table "set_iterator.__next__" = some Builtin.«set_iterator.__next__» := entryFor_of_tree (by kernel_rfl)
theorem args_si_next (a : Value) : argsOk "set_iterator.__next__" ⟨[a], []⟩ := by
  unfold argsOk; rw [signature?_of (id := "set_iterator.__next__") (n := ['_', '_', 't', 'x', 'e', 'n', '_', '_']) (o := ['r', 'o', 't', 'a', 'r', 'e', 't', 'i', '_', 't', 'e', 's']) (by kernel_rfl) owner_si]; kernel_rfl
theorem entry_set_iter : entryFor table "set.__iter__" = some Builtin.«frozenset.__iter__» :=
  entryFor_alias (id' := "frozenset.__iter__") (by kernel_rfl) (by first | rfl | decide +kernel) (by decide +kernel) (by kernel_rfl)
theorem si_no_len : typeLookup (.type "set_iterator") "__len__" = pure none := am_miss_of_fast (by decide +kernel)
theorem si_hint : typeLookup (.type "set_iterator") "__length_hint__" = pure (some (.builtin "set_iterator.__length_hint__")) := by rw [typeLookup_type, builtinLookup_eq_fast]; kernel_rfl
abbrev siO (D : Addr) (n ep : Nat) (first : Value) (i : Nat) : Obj := { cls := .type "set_iterator", data := .fields #[first, rawInt i, .ref D, rawInt n, rawInt ep] }
section
variable {prog : Program} {w : World} {A : Around} {E : Value → Shared → Prop} {s : Shared} {I D P : Addr} {o : Obj} {es : Array (Int × Value)} {ep : Nat} {t : SetTable} {i : Nat}
theorem setNext_text {Q : Option (Value × Nat) → Shared → Prop} (hb : (model prog w).w.params.followText "set-order" = true) (hD : s.heap.get? D = some o) (hd : o.data = .set es ep t) (hf : t.fits es.size = true)
    (h : Q (((pickOrder (w.params.setOrder D ep) es)[i]?).map fun e => (e.2, 0)) s) : wpAny (model prog w) A (setNext D 0 i ep) Q E s := by
  unfold setNext
  refine wpAny_bind (wpAny_setState_of hD hd hf ?_)
  dsimp only
  unfold setsByText
  refine wpAny_bind (wpAny_bind (wpAny_askSetting (wpAny_pure ?_)))
  rw [if_pos hb, if_neg (by simp)]
  refine wpAny_bind ?_
  unfold setWalk setsByText
  refine wpAny_bind (wpAny_setState_of hD hd hf ?_)
  dsimp only
  refine wpAny_bind (wpAny_bind (wpAny_askSetting (wpAny_pure ?_)))
  rw [if_pos hb]
  exact wpAny_bind (wpAny_askSetting (wpAny_pure (wpAny_pure h)))
theorem si_stop {B : Around} {R : PySem.Fin → Shared → Prop} {n : Nat} {first : Value} (hB : B.handled = none) (hI : s.heap.get? I = some (siO D n ep first i)) (h : ∀ h' e, Heap.ExtBut I s.heap h' → (∃ o, h'.get? e = some o ∧ o.cls = .type "StopIteration") → E (.ref e) { s with heap := h' }) :
    wpAny (model prog w) B (do setField (.ref I) 2 .none; raiseNew (← newExc (.type "StopIteration") [])) R E s := by
  refine wpAny_bind (wpAny_setField hI rfl (by simp) ?_)
  show wpAny _ _ (newExc (.type "StopIteration") [] >>= _) _ _ _
  refine wpAny_bind ?_
  simp only [newExc, newTuple]
  refine wpAny_bind (wpAny_newObj_type ?_ (by size_fits))
  refine wpAny_bind (m := firstArgMember _ _) (wpAny_of_eq (a := Value.none) (by first | rfl | (simp only [firstArgMember]; rfl)) ?_)
  refine wpAny_newObj_type ?_ (by size_fits)
  simp only [raiseNew]
  refine wpAny_bind (wpAny_handled ?_)
  rw [hB]
  refine wpAny_bind (wpAny_pure (wpAny_throw ?_))
  exact h _ _ (((Heap.SameBut.update ..).extBut.push _).push _) ⟨_, Heap.get?_push_size _ rfl, rfl⟩
theorem next_text {Q : Option Value → Shared → Prop} (hA : A.handled = none) (hb : (model prog w).w.params.followText "set-order" = true) (hI : s.heap.get? I = some (siO D es.size ep (rawInt 0) i)) (hD : s.heap.get? D = some o) (hd : o.data = .set es ep t) (hf : t.fits es.size = true)
    (h1 : ∀ x, (pickOrder (w.params.setOrder D ep) es)[i]? = some x → ∀ h', h'.get? I = some (siO D es.size ep (rawInt 0) (i + 1)) → Heap.SameBut I s.heap h' → Q (some x.2) { s with heap := h' })
    (h2 : (pickOrder (w.params.setOrder D ep) es)[i]? = none → ∀ h', Heap.ExtBut I s.heap h' → Q none { s with heap := h' }) :
    wpAny (model prog w) A (pyNext (.ref I)) Q E s := by
  have hT : s.TypeIs (.ref I) "set_iterator" := ⟨_, hI, rfl⟩
  unfold pyNext
  refine wpAny_bind (wpAny_attempt (wpAny_callSpecial?_slot (name := Str.ofString "__next__") hT slot_si_next (wpAny_call_entry slot_si_next hT entry_si_next ?_ (args_si_next _))))
  unfold Builtin.«set_iterator.__next__»
  refine wpAny_bind (wpAny_of_eq (a := (Value.ref I, [])) rfl ?_)
  refine wpAny_bind (wpAny_fieldsOf hI rfl ?_)
  show wpAny _ _ (setEntries D >>= _) _ _ _
  refine wpAny_bind (wpAny_setEntries_of hD hd hf ?_)
  rw [if_neg (by simp)]
  show wpAny _ _ (setNext D 0 ((i : Int).toNat) ((ep : Int).toNat) >>= _) _ _ _
  rw [Int.toNat_natCast, Int.toNat_natCast]
  refine wpAny_bind (setNext_text hb hD hd hf ?_)
  cases hx : (pickOrder (w.params.setOrder D ep) es)[i]? with
  | some x =>
    dsimp only [Option.map]
    refine wpAny_bind (wpAny_setField hI rfl (by simp) (wpAny_bind (wpAny_setField (vs := #[rawInt 0, rawInt i, .ref D, rawInt es.size, rawInt ep]) (Heap.get?_update_self _ hI rfl) ?_ (by simp) ?_)))
    · rw [Obj.data_mapFields rfl]; rfl
    refine wpAny_pure ⟨_, rfl, wpAny_pure (h1 x hx _ ?_ ((Heap.SameBut.update ..).trans (Heap.SameBut.update ..)))⟩
    have e1 := Heap.get?_update_self (h := s.heap) (fun o => Obj.mapFields (fun vs => vs.setIfInBounds 0 (rawInt 0)) o) hI rfl
    have e2 := Heap.get?_update_self (fun o => Obj.mapFields (fun vs => vs.setIfInBounds 1 (rawInt ((i : Int) + 1))) o) e1 rfl
    exact e2
  | none =>
    dsimp only [Option.map]
    refine si_stop (show A.in1.handled = none from hA) hI fun h' e hk he => ?_
    obtain ⟨o', ho', hc'⟩ := he
    exact wpAny_bind (wpAny_isInstance (T := "StopIteration") (b := true) ⟨o', ho', hc'⟩ isSubtype_stop (wpAny_pure (h2 hx h' hk)))
abbrev plO (ps : List Nat) : Obj := { cls := .type "tuple", data := .seq (ps.map fun (i : Nat) => rawInt (i : Int)).toArray 0 }
theorem next_drawn {ps : List Nat} {Q : Option Value → Shared → Prop} (hA : A.handled = none) (hP : s.heap.get? P = some (plO ps)) (hI : s.heap.get? I = some (siO D es.size ep (.ref P) i)) (hD : s.heap.get? D = some o) (hd : o.data = .set es ep t) (hf : t.fits es.size = true)
    (h1 : ∀ p, ps[i]? = some p → ∃ x, es[p]? = some x ∧ ∀ h', h'.get? I = some (siO D es.size ep (.ref P) (i + 1)) → Heap.SameBut I s.heap h' → Q (some x.2) { s with heap := h' })
    (h2 : ps[i]? = none → ∀ h', Heap.ExtBut I s.heap h' → Q none { s with heap := h' }) :
    wpAny (model prog w) A (pyNext (.ref I)) Q E s := by
  have hT : s.TypeIs (.ref I) "set_iterator" := ⟨_, hI, rfl⟩
  unfold pyNext
  refine wpAny_bind (wpAny_attempt (wpAny_callSpecial?_slot (name := Str.ofString "__next__") hT slot_si_next (wpAny_call_entry slot_si_next hT entry_si_next ?_ (args_si_next _))))
  unfold Builtin.«set_iterator.__next__»
  refine wpAny_bind (wpAny_of_eq (a := (Value.ref I, [])) rfl ?_)
  refine wpAny_bind (wpAny_fieldsOf hI rfl ?_)
  show wpAny _ _ (setEntries D >>= _) _ _ _
  refine wpAny_bind (wpAny_setEntries_of hD hd hf ?_)
  rw [if_neg (by simp)]
  show wpAny _ _ (seqItems? (.ref P) >>= _) _ _ _
  refine wpAny_bind (wpAny_seqItems hP rfl ?_)
  dsimp only
  rw [Int.toNat_natCast, List.getElem?_toArray, List.getElem?_map]
  cases hx : ps[i]? with
  | some p =>
    obtain ⟨x, hxe, hq⟩ := h1 p hx
    show wpAny _ _ (setNextDrawn D ((p : Int).toNat) ((ep : Int).toNat) >>= _) _ _ _
    rw [Int.toNat_natCast, Int.toNat_natCast]
    unfold setNextDrawn
    refine wpAny_bind (wpAny_bind (wpAny_setState_of hD hd hf ?_))
    dsimp only
    rw [if_neg (by simp), hxe]
    refine wpAny_pure (wpAny_bind (wpAny_setField hI rfl (by simp) ?_))
    have e2 := Heap.get?_update_self (h := s.heap) (fun o => Obj.mapFields (fun vs => vs.setIfInBounds 1 (rawInt ((i : Int) + 1))) o) hI rfl
    exact wpAny_pure ⟨_, rfl, wpAny_pure (hq _ e2 (Heap.SameBut.update ..))⟩
  | none =>
    show wpAny _ _ (setField (.ref I) 0 (rawInt 0) >>= _) _ _ _
    refine wpAny_bind (wpAny_setField hI rfl (by simp) ?_)
    have e1 := Heap.get?_update_self (h := s.heap) (fun o => Obj.mapFields (fun vs => vs.setIfInBounds 0 (rawInt 0)) o) hI rfl
    refine si_stop (I := I) (D := D) (n := es.size) (ep := ep) (first := rawInt 0) (i := i) (show A.in1.handled = none from hA) e1 fun h' e hk he => ?_
    obtain ⟨o', ho', hc'⟩ := he
    exact wpAny_bind (wpAny_isInstance (T := "StopIteration") (b := true) ⟨o', ho', hc'⟩ isSubtype_stop (wpAny_pure (h2 hx h' fun b o hb e => hk b o hb ((Heap.SameBut.update s.heap I _).extBut b o hb e))))
end
theorem perm_of_sub : ∀ {l y : List Str}, l.Nodup → (∀ k ∈ l, k ∈ y) → y.length = l.length → y.Perm l
  | [], y, _, _, hl => by rw [List.length_eq_zero_iff.mp hl]
  | a :: l, y, hn, hs, hl => by
    have ha : a ∈ y := hs a (.head _)
    have hp := List.perm_cons_erase ha
    refine hp.trans (List.Perm.cons a (perm_of_sub (List.nodup_cons.mp hn).2 (fun k hk => ?_) ?_))
    · have hne : k ≠ a := fun e => (List.nodup_cons.mp hn).1 (e ▸ hk)
      exact (List.mem_erase_of_ne hne).mpr (hs k (.tail _ hk))
    · rw [List.length_erase_of_mem ha, hl]; rfl
def txtOf : Value → Str
  | .str x _ => x
  | _ => Str.empty
theorem strs_txt : ∀ {vs : List Value}, (∀ v ∈ vs, ∃ x t, v = .str x t) → StrsAre vs (vs.map txtOf)
  | [], _ => .nil
  | v :: vs, h => by
    obtain ⟨x, t, rfl⟩ := h v (.head _)
    exact .cons x t (strs_txt fun u hu => h u (.tail _ hu))
theorem erase_perm {α : Type} : ∀ (l : List α) (i : Nat) (h : i < l.length), (l[i] :: l.eraseIdx i).Perm l
  | x :: l, 0, _ => List.Perm.refl _
  | x :: l, i + 1, h => by
    show (l[i]'(by simpa using h) :: x :: l.eraseIdx i).Perm (x :: l)
    exact (List.Perm.swap _ _ _).trans (List.Perm.cons x (erase_perm l i (by simpa using h)))
theorem pick_go {α : Type} (next : Nat → Nat) : ∀ (f k : Nat) (l : List α) (out : Array α), f = l.length → (pickOrder.go next f k l out).toList.Perm (out.toList ++ l)
  | 0, k, l, out, h => by
    rw [List.length_eq_zero_iff.mp h.symm]
    unfold pickOrder.go
    simp
  | f + 1, k, l, out, h => by
    unfold pickOrder.go
    have hpos : 0 < l.length := by omega
    have hi : next k % l.length < l.length := Nat.mod_lt _ hpos
    rw [List.getElem?_eq_getElem hi]
    dsimp only
    refine (pick_go next f (k + 1) (l.eraseIdx (next k % l.length)) (out.push l[next k % l.length]) (by rw [List.length_eraseIdx_of_lt hi]; omega)).trans ?_
    rw [Array.toList_push, List.append_assoc]
    exact List.Perm.append_left _ (erase_perm l _ hi)
theorem pick_perm {α : Type} (next : Nat → Nat) (xs : Array α) : (pickOrder next xs).toList.Perm xs.toList := by
  unfold pickOrder
  simpa using pick_go next xs.size 0 xs.toList #[] (by simp)
section
variable {prog : Program} {w : World} {A : Around} {E : Value → Shared → Prop}
theorem choose_any {src : Source} {n : Nat} {s : Shared} {Q : Nat → Shared → Prop} (hn : n ≠ 0) (h : ∀ i dr, i < n → Q i { s with drawn := dr }) : wpAny (model prog w) A (choose src n) Q E s := fun Γ p hΓ =>
  ⟨hn, h _ _ (Nat.mod_lt _ (Nat.pos_of_ne_zero hn))⟩
theorem draw_perm {α : Type} : ∀ (n : Nat) (xs : List α) (s : Shared) (Q : List α → Shared → Prop), xs.length = n → (∀ ys dr, ys.Perm xs → Q ys { s with drawn := dr }) → wpAny (model prog w) A (drawOrder n xs) Q E s
  | 0, xs, s, Q, hl, h => by
    unfold drawOrder
    exact wpAny_pure (h [] s.drawn (by rw [List.length_eq_zero_iff.mp hl]))
  | n + 1, [], s, Q, hl, h => by simp at hl
  | n + 1, x :: xs, s, Q, hl, h => by
    unfold drawOrder
    refine wpAny_bind (choose_any (by simp) fun i dr hi => ?_)
    rw [List.getElem?_eq_getElem hi]
    dsimp only
    refine wpAny_bind (draw_perm n ((x :: xs).eraseIdx i) _ _ (by rw [List.length_eraseIdx_of_lt hi]; omega) fun ys dr' hp => ?_)
    exact wpAny_pure (h _ dr' ((List.Perm.cons _ hp).trans (erase_perm _ i hi)))
end
section
variable {prog : Program} {w : World} {A : Around} {E : Value → Shared → Prop} {s : Shared} {I D S : Addr} {ord : List Value} {i : Nat}
inductive SIt (prog : Program) (w : World) (h : Heap) (I D : Addr) (ord : List Value) (i : Nat) : Prop
  | mk (o : Obj) (es : Array (Int × Value)) (ep : Nat) (t : SetTable) (e0 : h.get? D = some o) (e1 : o.data = .set es ep t) (e2 : t.fits es.size = true) (e3 : (((model prog w).w.params.followText "set-order" = true ∧ h.get? I = some (siO D es.size ep (rawInt 0) i) ∧ ord = (pickOrder (w.params.setOrder D ep) es).toList.map (·.2)) ∨
     (∃ P ps, P ≠ I ∧ h.get? P = some (plO ps) ∧ h.get? I = some (siO D es.size ep (.ref P) i) ∧ (∀ p ∈ ps, p < es.size) ∧ ord = ps.map fun p => ((es[p]?).map (·.2)).getD .none))) : SIt prog w h I D ord i
theorem SIt.at {h h' : Heap} (x : SIt prog w h I D ord i) (S : Addr) (hk : ∀ b o, b ≠ S → h.get? b = some o → h'.get? b = some o) (hI : I ≠ S) (hD : D ≠ S) (hP : ∀ P, h.get? P = some (listOf #[] 0) → True) (hS : ∀ ps, h.get? S ≠ some (plO ps)) : SIt prog w h' I D ord i := by
  obtain ⟨o, es, ep, t, e1, e2, e3, x⟩ := x
  refine ⟨o, es, ep, t, hk _ _ hD e1, e2, e3, ?_⟩
  rcases x with ⟨a1, a2, a3⟩ | ⟨P, ps, b1, b2, b3, b4⟩
  · exact .inl ⟨a1, hk _ _ hI a2, a3⟩
  · exact .inr ⟨P, ps, b1, hk _ _ (fun q => hS ps (q ▸ b2)) b2, hk _ _ hI b3, b4⟩
theorem sit_next {Q : Option Value → Shared → Prop} (hA : A.handled = none) (hDI : D ≠ I) (x : SIt prog w s.heap I D ord i)
    (h1 : ∀ v, ord[i]? = some v → ∀ h', Heap.SameBut I s.heap h' → SIt prog w h' I D ord (i + 1) → Q (some v) { s with heap := h' }) (h2 : ord[i]? = none → ∀ h', Heap.ExtBut I s.heap h' → Q none { s with heap := h' }) :
    wpAny (model prog w) A (pyNext (.ref I)) Q E s := by
  obtain ⟨o, es, ep, t, e1, e2, e3, x⟩ := x
  rcases x with ⟨a1, a2, rfl⟩ | ⟨P, ps, b1, b2, b3, b4, rfl⟩
  · refine next_text hA a1 a2 e1 e2 e3 (fun x hx h' hI' hs => ?_) (fun hx h' hk => h2 ?_ h' hk)
    · refine h1 x.2 ?_ h' hs ⟨o, es, ep, t, hs.extBut _ _ hDI e1, e2, e3, .inl ⟨a1, hI', rfl⟩⟩
      rw [List.getElem?_map, Array.getElem?_toList, hx]; rfl
    · rw [List.getElem?_map, Array.getElem?_toList, hx]; rfl
  · refine next_drawn hA b2 b3 e1 e2 e3 (fun p hp => ?_) (fun hx h' hk => h2 ?_ h' hk)
    · have hlt := b4 p (List.mem_of_getElem? hp)
      refine ⟨es[p], Array.getElem?_eq_getElem hlt, fun h' hI' hs => h1 _ ?_ h' hs ⟨o, es, ep, t, hs.extBut _ _ hDI e1, e2, e3, .inr ⟨P, ps, b1, hs.extBut _ _ b1 b2, hI', b4, rfl⟩⟩⟩
      rw [List.getElem?_map, hp, Option.map_some, Array.getElem?_eq_getElem hlt]; rfl
    · rw [List.getElem?_map, hx]; rfl
theorem ext_loop {R : Result → Shared → Prop} {res : Value} (hA : A.handled = none) (hDI : D ≠ I) (hSI : S ≠ I) (hDS : D ≠ S) (hn : ord.length < 100) (st : Shared)
    (h : ∀ h' tk c, (∀ b o, b ≠ S → b ≠ I → st.heap.get? b = some o → h'.get? b = some o) → h'.get? S = some (listOf ord.toArray c) → R (.ok (.ret res)) { st with heap := h', toks := tk }) :
    ∀ (j i : Nat) (h' : Heap) (tk c : Nat), i + j = ord.length → (∀ b o, b ≠ S → b ≠ I → st.heap.get? b = some o → h'.get? b = some o) → SIt prog w h' I D ord i → h'.get? S = some (listOf (ord.take i).toArray c) →
      codeAny (model prog w) A (.builtin "list.extend.loop" ⟨[.ref S, .ref I, res], []⟩) R { st with heap := h', toks := tk } := by
  intro j
  induction j with
  | zero =>
    intro i h' tk c hi hk hit hS
    have hi : i = ord.length := by omega
    subst hi
    rw [List.take_length] at hS
    refine codeAny_builtin PySem.F.entry_extend_loop ?_
    rw [Around.under_plainId PySem.F.plain_extend_loop _]
    show wpAny _ A.in1 (pyNext (.ref I) >>= _) _ _ { st with heap := h', toks := tk }
    refine wpAny_bind (sit_next (show A.in1.handled = none from hA) hDI hit (fun v hv => by simp at hv) fun _ h2 he => ?_)
    exact wpAny_pure (h h2 tk c (fun b o h1 h2' e => he b o h2' (hk b o h1 h2' e)) (he _ _ hSI hS))
  | succ j ih =>
    intro i h' tk c hi hk hit hS
    have hlt : i < ord.length := by omega
    refine codeAny_builtin PySem.F.entry_extend_loop ?_
    rw [Around.under_plainId PySem.F.plain_extend_loop _]
    show wpAny _ A.in1 (pyNext (.ref I) >>= _) _ _ { st with heap := h', toks := tk }
    refine wpAny_bind (sit_next (show A.in1.handled = none from hA) hDI hit (fun v hv h2 hs2 hit2 => ?_) fun hn => by simp at hn; omega)
    have hS2 : h2.get? S = some (listOf (ord.take i).toArray c) := (hs2.2 S hSI).trans hS
    show wpAny _ A.in1 (updateSeq S (·.push v) >>= _) _ _ _
    refine wpAny_bind (wpAny_updateSeq hS2 rfl (wpAny_pure ⟨plainId_quiet PySem.F.plain_extend_loop _, ?_⟩) (by rw [List.size_toArray, List.length_take, sizeLine_eq]; omega) (by show ((ord.take i).toArray.push v).size ≤ sizeLine + 1; rw [Array.size_push, List.size_toArray, List.length_take, sizeLine_eq]; omega))
    obtain ⟨c', e⟩ : ∃ c', (h2.update S (Obj.mapSeq (·.push v))).get? S = some (listOf ((ord.take i).toArray.push v) c') := ⟨_, Heap.get?_update_self (Obj.mapSeq (·.push v)) hS2 rfl⟩
    have oth : ∀ b o, b ≠ S → h2.get? b = some o → (h2.update S (Obj.mapSeq (·.push v))).get? b = some o := fun b o hb q => (Heap.get?_update_other _ _ (Ne.symm hb)).trans q
    have ea : (ord.take i).toArray.push v = (ord.take (i + 1)).toArray := by rw [List.take_add_one, hv]; simp
    refine ih (i + 1) _ tk c' (by omega) (fun b o h1 h2' q => oth b o h1 (hs2.extBut b o h2' (hk b o h1 h2' q))) (hit2.at S oth (Ne.symm hSI) hDS (fun _ _ => trivial) fun ps q => ?_) ?_
    · rw [hS2] at q
      have := congrArg (fun o : Option Obj => o.map (·.cls)) q
      simp at this
    · rw [← ea]; exact e
theorem set_len_slot : typeLookup (.type "set") "__len__" = pure (some (.builtin "set.__len__")) := by rw [typeLookup_type, builtinLookup_eq_fast]; kernel_rfl
theorem hint_set {Q : Bool → Shared → Prop} (hT : s.TypeIs (.ref D) "set") (h : Q false s) : wpAny (model prog w) A (Builtin.List.listLengthHint (.ref D)) Q E s := by
  unfold Builtin.List.listLengthHint
  refine wpAny_bind (wpAny_specialOf hT set_len_slot ?_)
  generalize hid : ("set.__len__" : String) = id0
  wp_delta
  rw [show splitId id0 = some ("set", "__len__") from by subst hid; decide +kernel]
  subst hid
  refine wpAny_bind (wpAny_isInstance (T := "set") (b := true) hT (by rw [isSubtype_type]; kernel_rfl) ?_)
  refine wpAny_ite_split (fun hab => absurd hab (by decide)) (fun _ => ?_)
  refine wpAny_ite_split (fun _ => ?_) (fun hab => absurd (by decide +kernel) hab)
  refine wpAny_bind (wpAny_typeOf hT ?_)
  exact wpAny_pure h
theorem set_iter {l : List Str} {Q : Value → Shared → Prop} (hn : l.Nodup) (h2 : 2 ≤ l.length) (hS : SetP prog w s.heap D l)
    (h : ∀ I h' ord dr, (∀ b o, s.heap.get? b = some o → h'.get? b = some o) → s.heap.objs.size ≤ I → SIt prog w h' I D ord 0 → (ord.map txtOf).Perm l → StrsAre ord (ord.map txtOf) → Q (.ref I) { s with heap := h', drawn := dr }) :
    wpAny (model prog w) A (pyIter (.ref D)) Q E s := by
  obtain ⟨o, es, ep, t, ho, hex, hd, hel, hmem, hb, hf, hl, hp⟩ := id hS
  have hT : s.TypeIs (.ref D) "set" := hS.setOf.typeIs
  have isS : ∀ v ∈ es.toList.map (·.2), ∃ x t, v = .str x t := fun v hv => by
    obtain ⟨e, he, rfl⟩ := List.mem_map.mp hv
    obtain ⟨k, hk⟩ := hel.keys e he
    obtain ⟨t, e2⟩ := Value.isStrOf_shape hk
    exact ⟨k, t, e2⟩
  have perm0 : ((es.toList.map (·.2)).map txtOf).Perm l := by
    refine perm_of_sub hn (fun k hk => ?_) (by simp [hl])
    obtain ⟨e, he, hke⟩ := (hmem k).mp (decide_eq_true hk)
    obtain ⟨t, e2⟩ := Value.isStrOf_shape hke
    exact List.mem_map.mpr ⟨e.2, List.mem_map.mpr ⟨e, he, rfl⟩, by rw [e2]; rfl⟩
  have fin : ∀ ord : List Value, ord.Perm (es.toList.map (·.2)) → (ord.map txtOf).Perm l ∧ StrsAre ord (ord.map txtOf) := fun ord hp => ⟨(hp.map txtOf).trans perm0, strs_txt fun v hv => isS v (hp.mem_iff.mp hv)⟩
  refine wpAny_pyIter_slot hT F.slot_set_iter (wpAny_call_entry F.slot_set_iter hT entry_set_iter ?_ (F.args_set_iter_1 _))
  unfold Builtin.«frozenset.__iter__»
  refine wpAny_bind (wpAny_of_eq (a := D) rfl ?_)
  refine wpAny_bind ?_
  unfold Builtin.Frozenset.sizeOf
  refine wpAny_bind (wpAny_setEntries_of ho hd hf (wpAny_pure ?_))
  refine wpAny_bind ?_
  unfold setDrawn
  refine wpAny_bind (wpAny_setState_of ho hd hf ?_)
  dsimp only
  unfold setsByText
  refine wpAny_bind (wpAny_bind (wpAny_askSetting (wpAny_pure ?_)))
  have hlt : D < s.heap.objs.size := Heap.lt_size ho
  by_cases hbt : (model prog w).w.params.followText "set-order" = true
  · rw [show ({ program := (model prog w).prog, params := (model prog w).w.params } : Setting).params.followText "set-order" = true from hbt]
    refine wpAny_pure ?_
    rw [if_neg (by simp)]
    refine wpAny_bind (wpAny_pure (wpAny_bind (wpAny_setEpoch_of ho hd hf (wpAny_bind ?_))))
    refine wpAny_newObj_type ?_ (by size_fits)
    refine wpAny_pure ⟨_, rfl, "set_iterator", _, ⟨_, Heap.get?_push_size _ rfl, rfl⟩, slot_si_next.lookup, ?_⟩
    obtain ⟨p1, p2⟩ := fin _ ((pick_perm (w.params.setOrder D ep) es).map (·.2))
    exact h _ _ _ s.drawn (fun b o e => Heap.get?_push_of_some _ e) (Nat.le_refl _) ⟨o, es, ep, t, Heap.get?_push_of_some _ ho, hd, hf, .inl ⟨hbt, Heap.get?_push_size _ rfl, rfl⟩⟩ p1 p2
  · have hbf : (model prog w).w.params.followText "set-order" = false := by simpa using hbt
    rw [show ({ program := (model prog w).prog, params := (model prog w).w.params } : Setting).params.followText "set-order" = false from hbf]
    refine wpAny_pure ?_
    have hdr : (true && (!t.plain && decide (es.size > 1))) = true := by rw [hp, hl]; simp; omega
    refine wpAny_ite_split (fun _ => ?_) (fun hc => absurd hdr hc)
    refine wpAny_bind (draw_perm es.size (List.range es.size) _ _ (by simp) fun ps dr hps => ?_)
    have hpsl : ps.length = es.size := by rw [hps.length_eq]; simp
    refine wpAny_bind (wpAny_newTuple (s := { s with drawn := dr }) ?_ (by rw [List.length_map, hpsl]; exact fits_of_scanBound hb))
    have hD1 : (s.heap.push (plO ps)).get? D = some o := Heap.get?_push_of_some _ ho
    refine wpAny_bind (wpAny_setEpoch_of (s := { s with heap := s.heap.push (plO ps), drawn := dr }) hD1 hd hf (wpAny_bind ?_))
    refine wpAny_newObj_type ?_ (by size_fits)
    refine wpAny_pure ⟨_, rfl, "set_iterator", _, ⟨_, Heap.get?_push_size _ rfl, rfl⟩, slot_si_next.lookup, ?_⟩
    have hpp : (ps.map fun p => ((es[p]?).map (·.2)).getD Value.none).Perm (es.toList.map (·.2)) := by
      refine (hps.map _).trans ?_
      have : (List.range es.size).map (fun p => ((es[p]?).map (·.2)).getD Value.none) = es.toList.map (·.2) := by
        apply List.ext_getElem (by simp)
        intro i h1 h2
        simp at h1
        simp [h1]
      rw [this]
    obtain ⟨p1, p2⟩ := fin _ hpp
    have hP1 : ((s.heap.push (plO ps)).push (siO D es.size ep (.ref s.heap.objs.size) 0)).get? s.heap.objs.size = some (plO ps) := Heap.get?_push_of_some _ (Heap.get?_push_size _ rfl)
    refine h _ _ _ dr (fun b o e => Heap.get?_push_of_some _ (Heap.get?_push_of_some _ e)) (by show s.heap.objs.size ≤ (s.heap.push (plO ps)).objs.size; rw [Heap.size_push]; exact Nat.le_succ _) ⟨o, es, ep, t, Heap.get?_push_of_some _ hD1, hd, hf, .inr ⟨s.heap.objs.size, ps, ?_, hP1, Heap.get?_push_size _ rfl, fun p hp => by simpa using hps.mem_iff.mp hp, rfl⟩⟩ p1 p2
    show s.heap.objs.size ≠ (s.heap.push (plO ps)).objs.size
    rw [Heap.size_push]; exact Nat.ne_of_lt (Nat.lt_succ_self _)
end
end Mine
end

section
open PySem PySem.W PyProof.Rows PySem.Calls PySem.Spec
open Sem (wp)
namespace Mine
section
variable {prog : Program} {w : World} {A : Around} {E : Value → Shared → Prop} {s : Shared} {D S : Addr}
theorem extend_set {R : Result → Shared → Prop} {res : Value} {l : List Str} (hA : A.handled = none) (hn : l.Nodup) (h2 : 2 ≤ l.length) (h9 : l.length < 100) (hS : SetP prog w s.heap D l) (hDS : D ≠ S) (hL : s.heap.get? S = some (listOf #[] 0))
    (h : ∀ h' tk dr c ord, (∀ b o, b ≠ S → s.heap.get? b = some o → h'.get? b = some o) → h'.get? S = some (listOf ord.toArray c) → (ord.map txtOf).Perm l → StrsAre ord (ord.map txtOf) → R (.ok (.ret res)) { s with heap := h', toks := tk, drawn := dr }) :
    wpAny (model prog w) A.in1 (Builtin.List.listExtendWith (.ref S) (.ref D) res)
      (fun fin s' => match fin with | .done f => R (.ok f) s' | .again c' => c'.quiet = true ∧ codeAny (model prog w) A c' R s') (fun e s' => R (.error e) s') s := by
  have hT : s.TypeIs (.ref D) "set" := hS.setOf.typeIs
  unfold Builtin.List.listExtendWith
  refine wpAny_bind (wpAny_typeOf hT ?_)
  have h1 : Builtin.List.listSameRef (.ref S) (.ref D) = false := by simp [Builtin.List.listSameRef, hDS.symm]
  have h3 : (Value.type "set" == Value.type "list") = false := by decide
  have h4 : (Value.type "set" == Value.type "tuple") = false := by decide
  simp only [h1, h3, h4, Bool.or_false, Bool.false_eq_true, if_false]
  refine wpAny_bind (set_iter hn h2 hS fun I h1 ord dr hk hI hit hp hst => ?_)
  have hSI : S ≠ I := Nat.ne_of_lt (Nat.lt_of_lt_of_le (Heap.lt_size hL) hI)
  have hDI : D ≠ I := Nat.ne_of_lt (Nat.lt_of_lt_of_le hS.lt hI)
  have hlen : ord.length < 100 := by
    have := hp.length_eq
    rw [List.length_map] at this
    omega
  have hL1 := hk _ _ hL
  obtain ⟨od, hod, hcd⟩ := hT
  have fin : ∀ (h2 : Heap) (c : Nat), h2.get? S = some (listOf #[] c) → (∀ b o, b ≠ S → h1.get? b = some o → h2.get? b = some o) → codeAny (model prog w) A (.builtin "list.extend.loop" ⟨[.ref S, .ref I, res], []⟩) R { s with heap := h2, drawn := dr } := by
    intro h2 c hc ho
    refine ext_loop (res := res) hA hDI hSI hDS hlen { s with heap := h2, drawn := dr } (fun h3 tk c3 hk3 hS3 => ?_) ord.length 0 h2 s.toks c (by omega) (fun b o _ _ e => e) (hit.at S ho (Ne.symm hSI) hDS (fun _ _ => trivial) fun ps q => ?_) hc
    · exact h h3 tk dr c3 ord (fun b o hb e => hk3 b o hb (Nat.ne_of_lt (Nat.lt_of_lt_of_le (Heap.lt_size e) hI)) (ho b o hb (hk b o e))) hS3 hp hst
    · rw [hL1] at q
      have := congrArg (fun o : Option Obj => o.map (·.cls)) q
      simp at this
  refine wpAny_bind (wpAny_holding (hint_set ⟨_, hk _ _ hod, hcd⟩ ?_))
  refine wpAny_ite_split (fun _ => ?_) (fun _ => wpAny_pure ⟨plainId_quiet PySem.F.plain_extend_loop _, fin h1 0 hL1 fun b o _ e => e⟩)
  refine wpAny_bind (wpAny_rule ?_)
  refine wpAny_bind ?_
  show wpAny _ _ (updateSeq S (·.push .none) >>= fun _ => updateSeq S (·.pop)) _ _ _
  refine wpAny_bind (wpAny_updateSeq hL1 rfl ?_)
  have hS₂ := Heap.get?_update_self (Obj.mapSeq (·.push Value.none)) hL1 rfl
  refine wpAny_updateSeq (hz := by seq_fits) hS₂ rfl ?_
  have hS₃ := Heap.get?_update_self (Obj.mapSeq (·.pop)) hS₂ rfl
  refine wpAny_pure ⟨plainId_quiet PySem.F.plain_extend_loop _, fin _ _ hS₃ fun b o hb e => ?_⟩
  exact (Heap.get?_update_other _ _ (Ne.symm hb)).trans ((Heap.get?_update_other _ _ (Ne.symm hb)).trans e)
theorem collect_set {l : List Str} {R : List Value → Shared → Prop} (hA : A.handled = none) (hn : l.Nodup) (h2 : 2 ≤ l.length) (h9 : l.length < 100) (hS : SetP prog w s.heap D l)
    (h : ∀ h' tk dr ord, (∀ b o, s.heap.get? b = some o → h'.get? b = some o) → (ord.map txtOf).Perm l → StrsAre ord (ord.map txtOf) → R ord { s with heap := h', toks := tk, drawn := dr }) :
    wpAny (model prog w) A (collect (.ref D)) R E s := by
  unfold collect
  refine wpAny_bind (wpAny_runValue (codeAny_builtin entry_proto_collect' ?_))
  rw [Around.under_plainId PySem.F.plain_proto_collect _]
  show wpAny _ A.in1 (newList [] >>= fun l => again (.builtin "list.__iadd__" ⟨[l, .ref D], []⟩)) _ _ s
  refine wpAny_bind (wpAny_newObj_type ?_)
  refine wpAny_pure ⟨plainId_quiet PySem.F.plain_list_iadd _, codeAny_builtin entry_list_iadd' ?_⟩
  rw [Around.under_plainId PySem.F.plain_list_iadd _]
  show wpAny _ A.in1 (Builtin.List.listExtendWith (.ref s.heap.objs.size) (.ref D) (.ref s.heap.objs.size)) _ _ _
  have hlt := hS.lt
  have key := extend_set (prog := prog) (w := w) (A := A) (s := { s with heap := s.heap.push { cls := .type "list", data := .seq ([] : List Value).toArray } }) (D := D) (S := s.heap.objs.size) (l := l) (res := .ref s.heap.objs.size)
    (R := fun (q : Result) (s' : Shared) => ∃ (h' : Heap) (tk : Nat) (dr : _) (c : Nat) (ord : List Value), q = .ok (.ret (.ref s.heap.objs.size)) ∧ s' = { s with heap := h', toks := tk, drawn := dr } ∧ (∀ b o, s.heap.get? b = some o → h'.get? b = some o) ∧
      h'.get? s.heap.objs.size = some (listOf ord.toArray c) ∧ (ord.map txtOf).Perm l ∧ StrsAre ord (ord.map txtOf))
    hA hn h2 h9 (hS.at fun o e => Heap.get?_push_of_some _ e) (Nat.ne_of_lt hlt) (Heap.get?_push_size _ rfl)
    (fun h' tk dr c ord hk hS' hp hst => ⟨h', tk, dr, c, ord, rfl, rfl, fun b o e => hk b o (Nat.ne_of_lt (Heap.lt_size e)) (Heap.get?_push_of_some _ e), hS', hp, hst⟩)
  refine wpAny_mono key (fun fin s' x => ?_) fun e s' x => ?_
  · cases fin with
    | done f =>
      obtain ⟨h', tk, dr, c, ord, e, rfl, hk, hS', hp, hst⟩ := x
      cases e
      show wpAny _ A (load s.heap.objs.size >>= _) _ _ _
      refine wpAny_bind (wpAny_load hS' ?_)
      exact wpAny_pure (h h' tk dr ord hk hp hst)
    | again c₁ =>
      refine ⟨x.1, codeAny_mono x.2 fun q s₂ y => ?_⟩
      obtain ⟨h', tk, dr, c, ord, rfl, rfl, hk, hS', hp, hst⟩ := y
      show wpAny _ A (load s.heap.objs.size >>= _) _ _ _
      refine wpAny_bind (wpAny_load hS' ?_)
      exact wpAny_pure (h h' tk dr ord hk hp hst)
  · obtain ⟨_, _, _, _, _, e', _⟩ := x
    cases e'
end
end Mine
end

section
open PySem PySem.W PyProof.Rows PySem.Calls PySem.Spec
open AutoSeq1 (wpAny_loadPart')
open Sem (wp)
namespace Mine

theorem lt_loop1 (l b : Addr) (v u : Value) (n n2 : Nat) : Meets (Builtin.«list.__eq__.loop» ⟨[.ref l, .ref b, rawInt 1, rawInt 0], []⟩)
    (fun A R s => s.heap.get? l = some (listOf #[v] n) ∧ s.heap.get? b = some (listOf #[u] n2) ∧ R (.ok (.ret (.bool false))) s) := by
  intro prog w A R s h
  obtain ⟨hp, g, d, tk, os⟩ := s; obtain ⟨hl, hb, h⟩ := h
  wp_walk using wpAny_loadPart' hl, wpAny_loadPart' hb
  exact h
theorem lt_loop0 (l b : Addr) (x y : Str) (t1 t2 : Tok) (n n2 : Nat) : Meets (Builtin.«list.__eq__.loop» ⟨[.ref l, .ref b, rawInt 0, rawInt 0], []⟩)
    (fun A R s => s.heap.get? l = some (listOf #[.str x t1] n) ∧ s.heap.get? b = some (listOf #[.str y t2] n2) ∧ ∀ r : Bool, R (.ok (.ret (.bool r))) s) := by
  intro prog w A R s h
  obtain ⟨hp, g, d, tk, os⟩ := s; obtain ⟨hl, hb, h⟩ := h
  wp_walk using wpAny_loadPart' hl, wpAny_loadPart' hb
  show wpAny (model prog w) A.in1 (eqBool (.str x t1) (.str y t2)) _ _ _
  refine wpAny_eqBool_str ?_
  cases hxy : decide (x = y) with
  | true =>
    rw [if_pos rfl]
    exact wpAny_pure ⟨plainId_quiet MeetsSeq3.plain_eq_loop _, codeAny_builtin MeetsSeq3.entry_eq_loop (by
      rw [Around.under_plainId MeetsSeq3.plain_eq_loop _]
      exact lt_loop1 l b _ _ n n2 prog w A R _ ⟨hl, hb, h false⟩)⟩
  | false =>
    rw [if_neg (by decide)]
    refine wpAny_bind (wpAny_listItems hl rfl (wpAny_bind (wpAny_listItems hb rfl ?_)))
    show wpAny (model prog w) A.in1 (richCompare .Lt (.str x t1) (.str y t2) >>= fun r => ret r) _ _ _
    refine wpAny_bind (wpAny_richCompare_same (typeIs_str _ _ _) (typeIs_str _ _ _) slot_str_lt (call_str_lt ⟨by simp, ?_⟩))
    exact wpAny_pure (h _)
theorem list_lt1 (l b : Addr) (x y : Str) (t1 t2 : Tok) (n n2 : Nat) : Meets (Builtin.«list.__lt__» ⟨[.ref l, .ref b], []⟩)
    (fun A R s => s.heap.get? l = some (listOf #[.str x t1] n) ∧ s.heap.get? b = some (listOf #[.str y t2] n2) ∧ ∀ r : Bool, R (.ok (.ret (.bool r))) s) := by
  intro prog w A R s h
  obtain ⟨hp, g, d, tk, os⟩ := s; obtain ⟨hl, hb, h⟩ := h
  have f3 := AutoSeq1.sub_list_list
  wp_walk using wpAny_loadPart' hl, wpAny_loadPart' hb
  exact ⟨plainId_quiet MeetsSeq3.plain_eq_loop _, codeAny_builtin MeetsSeq3.entry_eq_loop (by
    rw [Around.under_plainId MeetsSeq3.plain_eq_loop _]
    exact lt_loop0 l b x y t1 t2 n n2 prog w A R _ ⟨hl, hb, h⟩)⟩
section
variable {prog : Program} {w : World} {A : Around} {E : Value → Shared → Prop} {s : Shared}
theorem key_lt {a b : Addr} {x y : Str} {t1 t2 : Tok} {n n2 : Nat} {Q : Bool → Shared → Prop} (hu : A.units < cLine) (ha : s.heap.get? a = some (listOf #[.str x t1] n)) (hb : s.heap.get? b = some (listOf #[.str y t2] n2)) (h : ∀ r, Q r s) :
    wpAny (model prog w) A (keyLt' oneType' (.ref a) (.ref b)) Q E s := by
  rw [keyLt'_oneType, oneLt'_eq]
  simp only [if_true]
  refine wpAny_bind (wpAny_cRoomFor hu ?_)
  refine wpAny_bind (wpAny_callSpecialIfBound?_slot ⟨_, ha, rfl⟩ F.slot_list_lt (call_meets F.slot_list_lt ⟨_, ha, rfl⟩ F.entry_list_lt (F.args_list_lt_2 _ _) (list_lt1 a b x y t1 t2 n n2) ⟨ha, hb, fun r => ?_⟩))
  exact wpAny_truthy_bool (h r)
end
end Mine
end

section
open PySem PySem.W PyProof.Rows PySem.Calls PySem.Spec
open Sem (wp)
namespace Mine
def permOk (n : Nat) : KasT (Array Nat) → Bool
  | .ret p => p.toList.isPerm (List.range n)
  | .ask i j k => decide (i < n) && decide (j < n) && permOk n (k true) && permOk n (k false)
theorem any_wp {n : Nat} {cmp : Nat → Nat → (Bool → Shared → Prop) → Shared → Prop} {Q : Array Nat → Shared → Prop} {s : Shared}
    (hc : ∀ i j C, i < n → j < n → (∀ r, C r s) → cmp i j C s) (h : ∀ p : Array Nat, p.toList.Perm (List.range n) → Q p s) : ∀ t : KasT (Array Nat), permOk n t = true → t.kasWp cmp Q s
  | .ret a, ho => h a (List.isPerm_iff.mp ho)
  | .ask i j k, ho => by
    simp only [permOk, Bool.and_eq_true, decide_eq_true_eq] at ho
    obtain ⟨⟨⟨hi, hj⟩, h1⟩, h2⟩ := ho
    refine hc i j _ hi hj fun r => any_wp hc h (k r) ?_
    cases r
    · exact h2
    · exact h1
theorem perm2 : permOk 2 (kas_sort 2) = true := by decide +kernel
theorem perm3 : permOk 3 (kas_sort 3) = true := by decide +kernel
theorem perm4 : permOk 4 (kas_sort 4) = true := by decide +kernel
theorem perm5 : permOk 5 (kas_sort 5) = true := by decide +kernel
theorem permN {n : Nat} (h2 : 2 ≤ n) (h5 : n ≤ 5) : permOk n (kas_sort n) = true := by
  have hn : n = 2 ∨ n = 3 ∨ n = 4 ∨ n = 5 := by omega
  rcases hn with rfl | rfl | rfl | rfl
  · exact perm2
  · exact perm3
  · exact perm4
  · exact perm5
/-- the made keys: each is a new list of one text -/
def KeyObjs (ex : List (Addr × Obj)) (ks : List Value) : Prop := ∀ k ∈ ks, ∃ a x t, k = Value.ref a ∧ (a, listOf #[.str x t] 0) ∈ ex
section
variable {prog : Program} {w : World} {A : Around} {E : Value → Shared → Prop} {s : Shared} {h₀ : Heap} {L D kS : Addr} {m : Str → Option Value} {news : List (Addr × Obj)} {f : Value} {vs : List Value} {l : List Str} {e1 : Nat} {C : Shared → Prop}
def KeyCall (prog : Program) (w : World) (A : Around) (h₀ : Heap) (L : Addr) (m : Str → Option Value) (news : List (Addr × Obj)) (f : Value) (l : List Str) : Prop :=
  ∀ (x : Str) (t : Tok) (s' : Shared) (nw : List (Addr × Obj)) (R : Value → Shared → Prop), x ∈ l → Fr h₀ L s'.heap m → News h₀ L s'.heap nw → (∀ p ∈ news, p ∈ nw) →
    (∀ a h' tk, Fr h₀ L h' m → News h₀ L h' ((a, listOf #[.str x t] 0) :: nw) → (∀ p ∈ nw, p.1 < a) → R (.ref a) { s' with heap := h', toks := tk }) → wpAny (model prog w) A (call f [.str x t]) R (fun _ _ => False) s'
theorem keys_end {ks : List Value} {ex : List (Addr × Obj)} {e : Nat} (hu : A.units < cLine) (h2 : 2 ≤ vs.length) (h5 : vs.length ≤ 5) (hl : ks.length = vs.length) (hK : KeyObjs ex ks) (F : Fr h₀ L s.heap m)
    (N : News h₀ L s.heap ((kS, seqObj "list" ks.toArray e) :: (D, seqObj "list" #[] e1) :: (ex ++ news))) (hDk : (D : Nat) < kS) (hlt : ∀ q ∈ news, (q.1 : Nat) < D) (hex : ∀ q ∈ ex, (kS : Nat) < q.1)
    (h : ∀ out c h' tk, Fr h₀ L h' m → News h₀ L h' ((D, listOf out c) :: news) → out.toList.Perm vs → C { s with heap := h', toks := tk }) :
    wpAny (model prog w) A (keyKind' (List.toArray ks)) (fun κ s'' => (kas_sort vs.length).kasWp (kas_ask prog w A κ (katRev false ks)) (fun p s3 => KatFin h₀ L m kS D ks e e1 (katRev false (p.toList.map fun i => (katRev false vs).getD i Value.none)) C s3) s'') (fun _ _ => False) s := by
  have get : ∀ k ∈ ks, ∃ a x t, k = Value.ref a ∧ s.heap.get? a = some (listOf #[.str x t] 0) := fun k hk => by
    obtain ⟨a, x, t, e, hm⟩ := hK k hk
    exact ⟨a, x, t, e, (N _ (.tail _ (.tail _ (List.mem_append_left _ hm)))).1⟩
  refine kas_kind (T := .type "list") (by omega) (fun v hv => ?_) (by rfl) (by rfl) ?_
  · obtain ⟨a, x, t, rfl, ha⟩ := get v hv
    exact (Looks.ld ha).andThen .now
  refine any_wp (n := vs.length) (fun i j Cq hi hj hr => ?_) (fun p hp => ?_) _ (permN h2 h5)
  · unfold kas_ask
    show wpAny _ _ (keyLt' oneType' (ks.getD i Value.none) (ks.getD j Value.none)) _ _ _
    have gi : ks.getD i Value.none ∈ ks := by
      rw [List.getD_eq_getElem?_getD, List.getElem?_eq_getElem (by omega)]; exact List.getElem_mem _
    have gj : ks.getD j Value.none ∈ ks := by
      rw [List.getD_eq_getElem?_getD, List.getElem?_eq_getElem (by omega)]; exact List.getElem_mem _
    obtain ⟨a, x, t, e1', ha⟩ := get _ gi
    obtain ⟨b, y, u, e2', hb⟩ := get _ gj
    rw [e1', e2']
    exact key_lt hu ha hb hr
  · show KatFin h₀ L m kS D ks e e1 (p.toList.map fun i => vs.getD i Value.none) C s
    refine KatFin.intro F N (UpdF.head fun q hq => ?_) fun h' c F' N' => KasFin.intro F' (fun q hq => N' q (?_)) (UpdF.head fun q hq => Nat.ne_of_lt (hlt q hq)) fun h2 c2 F2 N2 => ?_
    · rcases List.mem_cons.mp hq with rfl | hq
      · exact Nat.ne_of_lt hDk
      · rcases List.mem_append.mp hq with hq | hq
        · exact Nat.ne_of_gt (hex q hq)
        · exact Nat.ne_of_lt (Nat.lt_trans (hlt q hq) hDk)
    · rcases List.mem_cons.mp hq with rfl | hq
      · exact .tail _ (.head _)
      · exact .tail _ (.tail _ (List.mem_append_right _ hq))
    · refine h _ c2 h2 s.toks F2 N2 ?_
      have := hp.map fun i => vs.getD i Value.none
      refine this.trans (List.Perm.of_eq ?_)
      apply List.ext_getElem (by simp)
      intro i h1 h2
      simp [List.getD_eq_getElem?_getD, List.getElem?_eq_getElem h2]
theorem keys_go (hu : A.units < cLine) (h2 : 2 ≤ vs.length) (h5 : vs.length ≤ 5) (hc : KeyCall prog w A h₀ L m news f l) (hDk : (D : Nat) < kS) (hlt : ∀ q ∈ news, (q.1 : Nat) < D) (dr : Drawn) (st : Shared)
    (h : ∀ out c h' tk, Fr h₀ L h' m → News h₀ L h' ((D, listOf out c) :: news) → out.toList.Perm vs → C { st with heap := h', toks := tk }) :
    ∀ (r ks : List Value) (ex : List (Addr × Obj)) (e : Nat) (s : Shared) (tk : Nat) (hh : Heap), s = { st with heap := hh, toks := tk } → ks.length + r.length = vs.length → (∀ v ∈ r, ∃ x t, v = .str x t ∧ x ∈ l) → KeyObjs ex ks → Fr h₀ L s.heap m →
      News h₀ L s.heap ((kS, seqObj "list" ks.toArray e) :: (D, seqObj "list" #[] e1) :: (ex ++ news)) → (∀ q ∈ ex, (kS : Nat) < q.1) →
      KatKeys prog w A h₀ L m kS f (fun ks e s' => wpAny (model prog w) A (keyKind' (List.toArray ks)) (fun κ s'' => (kas_sort vs.length).kasWp (kas_ask prog w A κ (katRev false ks)) (fun p s3 => KatFin h₀ L m kS D ks e e1 (katRev false (p.toList.map fun i => (katRev false vs).getD i Value.none)) C s3) s'') (fun _ _ => False) s') r ks e s
  | [], ks, ex, e, s, tk, hh, hs, hl, hr, hK, F, N, hex => by
    subst hs
    exact KatKeys.nil (keys_end hu h2 h5 (by simpa using hl) hK F N hDk hlt hex fun out c h' tk' F' N' hp => h out c h' tk' F' N' hp)
  | v :: r, ks, ex, e, s, tk, hh, hs, hl, hr, hK, F, N, hex => by
    subst hs
    obtain ⟨x, t, rfl, hx⟩ := hr v (.head _)
    refine KatKeys.cons (hc x t _ _ _ hx F N (fun p hp => .tail _ (.tail _ (List.mem_append_right _ hp))) fun a h' tk' F' N' la => ?_)
    have lk : (kS : Nat) < a := la _ (.head _)
    have N2 : News h₀ L h' ((kS, seqObj "list" ks.toArray e) :: (D, seqObj "list" #[] e1) :: (((a, listOf #[.str x t] 0) :: ex) ++ news)) := fun q hq => N' q <| by
      rcases List.mem_cons.mp hq with rfl | hq
      · exact .tail _ (.head _)
      · rcases List.mem_cons.mp hq with rfl | hq
        · exact .tail _ (.tail _ (.head _))
        · rcases List.mem_cons.mp hq with rfl | hq
          · exact .head _
          · exact .tail _ (.tail _ (.tail _ hq))
    refine KatBack.intro F' N2 (UpdF.head fun q hq => ?_) fun h2' c F2 N2' => ?_
    · rcases List.mem_cons.mp hq with rfl | hq
      · exact Nat.ne_of_lt hDk
      · rcases List.mem_append.mp hq with hq | hq
        · rcases List.mem_cons.mp hq with rfl | hq
          · exact Nat.ne_of_gt lk
          · exact Nat.ne_of_gt (hex q hq)
        · exact Nat.ne_of_lt (Nat.lt_trans (hlt q hq) hDk)
    · refine keys_go hu h2 h5 hc hDk hlt dr st h r (ks ++ [.ref a]) ((a, listOf #[.str x t] 0) :: ex) c _ tk' h2' rfl (by simp only [List.length_append, List.length_cons, List.length_nil] at hl ⊢; omega) (fun v hv => hr v (.tail _ hv)) ?_ F2 N2' ?_
      · intro k hk
        rcases List.mem_append.mp hk with hk | hk
        · obtain ⟨b, y, u, e', hm⟩ := hK k hk
          exact ⟨b, y, u, e', .tail _ hm⟩
        · rw [List.mem_singleton.mp hk]
          exact ⟨a, x, t, rfl, .head _⟩
      · intro q hq
        rcases List.mem_cons.mp hq with rfl | hq
        · exact lk
        · exact hex q hq
theorem sorted_set {Ds : Addr} {Q : Value → Shared → Prop} (hA : A.handled = none) (hu : A.in1.in1.units < cLine) (F : Fr h₀ L s.heap m) (N : News h₀ L s.heap news) (hn : l.Nodup) (h2 : 2 ≤ l.length) (h5 : l.length ≤ 5) (hS : SetP prog w s.heap Ds l)
    (hc : KeyCall prog w A.in1.in1 h₀ L m news f l) (ht : ∀ x, Builtin.«list.sort» ⟨[.ref x], [(Str.ofString "key", f)]⟩ = ksk_tree x f false)
    (h : ∀ D out c h' tk dr, Fr h₀ L h' m → News h₀ L h' ((D, listOf out c) :: news) → (∀ q ∈ news, q.1 < D) → (out.toList.map txtOf).Perm l → StrsAre out.toList (out.toList.map txtOf) → Q (.ref D) { s with heap := h', toks := tk, drawn := dr }) :
    wpAny (model prog w) A (call (.builtin "sorted") [.ref Ds] [(Str.ofString "key", f)]) Q E s := by
  refine call_function_entry_kw kind_sorted plain_sorted entry_sorted (ksk_s1 _ _) ?_
  unfold Builtin.«sorted»
  refine wpAny_bind (m := checkCount "sorted" 1 1 _) (wpAny_pure ?_)
  refine wpAny_bind (collect_set (show A.in1.handled = none from hA) hn h2 (by omega) hS fun h1 tk dr ord hk hp hst => ?_)
  have hol : ord.length = l.length := by rw [← hp.length_eq, List.length_map]
  refine wpAny_bind (wpAny_newList ?_ (by rw [sizeLine_eq]; omega))
  have F1 := (F.kept hk).push (seqObj "list" ord.toArray 0)
  have keep : ∀ b o, h1.get? b = some o → (h1.push (seqObj "list" ord.toArray 0)).get? b = some o := fun b o e => Heap.get?_push_of_some _ e
  have hL : L < h1.objs.size := (F.kept hk).ns.lt
  have N1 := (N.grown hk)
  have hoL : (h1.push (seqObj "list" ord.toArray 0)).get? h1.objs.size = some (seqObj "list" ord.toArray 0) := Heap.get?_push_size _ rfl
  refine wpAny_bind (wpAny_holding (wpAny_call_entry_kw slot_list_sort ⟨_, hoL, rfl⟩ entry_list_sort ?body (ksk_l1 _ _)))
  case body =>
    show wpAny (model prog w) A.in1.in1 (Builtin.«list.sort» ⟨[.ref h1.objs.size], [(Str.ofString "key", f)]⟩) _ _ _
    rw [ht]
    refine kat_keyed (vs := ord) (s := { s with heap := h1.push (seqObj "list" ord.toArray 0), toks := tk, drawn := dr }) F1 (N1.grown keep) hoL (Nat.ne_of_gt hL) (Heap.get?_none_of_le (Nat.le_trans (F.kept hk).above (Nat.le_of_lt hL)))
      (fun p hp => Nat.ne_of_lt (Heap.lt_size (N1 p hp).1)) (by omega) (by omega) fun kS e1 h' F' N' l0 l1 => ?_
    have hlt : ∀ q ∈ news, (q.1 : Nat) < h1.objs.size := fun q hq => Heap.lt_size (N1 q hq).1
    refine keys_go (C := fun s4 => ∃ v, PySem.Fin.done (.ret .none) = .done (.ret v) ∧ wpAny (model prog w) A.in1 _ _ _ s4) (l := l) (f := f) (news := news) hu (by omega) (by omega) hc l0 hlt dr { s with heap := h', toks := tk, drawn := dr } (fun out c h3 tk3 F3 N3 hpo => ?_) ord [] [] 0 _ tk h' rfl (by simp) ?_ (fun k hk => nomatch hk) F' N' (fun q hq => nomatch hq)
    · refine ⟨_, rfl, wpAny_pure ⟨_, rfl, ?_⟩⟩
      have hperm := (hpo.map txtOf).trans hp
      refine h _ out c h3 tk3 dr F3 N3 hlt hperm (strs_txt fun v hv => ?_)
      obtain ⟨i, hi⟩ := List.getElem?_of_mem (hpo.mem_iff.mp hv)
      obtain ⟨x, t, e, -⟩ := hst.item _ _ hi
      exact ⟨x, t, e⟩
    · intro v hv
      obtain ⟨i, hi⟩ := List.getElem?_of_mem hv
      obtain ⟨x, t, e, -⟩ := hst.item _ _ hi
      subst e
      exact ⟨x, t, rfl, hp.mem_iff.mp (List.mem_map.mpr ⟨_, hv, rfl⟩)⟩
end
end Mine
end

section
open PySem PySem.W PyProof.Rows PySem.Calls PySem.Spec
open Sem (wp)
namespace Mine
def closeB : Str := Str.ofString "}"
def NoClose (x : Str) : Prop := Builtin.Str.occurrences x closeB 0 x.length 1 = []
section
variable {prog : Program} {w : World} {A : Around} {E : Value → Shared → Prop} {s : Shared} {h₀ : Heap} {L : Addr} {m : Str → Option Value} {news : List (Addr × Obj)} {x : Str} {t u v : Tok} {Q : Value → Shared → Prop}
theorem split_same (hx : NoClose x) (F : Fr h₀ L s.heap m) (N : News h₀ L s.heap news)
    (h : ∀ D h', Fr h₀ L h' m → News h₀ L h' ((D, listOf #[.str x t] 0) :: news) → (∀ p ∈ news, p.1 < D) → Q (.ref D) { s with heap := h' }) :
    wpAny (model prog w) A (call (.builtin "str.split") [.str x t, .str closeB u, .int 1 v]) Q E s := by
  have fin : ∀ (P : PySem.Fin → Shared → Prop) (B : Around), (∀ D h', Fr h₀ L h' m → News h₀ L h' ((D, listOf #[.str x t] 0) :: news) → (∀ p ∈ news, p.1 < D) → P (.done (.ret (.ref D))) { s with heap := h' }) → wpAny (model prog w) B (do ret (← newList [.str x t])) P E s := fun P B hP =>
    wpAny_bind (newList_N F N (fun h' F' N' => wpAny_pure (hP _ h' F' N' fun p hp => Heap.lt_size (N p hp).1)))
  refine wpAny_call_entry PySem.F.slot_str_split (typeIs_str _ _ _) PySem.F.entry_str_split ?_ (PySem.F.args_str_split_3 _ _ _)
  unfold Builtin.«str.split»
  refine wpAny_bind (wpAny_of_eq (a := (Value.str x t, x, [Value.str closeB u, Value.int 1 v])) rfl ?_)
  refine wpAny_bind (wpAny_of_eq (a := [some (Value.str closeB u), some (Value.int 1 v)]) rfl ?_)
  dsimp only
  refine wpAny_bind (wpAny_of_eq (a := 1) rfl ?_)
  rw [if_neg (show ¬ ((some (Value.str closeB u)).isNone || some (Value.str closeB u) == some Value.none) = true from fun e => nomatch e)]
  refine wpAny_bind (wpAny_of_eq (a := some closeB) rfl ?_)
  dsimp only
  have hP : ∀ D h', Fr h₀ L h' m → News h₀ L h' ((D, listOf #[.str x t] 0) :: news) → (∀ p ∈ news, p.1 < D) → ∃ v, PySem.Fin.done (.ret (.ref D)) = .done (.ret v) ∧ Q v { s with heap := h' } := fun D h' F' N' l => ⟨_, rfl, h D h' F' N' l⟩
  split
  · exact wpAny_bind (wpAny_rule (fin _ _ hP))
  · rw [if_neg (by decide)]
    rw [show Builtin.Str.occurrences x closeB 0 x.length 1 = [] from hx]
    rw [if_pos (show (Builtin.Str.isExactStr (Value.str x t) && ([] : List Nat).isEmpty) = true from rfl)]
    exact wpAny_bind (wpAny_rule (fin _ _ hP))
end
end Mine
end

section
open PySem PySem.W PyProof.Rows PySem.Calls PySem.Spec
open Sem (wp)
namespace Mine
/-- the code table of `_start`: empty, or with the lambda's code in it -/
def LamOk (news : List (Addr × Obj)) (line col : Int) (qual : Str) (pz : Array Value) : Prop :=
  pz = #[] ∨ ∃ c' oc vs t, pz = #[rawInt line, rawInt col, .ref c'] ∧ (c', oc) ∈ news ∧ oc.data = .fields vs ∧ vs[1]? = some (.str qual t)
theorem LamOk.sub {news news' : List (Addr × Obj)} {line col : Int} {qual : Str} {pz : Array Value} (h : LamOk news line col qual pz) (hs : ∀ p ∈ news, p ∈ news') : LamOk news' line col qual pz := by
  rcases h with h | ⟨c', oc, vs, t, e, hm, x⟩
  · exact .inl h
  · exact .inr ⟨c', oc, vs, t, e, hs _ hm, x⟩
section
variable {M : Model} {A : Around} {E : Value → Shared → Prop} {s : Shared} {h₀ : Heap} {L a c P : Addr} {m mg mb : Str → Option Value} {cn : Str} {cs : Scope} {ccd : Value} {cl : List (Str × Addr)} {pre news : List (Addr × Obj)}
  {p : Program} {loose : List Str} {mean : ExcName → Option Value} {name qual : Str} {params : Arguments} {body : Expr} {scope : Scope} {pz : Array Value} {pos : Pos} {firstLine : Nat} {clos : List (Str × Addr)}
theorem updf_app {o : Obj} : ∀ {pre news : List (Addr × Obj)}, (∀ p ∈ pre, p.1 ≠ P) → (∀ p ∈ news, p.1 ≠ P) → UpdF P o (pre ++ (P, o) :: news) (fun o => pre ++ (P, o) :: news)
  | [], _, _, h2 => UpdF.head h2
  | q :: r, _, h1, h2 => UpdF.tail (h1 q (.head _)) (updf_app (fun p hp => h1 p (.tail _ hp)) h2)
theorem lam_any {q : Str} {line col : Int} {Q : Value → Shared → Prop} (hq : q = qual) (hl : line = pos.line) (hcc : col = pos.col) (F : Fr h₀ L s.heap m) (N : News h₀ L s.heap (pre ++ (P, tabObj pz) :: news)) (T : Top p loose mean mg mb h₀) (C : CodeHd h₀ c P) (hcd : ccd = .ref c) (h1 : ∀ p ∈ pre, p.1 ≠ P) (h2 : ∀ p ∈ news, p.1 ≠ P)
    (hz : LamOk news line col qual pz) (hcl : closureFor scope (envX cn cs L a ccd cl) = pure clos)
    (h : ∀ f c' oc vs t ctv h' tk, Fr h₀ L h' m → News h₀ L h' ((f, kla_obj name qual params body scope clos ((mg "__name__").getD .none) c' ctv) :: (pre ++ (P, tabObj #[rawInt line, rawInt col, .ref c']) :: (c', oc) :: news)) →
      oc.data = .fields vs → vs[1]? = some (.str qual t) → (∀ q ∈ pre ++ news, q.1 < f) → (P : Nat) < f → (c' : Nat) < f → ((∃ o, (c', o) ∈ news) ∨ ((P : Nat) < c' ∧ ∀ q ∈ pre ++ news, q.1 < c')) → Q (.ref f) { s with heap := h', toks := tk }) :
    wpAny M A (makeFunction name q params (.expr body) scope (envX cn cs L a ccd cl) [] [] [] pos firstLine) Q E s := by
  subst hq hl hcc
  rcases hz with rfl | ⟨c', oc, vs, t, rfl, hm, hd, hv⟩
  · have U : UpdF P (tabObj #[]) (pre ++ (P, tabObj #[]) :: news) (fun o => pre ++ (P, o) :: news) := updf_app h1 h2
    refine kla_nest (T := T) F N C hcd U trivial rfl hcl fun f c' oc vs t ctv h' tk F' N' d1 d2 l1 l2 => ?_
    refine h f c' oc vs t ctv h' tk F' (fun q hq => N' q ?_) d1 d2 (fun q hq => ?_) (Nat.lt_trans (l1 (P, _) (List.mem_append_right _ (.head _))) l2) l2 (.inr ⟨l1 (P, _) (List.mem_append_right _ (.head _)), fun q hq => l1 q ?_⟩)
    · rcases List.mem_cons.mp hq with rfl | hq
      · exact .head _
      · rcases List.mem_append.mp hq with hq | hq
        · exact .tail _ (.tail _ (List.mem_append_left _ hq))
        · rcases List.mem_cons.mp hq with rfl | hq
          · exact .tail _ (.tail _ (List.mem_append_right _ (.head _)))
          · rcases List.mem_cons.mp hq with rfl | hq
            · exact .tail _ (.head _)
            · exact .tail _ (.tail _ (List.mem_append_right _ (.tail _ hq)))
    · refine Nat.lt_trans (l1 q ?_) l2
      rcases List.mem_append.mp hq with hq | hq
      · exact List.mem_append_left _ hq
      · exact List.mem_append_right _ (.tail _ hq)
    · rcases List.mem_append.mp hq with hq | hq
      · exact List.mem_append_left _ hq
      · exact List.mem_append_right _ (.tail _ hq)
  · refine kla_hit (T := T) (c' := c') F N C hcd (List.mem_append_right _ (.head _)) (TriplesOk_snoc _ _ _ [] trivial) (by show codeAmong pos [.int pos.line 0, .int pos.col 0, .ref c'] = _; unfold codeAmong; simp) hcl fun f ctv h' tk F' N' l1 => ?_
    have lc : (c' : Nat) < f := l1 (c', oc) (List.mem_append_right _ (.tail _ hm))
    refine h f c' oc vs t ctv h' tk F' (fun q hq => N' q ?_) hd hv (fun q hq => l1 q ?_) (l1 (P, _) (List.mem_append_right _ (.head _))) lc (.inl ⟨oc, hm⟩)
    · rcases List.mem_cons.mp hq with rfl | hq
      · exact .head _
      · rcases List.mem_append.mp hq with hq | hq
        · exact .tail _ (List.mem_append_left _ hq)
        · rcases List.mem_cons.mp hq with rfl | hq
          · exact .tail _ (List.mem_append_right _ (.head _))
          · rcases List.mem_cons.mp hq with rfl | hq
            · exact .tail _ (List.mem_append_right _ (.tail _ hm))
            · exact .tail _ (List.mem_append_right _ (.tail _ hq))
    · rcases List.mem_append.mp hq with hq | hq
      · exact List.mem_append_left _ hq
      · exact List.mem_append_right _ (.tail _ hq)
end
end Mine
end

section
open PySem PySem.W PyProof.Rows PySem.Calls PySem.Spec
open Sem (wp)
namespace Mine
section
variable {prog : Program} {w : World} {A : Around} {E : Value → Shared → Prop} {s : Shared} {h₀ : Heap} {L : Addr} {m : Str → Option Value} {env : Env}
/-- one turn of a dict comprehension ends: key and value are there, nothing else is lost -/
inductive DTurn (prog : Program) (w : World) (h₀ : Heap) (L : Addr) (m : Str → Option Value) (st : Shared) (I : Addr) (oI : Obj) (C : Addr) (oC : Obj) (D : Addr) (oD : Obj) (k : Str) (rest : Value → List (Addr × Obj) → Prop) (kv vv : Value) (s₂ : Shared) : Prop
  | mk (h' : Heap) (tk : Nat) (gs : Array GenState) (news' : List (Addr × Obj)) (e0 : s₂ = { st with heap := h', toks := tk, gens := gs }) (e1 : Bg st.gens gs) (e2 : (PySem.strKind prog w).is k kv = true) (e3 : Fr h₀ L h' m) (e4 : News h₀ L h' ((I, oI) :: (C, oC) :: (D, oD) :: news')) (e5 : LCg.Off3 I C D news') (e6 : rest vv news') : DTurn prog w h₀ L m st I oI C oC D oD k rest kv vv s₂
inductive DSrc (prog : Program) (w : World) (A : Around) (h₀ : Heap) (L : Addr) (m : Str → Option Value) (env : Env) (kx vx : Expr) (x y : Str) (scope : Scope) (cl : List (Str × Addr)) (Q : Flow → Shared → Prop) (xv : Value) (s₁ : Shared) : Prop
  | mk (ax : Addr) (its : Array Value) (l : List Str) (news : List (Addr × Obj)) (Inv : Nat → List (Str × Value) → List (Addr × Obj) → Prop) (e0 : xv = .ref ax) (e1 : Fr h₀ L s₁.heap m) (e2 : News h₀ L s₁.heap news) (e3 : StrsAre its.toList l) (e4 : its.size < 100) (e5 : (∃ c, ∀ i kvs nw, Inv i kvs nw → (ax, listOf its c) ∈ nw)) (e6 : Inv 0 [] news) (e7 : (∀ i kvs nw k t I oI C oC D oD m₂ h' tk gs (E' : Value → Shared → Prop), Bg s₁.gens gs → its[i]? = some (.str k t) → l[i]? = some k → Inv i kvs nw → LCg.NsObj oC m₂ → m₂ x = some (.str k t) → Fr h₀ L h' m → News h₀ L h' ((I, oI) :: (C, oC) :: (D, oD) :: nw) → LCg.Off3 I C D nw → ((@Ne Nat I C) ∧ (@Ne Nat I D) ∧ (@Ne Nat C D)) →
        wpAny (model prog w) A (eval kx (compEnvC scope cl C env)) (fun kv s₃ => wpAny (model prog w) A (eval vx (compEnvC scope cl C env)) (DTurn prog w h₀ L m { s₁ with heap := h', toks := tk, gens := gs } I oI C oC D oD k (fun vv nw' => Inv (i + 1) (stored kvs k vv) nw') kv) E' s₃) E' { s₁ with heap := h', toks := tk, gens := gs })) (e8 : (∀ D oD kvs h' tk gs nw, Bg s₁.gens gs → Inv its.size kvs nw → oD.IsDictOf (PySem.strKind prog w) kvs → (D == sysModules) = false → (∀ p ∈ news, p.1 < D) → Fr h₀ L h' (fun z => if z = y then some (.ref D) else m z) → News h₀ L h' ((D, oD) :: nw) → LCg.Off1 D nw → Q .next { s₁ with heap := h', toks := tk, gens := gs })) : DSrc prog w A h₀ L m env kx vx x y scope cl Q xv s₁
inductive DInv (prog : Program) (w : World) (h₀ : Heap) (L : Addr) (m : Str → Option Value) (aI aC aD ax : Addr) (its : Array Value) (st : Shared) (Inv : Nat → List (Str × Value) → List (Addr × Obj) → Prop) (k : Nat) (s' : Shared) : Prop
  | mk (h' : Heap) (tk : Nat) (gs : Array GenState) (i : Nat) (kvs : List (Str × Value)) (m' : Str → Option Value) (oD : Obj) (news' : List (Addr × Obj)) (e0 : s' = { st with heap := h', toks := tk, gens := gs }) (e1 : Bg st.gens gs) (e2 : i ≤ its.size) (e3 : k = its.size + 1 - i) (e4 : kvs.length ≤ i) (e5 : (h'.IsListIter aI ax i ∧ h'.IsList ax its)) (e6 : Fr h₀ L h' m) (e7 : h'.Ns aC m') (e8 : News h₀ L h' ((aD, oD) :: news')) (e9 : oD.IsDictOf (PySem.strKind prog w) kvs) (e10 : LCg.Off3 aI aC aD news') (e11 : Inv i kvs news') : DInv prog w h₀ L m aI aC aD ax its st Inv k s'
theorem dict_comp {kx vx iter : Expr} {x y : Str} {px py : Pos} {scope : Scope} {cl : List (Str × Addr)} {pos spos : Pos} {Q : Flow → Shared → Prop} (F₀ : Fr h₀ L s.heap m) (hLe : env.locals = L)
    (hsw : swapsWith (.DictComp kx vx [⟨.Name x px, iter, [], 0⟩] scope pos) (some (.Name y py)) spos.line env = pure true)
    (hh : A.handled = none) (hbig : h₀.NoLimit)
    (hclos : closureFor scope env = pure cl) (hcell : ∀ z ∈ scope.names, z.2 ≠ .cell) (hkind : scope.kind = .function)
    (hnames : ∀ z ∈ scope.names, z.2 = .local → scope.names.lookup z.1 = some .local) (hx : scope.names.lookup x = some .local)
    (hy : env.kindOf y = some .local) (hp : (env.scope.kind == .class || (env.scope.kind == .module && env.locals != env.globals)) = false) (hs : ∀ x, foldedSetIterable iter env x = pure x)
    (h : wpAny (model prog w) A (eval iter env) (DSrc prog w A h₀ env.locals m env kx vx x y scope cl Q) E s) :
    wpAny (model prog w) A (exec (.Assign [.Name y py] (.DictComp kx vx [⟨.Name x px, iter, [], 0⟩] scope pos) spos) env) Q E s := by
  subst hLe
  rw [exec_Assign_Name_used _ _ _ _ hsw]
  refine wpAny_bind (wpAny_standAt (wpAny_bind ?_))
  show wpAny _ A (do let _ ← comprehension (.DictComp kx vx [⟨.Name x px, iter, [], 0⟩] scope pos) scope env _ newDict false (eval iter env) (some (assign (.Name y py) env))) _ _ s
  refine wpAny_bind (wpAny_mono (wpAny_comprehension_free (use := some (assign (.Name y py) env)) (Q := fun _ s' => Q .next s') rfl hs hclos hkind hnames
    (wpAny_mono h (fun xv s₁ h₁ => ?_) fun _ _ e => e)) (fun _ s' hq => wpAny_pure (wpAny_pure hq)) fun _ _ e => e)
  obtain ⟨ax, its, l, news, Inv, rfl, F, N, hst, hz, ⟨c, hsrc⟩, hI0, turn, fin⟩ := h₁
  have hl : s₁.heap.IsList ax its := ⟨_, (N _ (hsrc _ _ _ hI0)).1, rfl, _, rfl⟩
  have hlt : ax < s₁.heap.objs.size := by obtain ⟨_, e, _⟩ := hl; exact Heap.lt_size e
  refine wpAny_pyIter_list hl ?_
  have up : ∀ b o, s₁.heap.get? b = some o → (s₁.heap.push { cls := .type "list_iterator", data := .fields #[.ref ax, .int 0 0] }).get? b = some o := fun b o e => Heap.get?_push_of_some _ e
  generalize hH1 : s₁.heap.push { cls := .type "list_iterator", data := .fields #[.ref ax, .int 0 0] } = H1 at up ⊢
  have hIO : H1.get? s₁.heap.objs.size = some { cls := .type "list_iterator", data := .fields #[.ref ax, .int 0 0] } := hH1 ▸ Heap.get?_push_size _ rfl
  have hz1 : H1.objs.size = s₁.heap.objs.size + 1 := by rw [← hH1, Heap.size_push]
  have W := Walks.list (prog := prog) (w := w) (A := A) hh s₁.heap.objs.size ax (Nat.ne_of_lt hlt) its
  refine wpAny_newObj_type (wpAny_newFunctionEnv hcell (by intro y hy; simp at hy) (fun h₁ hns₁ hsb₁ => ?_) hkind)
  dsimp only at hns₁ hsb₁ ⊢
  generalize hH2 : H1.push { cls := .type "dict", data := .dict #[] } = H2 at hns₁ hsb₁ ⊢
  have hC : H2.objs.size = H1.objs.size + 1 := by rw [← hH2, Heap.size_push]
  have hDC : H1.objs.size ≠ H2.objs.size := by rw [hC]; exact Nat.ne_of_lt (Nat.lt_succ_self _)
  have below : ∀ b, b < H1.objs.size → b ≠ H2.objs.size ∧ b ≠ H1.objs.size := fun b hb => ⟨by rw [hC]; exact Nat.ne_of_lt (Nat.lt_succ_of_lt hb), Nat.ne_of_lt hb⟩
  have F1 : Fr h₀ env.locals H1 m := F.keeps up
  have N1 : News h₀ env.locals H1 news := N.grown up
  have old : ∀ b o, H1.get? b = some o → h₁.get? b = some o := fun b o e => hsb₁.extBut b o (below b (Heap.lt_size e)).1 (Heap.get?_push_of_some _ (hH2 ▸ Heap.get?_push_of_some _ e))
  have hD0 : h₁.get? H1.objs.size = some { cls := .type "dict", data := .dict #[] } := hsb₁.extBut _ _ hDC (Heap.get?_push_of_some _ (hH2 ▸ Heap.get?_push_size _ rfl))
  have fresh₀ : ∀ a, s₁.heap.objs.size ≤ a → h₀.get? a = none := fun a ha => by
    cases e : h₀.get? a with
    | none => rfl
    | some o' => exact absurd (Heap.lt_size (F.keep a o' e)) (Nat.not_lt.mpr ha)
  have hI₀ : h₀.get? s₁.heap.objs.size = none := fresh₀ _ (Nat.le_refl _)
  have hD₀ : h₀.get? H1.objs.size = none := fresh₀ _ (by rw [hz1]; exact Nat.le_succ _)
  have hC₀ : h₀.get? H2.objs.size = none := fresh₀ _ (by rw [hC, hz1]; exact Nat.le_succ_of_le (Nat.le_succ _))
  have hLlt : env.locals < s₁.heap.objs.size := F.ns.lt
  have hLlt1 : env.locals < H1.objs.size := F1.ns.lt
  have hIL : env.locals ≠ s₁.heap.objs.size := Nat.ne_of_lt hLlt
  have hDL : H1.objs.size ≠ env.locals := Ne.symm (below _ hLlt1).2
  have hCL : H2.objs.size ≠ env.locals := Ne.symm (below _ hLlt1).1
  have hIlt : s₁.heap.objs.size < H1.objs.size := by rw [hz1]; exact Nat.lt_succ_self _
  have hCI : s₁.heap.objs.size ≠ H2.objs.size := (below _ hIlt).1
  have hDI : s₁.heap.objs.size ≠ H1.objs.size := (below _ hIlt).2
  have haI : ax ≠ s₁.heap.objs.size := Nat.ne_of_lt hlt
  have haD : ax ≠ H1.objs.size := Nat.ne_of_lt (Nat.lt_trans hlt hIlt)
  have haC : ax ≠ H2.objs.size := (below ax (Nat.lt_trans hlt hIlt)).1
  have nomod : (H1.objs.size == sysModules) = false := F1.notModules (modules_low hbig)
  have off₀ : LCg.Off3 s₁.heap.objs.size H2.objs.size H1.objs.size news := LCg.Off3.of fun p hp => by
    have hp' := Heap.lt_size (N p hp).1
    exact ⟨Nat.ne_of_lt hp', (below _ (Nat.lt_trans hp' hIlt)).1, (below _ (Nat.lt_trans hp' hIlt)).2⟩
  have hst0 : h₁.IsListIter s₁.heap.objs.size ax 0 ∧ h₁.IsList ax its := ⟨⟨_, old _ _ hIO, rfl, rfl⟩, let ⟨o, e, r⟩ := hl; ⟨o, old _ _ (up _ _ e), r⟩⟩
  have loop : ∀ s₃ : Shared, s₃ = { s₁ with heap := h₁, toks := s₁.toks + ([] : List (Str × Value)).length } →
      codeAny (model prog w) A (.compLoop (.DictComp kx vx [⟨.Name x px, iter, [], 0⟩] scope pos) 0 (.ref s₁.heap.objs.size) (.ref H1.objs.size) (compEnvC scope cl H2.objs.size env))
        (compPost (model prog w) A E (some (assign (.Name y py) env)) (fun _ s' => Q .next s') (.ref H1.objs.size) H2.objs.size) s₃ := by
    rintro s₃ rfl
    refine codeAny_compLoop_testsD
      (DInv prog w h₀ env.locals m s₁.heap.objs.size H2.objs.size H1.objs.size ax its s₁ Inv) ?_ (its.size + 1)
      ⟨h₁, _, s₁.gens, 0, [], _, { cls := .type "dict", data := .dict #[] }, news, rfl, Bg.refl _, Nat.zero_le _, rfl, Nat.zero_le _, hst0, F1.keeps old, hns₁, fun p hp => ?_, ?_, off₀, hI0⟩
    · rintro k s' ⟨h', tk, gs, i, kvs, m', oD, news', rfl, hbg, hi, rfl, hkl, hst', F', hn', N', hD', off', hI'⟩
      by_cases hlti : i < its.size
      · refine W.item i _ _ _ hlti hst' fun v h₂ tk₂ hPv hst₂ hk₂ => ?_
        obtain ⟨k, t, rfl, hlk⟩ := hst.item i v (by simpa using hPv)
        refine wpAny_assign_Name (wpAny_storeName_local (lookup_relabel_local hx) (hn'.at' fun o e => hk₂ _ o (by simpa using Ne.symm hCI) e) (fun h₃ hn₃ hs₃ => ?_) (by simp [compEnvC, relabel, hkind]))
        refine wpAny_tests_nil ?_
        simp only [if_true]
        obtain ⟨oC, heC, hoC⟩ := LCg.ns_obj hn₃
        have hst₃ : h₃.IsListIter s₁.heap.objs.size ax (i + 1) ∧ h₃.IsList ax its := ⟨hst₂.1.at fun o e => hs₃.extBut _ o hCI e, let ⟨o, e, r⟩ := hst₂.2; ⟨o, hs₃.extBut _ _ haC e, r⟩⟩
        obtain ⟨oI, heI, hoI⟩ := hst₃.1
        have F₃ : Fr h₀ env.locals h₃ m := (LCg.fr_but F' hk₂ hIL hI₀).change hs₃ hCL hC₀
        have off3 := off'.mem
        have N₂ : News h₀ env.locals h₂ ((H1.objs.size, oD) :: news') := LCg.news_but N' hk₂ fun p hp => by
          rcases List.mem_cons.mp hp with rfl | hp
          · exact Ne.symm hDI
          · exact (off3 p hp).1
        have N₃ : News h₀ env.locals h₃ ((s₁.heap.objs.size, oI) :: (H2.objs.size, oC) :: (H1.objs.size, oD) :: news') := fun p hp => by
          rcases List.mem_cons.mp hp with rfl | hp
          · exact ⟨heI, Ne.symm hIL, hI₀⟩
          · rcases List.mem_cons.mp hp with rfl | hp
            · exact ⟨heC, hCL, hC₀⟩
            · have z := N₂ p hp
              refine ⟨hs₃.extBut _ _ ?_ z.1, z.2⟩
              rcases List.mem_cons.mp hp with rfl | hp
              · exact hDC
              · exact (off3 p hp).2.1
        refine wpAny_mono (turn i kvs news' k t s₁.heap.objs.size oI H2.objs.size oC H1.objs.size oD _ h₃ _ gs _ hbg hPv hlk hI' hoC (by simp) F₃ N₃ off' ⟨hCI, hDI, Ne.symm hDC⟩) (fun kv s₄ h₄ => wpAny_mono h₄ (fun vv s₅ h₅ => ?_) fun _ _ e => e) fun _ _ e => e
        obtain ⟨h₄, tk₄, gs₄, news₄, rfl, hbg₄, hkey, F₄, N₄, off₄, hI₄⟩ := h₅
        have zI := (N₄ (s₁.heap.objs.size, oI) (.head _)).1
        have zC := (N₄ (H2.objs.size, oC) (.tail _ (.head _))).1
        have zD := (N₄ (H1.objs.size, oD) (.tail _ (.tail _ (.head _)))).1
        have N₄' : News h₀ env.locals h₄ news₄ := fun p hp => N₄ p (.tail _ (.tail _ (.tail _ hp)))
        refine wpAny_dictSet_pairs (s := { s₁ with heap := h₄, toks := tk₄, gens := gs₄ }) hkey (Heap.dictOf_iff.mpr ⟨oD, zD, hD'⟩) (fun h₅ hd₅ hs₅ => ?_) (by rw [sizeLine_eq]; omega)
        obtain ⟨o5, ho5, hd5⟩ := Heap.dictOf_iff.mp hd₅
        have off4 := off₄.mem
        have hsl := stored_length_le kvs k vv
        have hls := N₄' _ (hsrc _ _ _ hI₄)
        refine ⟨its.size + 1 - (i + 1), by omega, h₅, _, gs₄, i + 1, _, _, o5, news₄, rfl, hbg.trans hbg₄, hlti, rfl, by omega, ⟨⟨oI, hs₅.extBut _ _ hDI zI, hoI⟩, ⟨_, hs₅.extBut _ _ haD hls.1, rfl, _, rfl⟩⟩, F₄.change hs₅ hDL hD₀, (hoC.ns zC).sameBut hs₅ (Ne.symm hDC), fun p hp => ?_, hd5, off₄, hI₄⟩
        rcases List.mem_cons.mp hp with rfl | hp
        · exact ⟨ho5, hDL, hD₀⟩
        · exact ⟨hs₅.extBut _ _ (off4 p hp).2.2 (N₄' p hp).1, (N₄' p hp).2⟩
      · obtain rfl : i = its.size := Nat.le_antisymm hi (Nat.not_lt.mp hlti)
        refine W.done _ _ _ hst' fun h₂ tk₂ hk₂ => ?_
        have off3 := off'.mem
        have F₂ := LCg.fr_but F' hk₂ hIL hI₀
        have N₂ : News h₀ env.locals h₂ ((H1.objs.size, oD) :: news') := LCg.news_but N' hk₂ fun p hp => by
          rcases List.mem_cons.mp hp with rfl | hp
          · exact Ne.symm hDI
          · exact (off3 p hp).1
        have hn₂ : h₂.Ns H2.objs.size m' := hn'.at' fun o e => hk₂ _ o (by simpa using Ne.symm hCI) e
        show wpAny _ A (assign (.Name y py) env (.ref H1.objs.size)) _ _ _
        refine wpAny_assign_Name (wpAny_storeName_local hy F₂.ns (fun h₄ hn₄ hs₄ => ?_) hp)
        have hL₀ : h₀.get? env.locals = none := Heap.get?_none_of_le F₂.above
        have F₄ : Fr h₀ env.locals h₄ (fun z => if z = y then some (.ref H1.objs.size) else m z) := ⟨hn₄, fun b o e => hs₄.extBut b o (fun q => by rw [q, hL₀] at e; cases e) (F₂.keep b o e), F₂.above⟩
        refine ⟨m', hn₂.sameBut hs₄ hCL, fun h'' hs'' => fin _ oD kvs h'' _ gs news' hbg hI' hD' nomod (fun p hp => Nat.lt_trans (Heap.lt_size (N p hp).1) hIlt) (F₄.change hs'' hCL hC₀) (fun p hp => ?_) off'.one⟩
        have z : h₄.get? p.1 = some p.2 := hs₄.extBut _ _ (N₂ p hp).2.1 (N₂ p hp).1
        refine ⟨hs''.extBut _ _ ?_ z, (N₂ p hp).2⟩
        rcases List.mem_cons.mp hp with rfl | hp
        · exact hDC
        · exact (off3 p hp).2.1
    · rcases List.mem_cons.mp hp with rfl | hp
      · exact ⟨hD0, hDL, hD₀⟩
      · exact ⟨old _ _ (N1 p hp).1, (N p hp).2⟩
    · obtain ⟨o, ho, r⟩ := Heap.dictOf_iff.mp (Heap.DictOf.new (knd := PySem.strKind prog w) H1)
      rw [Heap.get?_push_size _ rfl] at ho
      cases ho
      exact r
  exact codeAny_compStart_dict (loop _ rfl) (W.self 0 _ _ _ hst0 (loop _ rfl))
/-- the dict of the parsed names: each name's tuple -/
def QOf (tq : List (Addr × Obj)) : List (Str × Value) → List Str → Prop
  | [], [] => True
  | (k, v) :: kvs, x :: l => k = x ∧ (∃ (tp : Addr) (t u : Tok), v = .ref tp ∧ (tp, tupO [.str k t, .str k t, .str (Str.ofString "") u]) ∈ tq) ∧ QOf tq kvs l
  | _, _ => False
theorem QOf.more {tq : List (Addr × Obj)} {q : Addr × Obj} : ∀ {kvs : List (Str × Value)} {l : List Str}, QOf tq kvs l → QOf (q :: tq) kvs l
  | [], [], _ => trivial
  | [], _ :: _, h => h.elim
  | _ :: _, [], h => h.elim
  | (k, v) :: kvs, x :: l, ⟨e, ⟨tp, t, u, ev, hm⟩, h⟩ => ⟨e, ⟨tp, t, u, ev, .tail _ hm⟩, QOf.more h⟩
theorem QOf.snoc {tq : List (Addr × Obj)} {k : Str} {v : Value} (hv : ∃ (tp : Addr) (t u : Tok), v = .ref tp ∧ (tp, tupO [.str k t, .str k t, .str (Str.ofString "") u]) ∈ tq) : ∀ {kvs : List (Str × Value)} {l : List Str}, QOf tq kvs l → QOf tq (kvs ++ [(k, v)]) (l ++ [k])
  | [], [], _ => ⟨rfl, hv, trivial⟩
  | [], _ :: _, h => h.elim
  | _ :: _, [], h => h.elim
  | (k', v') :: kvs, x :: l, ⟨e, h1, h⟩ => ⟨e, h1, QOf.snoc hv h⟩
theorem QOf.keys {tq : List (Addr × Obj)} : ∀ {kvs : List (Str × Value)} {l : List Str}, QOf tq kvs l → kvs.map (·.1) = l
  | [], [], _ => rfl
  | [], _ :: _, h => h.elim
  | _ :: _, [], h => h.elim
  | (k, v) :: kvs, x :: l, ⟨e, _, h⟩ => by rw [List.map_cons, QOf.keys h, e]
theorem QOf.look {tq : List (Addr × Obj)} {k : Str} : ∀ {kvs : List (Str × Value)} {l : List Str}, QOf tq kvs l → k ∈ l → ∃ (tp : Addr) (t u : Tok), valueAt kvs k = some (.ref tp) ∧ (tp, tupO [.str k t, .str k t, .str (Str.ofString "") u]) ∈ tq
  | [], [], _, hk => nomatch hk
  | [], _ :: _, h, _ => h.elim
  | _ :: _, [], h, _ => h.elim
  | (k', v) :: kvs, x :: l, ⟨e, ⟨tp, t, u, ev, hm⟩, h⟩, hk => by
    subst e ev
    by_cases hkk : k' = k
    · subst hkk
      exact ⟨tp, t, u, by simp [valueAt], hm⟩
    · rcases List.mem_cons.mp hk with e | hk
      · exact absurd e.symm hkk
      · obtain ⟨tp', t', u', e', hm'⟩ := QOf.look h hk
        refine ⟨tp', t', u', ?_, hm'⟩
        rw [← e']
        simp [valueAt, hkk]
inductive QEnd (h₀ : Heap) (L : Addr) (m : Str → Option Value) (st : Shared) (k : Str) (t : Tok) (full : List (Addr × Obj)) (kv vv : Value) (s₂ : Shared) : Prop
  | mk (h' : Heap) (tk : Nat) (gs : Array GenState) (tp : Addr) (u : Tok) (e0 : s₂ = { st with heap := h', toks := tk, gens := gs }) (e1 : Bg st.gens gs) (e2 : kv = .str k t) (e3 : vv = .ref tp) (e4 : Fr h₀ L h' m) (e5 : News h₀ L h' ((tp, tupO [.str k t, .str k t, .str (Str.ofString "") u]) :: full)) (e6 : ∀ p ∈ full, (p.1 : Nat) < tp) : QEnd h₀ L m st k t full kv vv s₂
theorem dsrc_q {kx vx : Expr} {x y : Str} {scope : Scope} {cl : List (Str × Addr)} {Q : Flow → Shared → Prop} {ax : Addr} {its : Array Value} {c : Nat} {l : List Str} {led : List (Addr × Obj)}
    (F : Fr h₀ L s.heap m) (N : News h₀ L s.heap led) (ml : (ax, listOf its c) ∈ led) (hst : StrsAre its.toList l) (hn : l.Nodup) (hz : its.size < 100)
    (turn : ∀ k t C oC m₂ h' tk gs (E' : Value → Shared → Prop) full, Bg s.gens gs → k ∈ l → LCg.NsObj oC m₂ → m₂ x = some (.str k t) → Fr h₀ L h' m → News h₀ L h' ((C, oC) :: (led ++ full)) →
        wpAny (model prog w) A (eval kx (compEnvC scope cl C env)) (fun kv s₃ => wpAny (model prog w) A (eval vx (compEnvC scope cl C env)) (QEnd h₀ L m { s with heap := h', toks := tk, gens := gs } k t full kv) E' s₃) E' { s with heap := h', toks := tk, gens := gs })
    (fin : ∀ D oD kvs h' tk gs tq, Bg s.gens gs → QOf tq kvs l → (∀ p ∈ tq, (ax : Nat) < p.1) → oD.IsDictOf (PySem.strKind prog w) kvs → (D == sysModules) = false → (∀ p ∈ led, p.1 < D) → Fr h₀ L h' (fun z => if z = y then some (.ref D) else m z) → News h₀ L h' ((D, oD) :: (led ++ tq)) → Q .next { s with heap := h', toks := tk, gens := gs }) :
    DSrc prog w A h₀ L m env kx vx x y scope cl Q (.ref ax) s := by
  have hls : its.size = l.length := by have := hst.len_eq; rw [Array.length_toList] at this; exact this
  refine ⟨ax, its, l, led, fun i kvs nw => ∃ tq, nw = tq ++ led ∧ QOf tq kvs (l.take i) ∧ ∀ p ∈ tq, (ax : Nat) < p.1, rfl, F, N, hst, hz, ⟨c, ?_⟩, ⟨[], rfl, trivial, fun p hp => nomatch hp⟩, ?_, ?_⟩
  · rintro i kvs nw ⟨tq, rfl, _, _⟩
    exact List.mem_append_right _ ml
  · rintro i kvs nw k t I oI C oC D oD m₂ h' tk gs E' hbg hv hlk ⟨tq, rfl, hq, hgt⟩ hC hx F' N' off ne
    refine wpAny_mono (turn k t C oC m₂ h' tk gs E' ((I, oI) :: (C, oC) :: (D, oD) :: (tq ++ led)) hbg (List.mem_of_getElem? hlk) hC hx F' fun p hp => N' p ?_) (fun kv s₃ h₃ => wpAny_mono h₃ (fun vv s₄ h₄ => ?_) fun _ _ e => e) fun _ _ e => e
    · rcases List.mem_cons.mp hp with rfl | hp
      · exact .tail _ (.head _)
      · rcases List.mem_append.mp hp with hp | hp
        · exact .tail _ (.tail _ (.tail _ (List.mem_append_right _ hp)))
        · exact hp
    obtain ⟨h2, tk2, gs2, tp, u, e, hbg2, rfl, rfl, F2, N2, hlt⟩ := h₄
    have hax : (ax : Nat) < tp := hlt (ax, _) (.tail _ (.tail _ (.tail _ (List.mem_append_right _ ml))))
    refine ⟨h2, tk2, gs2, (tp, tupO [.str k t, .str k t, .str (Str.ofString "") u]) :: (tq ++ led), e, hbg2, strKind_is _ _ _ _, F2, fun p hp => N2 p ?_, ⟨⟨Nat.ne_of_gt (hlt _ (.head _)), Nat.ne_of_gt (hlt _ (.tail _ (.head _))), Nat.ne_of_gt (hlt _ (.tail _ (.tail _ (.head _))))⟩, off⟩, (tp, tupO [.str k t, .str k t, .str (Str.ofString "") u]) :: tq, rfl, ?_, fun p hp => ?_⟩
    · rcases List.mem_cons.mp hp with rfl | hp
      · exact .tail _ (.head _)
      · rcases List.mem_cons.mp hp with rfl | hp
        · exact .tail _ (.tail _ (.head _))
        · rcases List.mem_cons.mp hp with rfl | hp
          · exact .tail _ (.tail _ (.tail _ (.head _)))
          · rcases List.mem_cons.mp hp with rfl | hp
            · exact .head _
            · exact .tail _ (.tail _ (.tail _ (.tail _ hp)))
    · have hnew : k ∉ kvs.map (·.1) := by
        rw [QOf.keys hq]
        intro hm
        obtain ⟨j, hj, e⟩ := List.mem_take_iff_getElem.mp hm
        have hi := (List.getElem?_eq_some_iff.mp hlk)
        obtain ⟨hi1, hi2⟩ := hi
        have hp := List.pairwise_iff_getElem.mp hn j i (by omega) hi1 (by omega)
        exact hp (e.trans hi2.symm)
      rw [stored_new hnew, List.take_add_one, hlk]
      exact QOf.snoc ⟨tp, t, u, rfl, .head _⟩ (QOf.more hq)
    · rcases List.mem_cons.mp hp with rfl | hp
      · exact hax
      · exact hgt p hp
  · rintro D oD kvs h' tk gs nw hbg ⟨tq, rfl, hq, hgt⟩ hd lo hlt F' N' off
    rw [hls, List.take_length] at hq
    refine fin D oD kvs h' tk gs tq hbg hq hgt hd lo hlt F' fun p hp => N' p ?_
    rcases List.mem_cons.mp hp with rfl | hp
    · exact .head _
    · rcases List.mem_append.mp hp with hp | hp
      · exact .tail _ (List.mem_append_right _ hp)
      · exact .tail _ (List.mem_append_left _ hp)
end
end Mine
end

section
open PySem PySem.W PyProof.Rows PySem.Calls PySem.Spec
open Sem (wp)
namespace Mine
section
variable {prog : Program} {w : World} {A : Around} {E : Value → Shared → Prop} {s : Shared}
inductive RTurn (h₀ : Heap) (L : Addr) (st : Shared) (I : Addr) (oI : Obj) (Inv' : (Str → Option Value) → List (Addr × Obj) → Prop) (f : Flow) (s₂ : Shared) : Prop
  | mk (e0 : f = .next) (h' : Heap) (tk : Nat) (gs : Array GenState) (m' : Str → Option Value) (nw' : List (Addr × Obj)) (e1 : s₂ = { st with heap := h', toks := tk, gens := gs }) (e2 : Bg st.gens gs) (e3 : Fr h₀ L h' m') (e4 : News h₀ L h' ((I, oI) :: nw')) (e5 : (∀ p ∈ nw', p.1 ≠ I)) (e6 : Inv' m' nw') : RTurn h₀ L st I oI Inv' f s₂
inductive ForRows (prog : Program) (w : World) (A : Around) (h₀ : Heap) (env : Env) (x1 x2 : Str) (body : List Stmt) (Q : Flow → Shared → Prop) (E : Value → Shared → Prop) (xv : Value) (s₁ : Shared) : Prop
  | mk (ld : Addr) (its : Array Value) (c : Nat) (rows : List (Str × Str)) (m : Str → Option Value) (news : List (Addr × Obj)) (Inv : Nat → (Str → Option Value) → List (Addr × Obj) → Prop) (e0 : xv = .ref ld) (e1 : Fr h₀ env.locals s₁.heap m) (e2 : News h₀ env.locals s₁.heap news) (e3 : (∀ i mi nw, Inv i mi nw → (ld, listOf its c) ∈ nw ∧ Rows nw its rows)) (e4 : Inv 0 m news) (e5 : (∀ i mi nw (r : Str × Str) (ta tb : Tok) I oI h tk gs, Bg s₁.gens gs → rows[i]? = some r → Inv i mi nw → Fr h₀ env.locals h (fun y => if y = x2 then some (.str r.2 tb) else if y = x1 then some (.str r.1 ta) else mi y) → News h₀ env.locals h ((I, oI) :: nw) → (∀ p ∈ nw, p.1 ≠ I) → (∀ p ∈ news, p.1 < I) →
      wpAny (model prog w) A (execs body env) (RTurn h₀ env.locals s₁ I oI (Inv (i + 1))) E { s₁ with heap := h, toks := tk, gens := gs })) (e6 : (∀ mi nw h tk gs, Bg s₁.gens gs → Inv rows.length mi nw → Fr h₀ env.locals h mi → News h₀ env.locals h nw → Q .next { s₁ with heap := h, toks := tk, gens := gs })) : ForRows prog w A h₀ env x1 x2 body Q E xv s₁
inductive RInv (h₀ : Heap) (L ld aI : Addr) (st : Shared) (len : Nat) (Inv : Nat → (Str → Option Value) → List (Addr × Obj) → Prop) (n : Nat) (s' : Shared) : Prop
  | mk (h' : Heap) (tk : Nat) (gs : Array GenState) (i : Nat) (mi : Str → Option Value) (oI : Obj) (nw : List (Addr × Obj)) (e0 : s' = { st with heap := h', toks := tk, gens := gs }) (e1 : Bg st.gens gs) (e2 : i ≤ len) (e3 : n = len + 1 - i) (e4 : h'.IsListIter aI ld i) (e5 : Fr h₀ L h' mi) (e6 : News h₀ L h' ((aI, oI) :: nw)) (e7 : (∀ p ∈ nw, p.1 ≠ aI)) (e8 : Inv i mi nw) : RInv h₀ L ld aI st len Inv n s'
theorem for_rows {x1 x2 : Str} {pa pb pt pos : Pos} {k : Nat} {iter : Expr} {body : List Stmt} {env : Env} {h₀ : Heap} {Q : Flow → Shared → Prop} (hh : A.handled = none) (hx1 : env.kindOf x1 = some .local) (hx2 : env.kindOf x2 = some .local)
    (hp : (env.scope.kind == .class || (env.scope.kind == .module && env.locals != env.globals)) = false)
    (h : wpAny (model prog w) A (eval iter env) (ForRows prog w A h₀ env x1 x2 body Q E) E s)
    (hs : ∀ x, foldedSetIterable iter env x = pure x := by intro _; rfl) (hE : PassesOwn (model prog w) A env E := by passes_own) :
    wpAny (model prog w) A (exec (.For (.Tuple [.Name x1 pa, .Name x2 pb] k pt) iter body [] pos) env) Q E s := by
  refine wpAny_For (wpAny_mono h (fun xv s₁ h₁ => ?_) fun _ _ e => e) hs
  obtain ⟨ld, its, c, rows, m, news, Inv, rfl, F, N, hI, hI0, turn, fin⟩ := h₁
  have hlm := (hI _ _ _ hI0).1
  have hl : s₁.heap.IsList ld its := ⟨_, (N _ hlm).1, rfl, _, rfl⟩
  have hlt : ld < s₁.heap.objs.size := Heap.lt_size (N _ hlm).1
  have hrl : its.size = rows.length := (hI _ _ _ hI0).2.1
  refine wpAny_pyIter_list hl ?_
  have up : ∀ b o, s₁.heap.get? b = some o → (s₁.heap.push { cls := .type "list_iterator", data := .fields #[.ref ld, .int 0 0] }).get? b = some o := fun b o e => Heap.get?_push_of_some _ e
  have W := Walks.list (prog := prog) (w := w) (A := A) hh s₁.heap.objs.size ld (Nat.ne_of_lt hlt) its
  have hLlt : env.locals < s₁.heap.objs.size := F.ns.lt
  have hIL : env.locals ≠ s₁.heap.objs.size := Nat.ne_of_lt hLlt
  have hI₀ : h₀.get? s₁.heap.objs.size = none := Heap.get?_none_of_le (Nat.le_trans F.above (Nat.le_of_lt hLlt))
  refine codeAny_forLoop_any (RInv h₀ env.locals ld s₁.heap.objs.size s₁ rows.length Inv) ?_ (rows.length + 1)
    ⟨_, _, s₁.gens, 0, m, { cls := .type "list_iterator", data := .fields #[.ref ld, .int 0 0] }, news, rfl, Bg.refl _, Nat.zero_le _, rfl, ⟨_, Heap.get?_push_size _ rfl, rfl, rfl⟩, F.keeps up, fun p hp => ?_, fun p hp => Nat.ne_of_lt (Heap.lt_size (N p hp).1), hI0⟩
  · rintro n s' ⟨h', tk, gs, i, mi, oI, nw, rfl, hbg, hi, rfl, hit, F', N', off, hInv⟩
    obtain ⟨hlm', hR⟩ := hI _ _ _ hInv
    have hl' : h'.IsList ld its := ⟨_, (N' _ (.tail _ hlm')).1, rfl, _, rfl⟩
    by_cases hlti : i < rows.length
    · refine W.item i _ _ _ (by rw [hrl]; exact hlti) ⟨hit, hl'⟩ fun v h₂ tk₂ hPv hst₂ hk₂ => ?_
      obtain ⟨T, r, ta, tb, hr, rfl, hT⟩ := hR.2 i v hPv
      obtain ⟨oI2, heI, hcI, hdI⟩ := hst₂.1
      have F2 : Fr h₀ env.locals h₂ mi := LCg.fr_but F' hk₂ hIL hI₀
      have N2 : News h₀ env.locals h₂ ((s₁.heap.objs.size, oI2) :: nw) := fun p hp => by
        rcases List.mem_cons.mp hp with rfl | hp
        · exact ⟨heI, Ne.symm hIL, hI₀⟩
        · exact ⟨hk₂ _ _ (by simpa using off p hp) (N' p (.tail _ hp)).1, (N' p (.tail _ hp)).2⟩
      obtain ⟨cI, dcI, dI, sI⟩ := oI2
      dsimp only at hcI hdI
      subst hcI hdI
      have hTT : h₂.IsTuple T #[.str r.1 ta, .str r.2 tb] := ⟨_, (N2 _ (.tail _ hT)).1, rfl, _, rfl⟩
      unfold letOwnedTupleGo
      refine wpAny_bind (wpAny_load heI ?_)
      dsimp only
      rw [if_neg (by simp)]
      refine wpAny_pure ?_
      refine wpAny_assign_Tuple hh hTT rfl rfl fun h3 he3 => ?_
      show wpAny _ _ (do holding [.str r.2 tb] (assign (.Name x1 pa) env (.str r.1 ta)); do holding [] (assign (.Name x2 pb) env (.str r.2 tb)); pure ()) _ _ _
      have F3 : Fr h₀ env.locals h3 mi := F2.kept fun b o e => he3 b o (Nat.ne_of_lt (Heap.lt_size e)) e
      have N3 := N2.grown fun b o e => he3 b o (Nat.ne_of_lt (Heap.lt_size e)) e
      refine wpAny_bind (wpAny_holding (wpAny_assign_Name (wpAny_storeName_local hx1 F3.ns (fun h4 hn4 hs4 => ?_) hp)))
      refine wpAny_bind (wpAny_holding (wpAny_assign_Name (wpAny_storeName_local hx2 hn4 (fun h5 hn5 hs5 => wpAny_pure ?_) hp)))
      have F5 := (F3.set hn4 hs4).set hn5 hs5
      have N5 := (N3.set hs4).set hs5
      refine wpAny_mono (wpAny_passesOwn hE (turn i mi nw r ta tb _ _ h5 _ gs hbg hr hInv F5 N5 off fun p hp => Heap.lt_size (N p hp).1)) (fun f s₃ h₃ => ?_) fun _ _ e => e
      obtain ⟨rfl, h₆, tk₆, gs₆, m₆, nw₆, rfl, hbg₆, F₆, N₆, off₆, hI₆⟩ := h₃
      exact ⟨rows.length + 1 - (i + 1), by omega, h₆, tk₆, gs₆, i + 1, m₆, _, nw₆, rfl, hbg₆, hlti, rfl, ⟨_, (N₆ _ (.head _)).1, rfl, rfl⟩, F₆, N₆, off₆, hI₆⟩
    · obtain rfl : i = rows.length := by omega
      have hit2 : h'.IsListIter s₁.heap.objs.size ld its.size := by rw [hrl]; exact hit
      refine W.done _ _ _ ⟨hit2, hl'⟩ fun h₂ tk₂ hk₂ => ?_
      refine wpAny_execs_nil ?_
      exact fin mi nw h₂ tk₂ gs hbg hInv (LCg.fr_but F' hk₂ hIL hI₀) fun p hp => ⟨hk₂ _ _ (by simpa using off p hp) (N' p (.tail _ hp)).1, (N' p (.tail _ hp)).2⟩
  · rcases List.mem_cons.mp hp with rfl | hp
    · exact ⟨Heap.get?_push_size _ rfl, Ne.symm hIL, hI₀⟩
    · exact ⟨up _ _ (N p hp).1, (N p hp).2⟩
end
end Mine
end

section
open PySem PySem.W PyProof.Rows PySem.Calls PySem.Spec
open Sem (wp)
namespace Mine
theorem Rows.sub {news news' : List (Addr × Obj)} {its : Array Value} {rows : List (Str × Str)} (h : Rows news its rows) (hs : ∀ p ∈ news, p ∈ news') : Rows news' its rows :=
  ⟨h.1, fun i v hv => let ⟨a, r, ta, tb, x, y, z⟩ := h.2 i v hv; ⟨a, r, ta, tb, x, y, hs _ z⟩⟩
section
variable {prog : Program} {w : World} {A : Around} {E : Value → Shared → Prop} {s : Shared} {h₀ : Heap} {L : Addr} {m : Str → Option Value} {news : List (Addr × Obj)}
theorem lsort_rows {nw0 : List (Addr × Obj)} {B : Addr} {n : Nat} {vs : List Value} {rows : List (Str × Str)} {Q : Value → Shared → Prop} (F : Fr h₀ L s.heap m) (N : News h₀ L s.heap ((B, listOf vs.toArray n) :: news)) (hB : ∀ q ∈ news, q.1 < B) (hs : ∀ p ∈ nw0, p ∈ news) (hR0 : Rows nw0 vs.toArray rows) (h1 : 1 ≤ rows.length) (h4 : rows.length ≤ 4) (hne : rows.Pairwise fun a b => a.1 ≠ b.1)
    (h : ∀ out c h' rows', Fr h₀ L h' m → News h₀ L h' ((B, listOf out c) :: news) → Rows nw0 out rows' → rows'.Perm rows → rows'.Pairwise (fun a b => ltW a.1 b.1 = true) → Q .none { s with heap := h' }) :
    wpAny (model prog w) A (call (.builtin "list.sort") [.ref B]) Q E s := by
  have hR := hR0.sub hs
  have hlen : vs.length = rows.length := by simpa using hR.1
  have hBn : ∀ q ∈ news, q.1 ≠ B := fun q hq => Nat.ne_of_lt (hB q hq)
  by_cases h2 : 2 ≤ rows.length
  · obtain ⟨d, -⟩ : ∃ d : Str × Str, True := ⟨(Str.empty, Str.empty), trivial⟩
    refine kat_lsort (vs := vs) F N (UpdF.head hBn) (by simp) (by omega) (by omega) fun e1 h' F' N' => ?_
    have Nn : News h₀ L h' news := fun p hp => N' p (.tail _ hp)
    have hRL := rowsL_list hR
    rw [List.toList_toArray] at hRL
    obtain ⟨fs, ht, hfl, hfs⟩ := rowsL_tups Nn hRL
    refine kat_kind (fs := fs) (T := .type "str") ht (by omega) (fun v hv => ?_) (by rfl) ?_
    · obtain ⟨x, t, rfl⟩ := hfs v hv
      exact .now
    rw [show (Value.type "str" != Value.type "tuple") = true from by decide, hlen]
    obtain ⟨hp, hpw⟩ := sort_good h2 h4 (strict_rows hne d)
    have hok : treeOk rows.length (kas_sort rows.length) = true := by
      have hn : rows.length = 2 ∨ rows.length = 3 ∨ rows.length = 4 := by omega
      rcases hn with e | e | e <;> rw [e]
      · exact ok2
      · exact ok3
      · exact ok4
    refine tree_wp (n := rows.length) (lt := fun i j => ltW (rows.getD i d).1 (rows.getD j d).1) (fun i j C hi hj hC => rows_lt (h := h') Nn hR d hi hj (fun hij => pw_getD hne hi hj hij d) hC) _ hok ?_
    generalize (treeRun (fun i j => ltW (rows.getD i d).1 (rows.getD j d).1) (kas_sort rows.length)).toList = p at hp hpw
    refine KasFin.intro F' N' (UpdF.head hBn) fun h'' c F'' N'' => ?_
    refine h _ c h'' (p.map fun i => rows.getD i d) F'' N'' (map_rows hR0 d fun i hi => List.mem_range.mp (hp.mem_iff.mp hi)) ?_ ?_
    · have := hp.map fun i => rows.getD i d
      rw [perm_getD d] at this
      exact this
    · rw [List.pairwise_map]; exact hpw
  · obtain ⟨v, rfl⟩ : ∃ v, vs = [v] := by
      match vs, hlen with
      | [], e => simp at e; omega
      | [v], _ => exact ⟨v, rfl⟩
      | _ :: _ :: _, e => simp at e; omega
    obtain ⟨r, rfl⟩ : ∃ r, rows = [r] := by
      match rows, hlen with
      | [], e => simp at e
      | [r], _ => exact ⟨r, rfl⟩
      | _ :: _ :: _, e => simp at e
    have nb := N (B, _) (.head _)
    exact wpAny_call_entry slot_list_sort ⟨_, nb.1, rfl⟩ entry_list_sort (sort_one (a := B) (v := v) F (fun p hp => N p (.tail _ hp)) nb.1 nb.2.1 nb.2.2 hBn fun h' c F' N' => ⟨_, rfl, h _ c h' [r] F' N' hR0 (List.Perm.refl _) (List.pairwise_singleton _ _)⟩) (args_list_sort _)
theorem kdx_rows {lo : Addr} {C : List Value → List (Addr × Obj) → Prop} : ∀ {kvs : List (Str × Value)} {rows rows0 : List (Str × Str)} {vs0 : List Value} {tups0 : List (Addr × Obj)}, KvOf kvs rows → Rows tups0 vs0.toArray rows0 → (∀ q ∈ tups0, (lo : Nat) < q.1) →
    (∀ vs tups, Rows tups vs.toArray (rows0 ++ rows) → (∀ q ∈ tups, (lo : Nat) < q.1) → C vs tups) → KdxOpen lo news (kvs.map fun p => (kyVal (PyData.str p.1), p.2)) vs0 tups0 C
  | [], [], rows0, vs0, tups0, _, hR, hg, h => KdxOpen.nil (h _ _ (by rw [List.append_nil]; exact hR) hg)
  | [], _ :: _, _, _, _, hk, _, _, _ => hk.elim
  | _ :: _, [], _, _, _, hk, _, _, _ => hk.elim
  | (k, v) :: kvs, r :: rows, rows0, vs0, tups0, ⟨e, ⟨tv, ev⟩, hk⟩, hR, hg, h => by
    refine KdxOpen.cons fun a t hlo hn ht => ?_
    refine kdx_rows (rows0 := rows0 ++ [r]) hk ?_ (fun q hq => ?_) fun vs tups hR' hg' => h vs tups (by simpa using hR') hg'
    · dsimp only at e ev
      subst e ev
      exact rows_snoc hR
    · rcases List.mem_cons.mp hq with rfl | hq
      · exact hlo
      · exact hg q hq
theorem sorted_view {v d : Addr} {od : Obj} {kvs : List (Str × Value)} {rows : List (Str × Str)} {Q : Value → Shared → Prop} (hh : A.handled = none) (F : Fr h₀ L s.heap m) (N : News h₀ L s.heap news) (hvw : (v, { cls := .type "dict_items", data := .fields #[.ref d] }) ∈ news) (hmd : (d, od) ∈ news)
    (hod : od.IsDictOf (PySem.strKind prog w) kvs) (hkv : KvOf kvs rows) (h1 : 1 ≤ rows.length) (h4 : rows.length ≤ 4) (hnd : (rows.map (·.1)).Nodup)
    (h : ∀ lo B out c tups h' tk rows', (∀ q ∈ news, (q.1 : Nat) < lo) → (∀ q ∈ tups, (lo : Nat) < q.1) → (∀ q ∈ tups ++ news, (q.1 : Nat) < B) → Fr h₀ L h' m → News h₀ L h' ((B, listOf out c) :: (news ++ tups)) → Rows tups out rows' → rows'.Perm rows → rows'.Pairwise (fun a b => ltW a.1 b.1 = true) → Q (.ref B) { s with heap := h', toks := tk }) :
    wpAny (model prog w) A (call (.builtin "sorted") [.ref v]) Q E s := by
  refine kdx_sortedN (enc := PyData.str) hh F N hvw hmd hod (by rw [KvOf.len hkv]; omega) (fun k v hv => let ⟨t, e⟩ := Value.isStrOf_shape hv; ⟨t, e⟩) rfl fun lo hlo => ?_
  refine kdx_rows (rows0 := []) hkv ⟨rfl, fun i v hv => by simp at hv⟩ (fun q hq => nomatch hq) fun vs tups hR hg B h' tk hB F' N' => ?_
  rw [List.nil_append] at hR
  refine lsort_rows (s := { s with heap := h', toks := tk }) F' N' hB (fun p hp => List.mem_append_left _ hp) hR h1 h4 (List.pairwise_map.mp hnd) fun out c h2 rows' F2 N2 hR2 hp hpw => ?_
  refine h lo B out c tups h2 tk rows' hlo hg hB F2 (fun p hp => N2 p ?_) hR2 hp hpw
  rcases List.mem_cons.mp hp with rfl | hp
  · exact .head _
  · rcases List.mem_append.mp hp with hp | hp
    · exact .tail _ (List.mem_append_right _ hp)
    · exact .tail _ (List.mem_append_left _ hp)
end
end Mine
end

section
open PySem PySem.W PyProof.Rows PySem.Calls PySem.Spec
open Sem (wp)
namespace Mine
section
variable {prog : Program} {w : World} {A : Around} {E : Value → Shared → Prop} {s : Shared}
inductive PTurn (h₀ : Heap) (L : Addr) (st : Shared) (I : Addr) (oI : Obj) (r : Str × Str) (acc : Array Value) (al : Addr) (g : Obj → List (Addr × Obj)) (tzz : List (Addr × Obj)) (M' : (Str → Option Value) → Prop) (f : Flow) (s₂ : Shared) : Prop
  | mk (e0 : f = .next) (h' : Heap) (tk : Nat) (gs : Array GenState) (c' : Nat) (tp : Addr) (t : Tok) (u : Tok) (m' : Str → Option Value) (e1 : s₂ = { st with heap := h', toks := tk, gens := gs }) (e2 : Bg st.gens gs) (e3 : Fr h₀ L h' m') (e4 : M' m') (e5 : News h₀ L h' ((tp, tupO [.str r.1 t, .str r.2 u]) :: (I, oI) :: (g (listOf (acc.push (.ref tp)) c') ++ tzz))) (e6 : (al : Nat) < tp) (e7 : (I : Nat) < tp) : PTurn h₀ L st I oI r acc al g tzz M' f s₂
theorem rows_src {h₀ : Heap} {env : Env} {x1 x2 : Str} {body : List Stmt} {Q : Flow → Shared → Prop} {ld al : Addr} {its : Array Value} {c ca : Nat} {rows : List (Str × Str)} {m : Str → Option Value} {led tq : List (Addr × Obj)} {g : Obj → List (Addr × Obj)} (M : Nat → (Str → Option Value) → Prop)
    (F : Fr h₀ env.locals s.heap m) (N : News h₀ env.locals s.heap led) (U : UpdF al (listOf #[] ca) led g) (ml : (ld, listOf its c) ∈ led) (hla : ld ≠ al) (hR : Rows tq its rows) (htq : ∀ p ∈ tq, p ∈ led ∧ p.1 ≠ al) (hM : M 0 m)
    (turn : ∀ i (r : Str × Str) (ta tb : Tok) acc ca' tzz mi I oI h tk gs, Bg s.gens gs → rows[i]? = some r → acc.size < 100 → M i mi → (∀ p ∈ tzz, (al : Nat) < p.1) → Fr h₀ env.locals h (fun y => if y = x2 then some (.str r.2 tb) else if y = x1 then some (.str r.1 ta) else mi y) → News h₀ env.locals h ((I, oI) :: (g (listOf acc ca') ++ tzz)) → (∀ p ∈ tzz, p.1 ≠ I) → (∀ p ∈ led, p.1 < I) →
      wpAny (model prog w) A (execs body env) (PTurn h₀ env.locals s I oI r acc al g tzz (M (i + 1))) E { s with heap := h, toks := tk, gens := gs })
    (hz : rows.length < 100)
    (fin : ∀ mi acc ca' tzz h tk gs, Bg s.gens gs → Rows tzz acc rows → M rows.length mi → (∀ p ∈ tzz, (al : Nat) < p.1) → Fr h₀ env.locals h mi → News h₀ env.locals h (g (listOf acc ca') ++ tzz) → Q .next { s with heap := h, toks := tk, gens := gs }) :
    ForRows prog w A h₀ env x1 x2 body Q E (.ref ld) s := by
  obtain ⟨pre, post, e0, hg, n1, n2⟩ := U.split
  have inG : ∀ o p, p ∈ led → p.1 ≠ al → p ∈ g o := fun o p hp hne => by
    rw [e0] at hp
    rw [hg]
    rcases List.mem_append.mp hp with hp | hp
    · exact List.mem_append_left _ hp
    · rcases List.mem_cons.mp hp with rfl | hp
      · exact absurd rfl hne
      · exact List.mem_append_right _ (.tail _ hp)
  have offG : ∀ o p, p ∈ g o → ∃ q ∈ led, q.1 = p.1 := fun o p hp => by
    rw [hg] at hp
    rcases List.mem_append.mp hp with hp | hp
    · exact ⟨p, by rw [e0]; exact List.mem_append_left _ hp, rfl⟩
    · rcases List.mem_cons.mp hp with rfl | hp
      · exact ⟨(al, listOf #[] ca), by rw [e0]; exact List.mem_append_right _ (.head _), rfl⟩
      · exact ⟨p, by rw [e0]; exact List.mem_append_right _ (.tail _ hp), rfl⟩
  have g0 : g (listOf #[] ca) = led := by rw [hg, e0]
  refine ⟨ld, its, c, rows, m, led, fun i mi nw => ∃ acc ca' tzz, nw = g (listOf acc ca') ++ tzz ∧ Rows tzz acc (rows.take i) ∧ M i mi ∧ ∀ p ∈ tzz, (al : Nat) < p.1, rfl, F, N, ?_, ⟨#[], ca, [], by rw [g0, List.append_nil], ⟨rfl, fun i v hv => by simp at hv⟩, hM, fun p hp => nomatch hp⟩, ?_, ?_⟩
  · rintro i mi nw ⟨acc, ca', tzz, rfl, _, _, _⟩
    exact ⟨List.mem_append_left _ (inG _ _ ml hla), hR.sub fun p hp => List.mem_append_left _ (inG _ p (htq p hp).1 (htq p hp).2)⟩
  · rintro i mi nw r ta tb I oI h tk gs hbg hr ⟨acc, ca', tzz, rfl, hRz, hMi, hgt⟩ F' N' off hlt
    have hi : i < rows.length := (List.getElem?_eq_some_iff.mp hr).1
    refine wpAny_mono (turn i r ta tb acc ca' tzz mi I oI h tk gs hbg hr (by rw [hRz.1, List.length_take]; omega) hMi hgt F' N' (fun p hp => off p (List.mem_append_right _ hp)) hlt) (fun f s₂ h₂ => ?_) fun _ _ e => e
    obtain ⟨rfl, h', tk', gs', c', tp, t, u, m', rfl, hbg2, F2, hM2, N2, hal, hI⟩ := h₂
    refine ⟨rfl, h', tk', gs', m', g (listOf (acc.push (.ref tp)) c') ++ ((tp, tupO [.str r.1 t, .str r.2 u]) :: tzz), rfl, hbg2, F2, fun p hp => N2 p ?_, fun p hp => ?_, acc.push (.ref tp), c', _, rfl, ?_, hM2, fun p hp => ?_⟩
    · rcases List.mem_cons.mp hp with rfl | hp
      · exact .tail _ (.head _)
      · rcases List.mem_append.mp hp with hp | hp
        · exact .tail _ (.tail _ (List.mem_append_left _ hp))
        · rcases List.mem_cons.mp hp with rfl | hp
          · exact .head _
          · exact .tail _ (.tail _ (List.mem_append_right _ hp))
    · rcases List.mem_append.mp hp with hp | hp
      · obtain ⟨q, hq, e⟩ := offG _ p hp
        rw [← e]
        exact Nat.ne_of_lt (hlt q hq)
      · rcases List.mem_cons.mp hp with rfl | hp
        · exact Nat.ne_of_gt hI
        · exact off p (List.mem_append_right _ hp)
    · have e : acc.push (Value.ref tp) = (acc.toList ++ [Value.ref tp]).toArray := by
        apply Array.toList_inj.mp
        rw [Array.toList_push]
      rw [List.take_add_one, hr, e]
      exact rows_snoc (by rw [Array.toArray_toList]; exact hRz)
    · rcases List.mem_cons.mp hp with rfl | hp
      · exact hal
      · exact hgt p hp
  · rintro mi nw h tk gs hbg ⟨acc, ca', tzz, rfl, hRz, hMi, hgt⟩ F' N'
    rw [List.take_length] at hRz
    exact fin mi acc ca' tzz h tk gs hbg hRz hMi hgt F' N'
end
end Mine
end

section
open PySem PySem.W PyProof.Rows PySem.Calls PySem.Spec
open Sem (wp)
namespace Mine
theorem sub_list_module : isSubtype (.type "list") (.type "module") = pure false := by rw [isSubtype_type]; kernel_rfl
def sgA : Manifest.Signature := ⟨.oneArg, "list.append", "append", .self, [⟨"object", .posOnly, true⟩]⟩
theorem sg_append : Manifest.signature? "list.append" = some sgA := by
  rw [signature?_of (id := "list.append") (n := ['d', 'n', 'e', 'p', 'p', 'a']) (o := ['t', 's', 'i', 'l']) (by kernel_rfl) PySem.F.owner_list]; kernel_rfl
theorem bk_append : builtinKind "list.append" = some .method := by kernel_rfl
theorem vm_append : Manifest.varargsMethods.contains "list.append" = false := by decide +kernel
theorem ca_append (a b : Value) : Bind.checkArgs "list.append" { sgA with full := s!"{Bind.lastOf "list"}.{Bind.lastOf "list.append"}" } ⟨[a, b], []⟩ = pure () := by kernel_rfl
section
variable {prog : Program} {w : World} {A : Around} {E : Value → Shared → Prop} {s : Shared} {h₀ : Heap} {L : Addr} {m : Str → Option Value} {news news' : List (Addr × Obj)} {out Bm : Addr} {its : Array Value} {n : Nat} {x : Value}
theorem bm_check {Q : Unit → Shared → Prop} (ho : s.heap.get? out = some (listOf its n)) (h : Q () s) : wpAny (model prog w) A (checkBoundCall "list.append" ⟨[.ref out, x], []⟩) Q E s := by
  unfold checkBoundCall
  rw [sg_append, bk_append]
  dsimp only
  rw [if_neg (by decide)]
  refine wpAny_bind (wpAny_isInstance (T := "list") (b := false) ⟨_, ho, rfl⟩ sub_list_module ?_)
  rw [vm_append, if_neg (by decide)]
  have hnt : ∀ {Q' : Bool → Shared → Prop}, Q' false s → wpAny (model prog w) A (isType (.ref out)) Q' E s := by
    intro Q' hq
    simp only [isType, loadHead]
    exact wpAny_bind (wpAny_loadPart' ho (wpAny_pure hq))
  refine wpAny_bind (hnt ?_)
  rw [if_neg (by decide)]
  refine wpAny_bind (wpAny_typeOf (T := "list") ⟨_, ho, rfl⟩ ?_)
  dsimp only
  exact wpAny_of_eq (ca_append _ _) h
theorem bm_write {Q : Value → Shared → Prop} (F : Fr h₀ L s.heap m) (N : News h₀ L s.heap news) (hb : (Bm, bmObj out) ∈ news) (U : Upd out (listOf its n) (listOf (its.push x) (n + 1)) news news')
    (h : ∀ h', Fr h₀ L h' m → News h₀ L h' news' → Q .none { s with heap := h' }) (hsz : its.size ≤ sizeLine := by size_fits) : wpAny (model prog w) A (call (.ref Bm) [x]) Q E s := by
  have hob := (N _ hb).1
  have hout : s.heap.get? out = some (listOf its n) := by
    obtain ⟨pre, post, rfl, rfl, a, b⟩ := U.split
    exact (N (out, listOf its n) (List.mem_append.mpr (.inr (.head _)))).1
  refine wpAny_call ?_
  refine codeAny_of_tree ?_
  show wpAny _ _ (callAny (.ref Bm) _) _ _ _
  refine wpAny_bind (wpAny_load hob ?_)
  show wpAny _ _ (checkBoundCall "list.append" ⟨[.ref out, x], []⟩ >>= fun _ => again (.builtin "list.append" ⟨[.ref out, x], []⟩)) _ _ _
  refine wpAny_bind (bm_check hout ?_)
  refine wpAny_pure ⟨plainId_quiet (by decide +kernel) _, codeAny_builtin entry_list_append ?_⟩
  rw [Around.under_plainId (by decide +kernel) _]
  show wpAny _ _ (updateSeq out (·.push x) >>= fun _ => ret .none) _ _ s
  refine wpAny_bind ?_
  obtain ⟨pre, post, rfl, rfl, a, b⟩ := U.split
  have z := N (out, listOf its n) (List.mem_append.mpr (.inr (.head _)))
  refine wpAny_updateSeq hout rfl (wpAny_pure (h _ (F.change (Heap.SameBut.update ..) z.2.1 z.2.2) (news_set N a b (Heap.SameBut.update ..) ?_))) hsz (by show (its.push x).size ≤ sizeLine + 1; rw [Array.size_push]; omega)
  rw [Heap.get?_update_self _ hout (by rw [mapSeq_push]; rfl), mapSeq_push]
theorem item_last1 {value slice : PySem.Expr} {l : Addr} {v : Value} {u : Tok} {Q : Value → Shared → Prop} (hl : s.heap.IsList l #[v]) (h : Q v s)
    (hs : subscripted slice false (.ref l) (.int (-1) u) = operate [.ref l, .int (-1) u] (getItem (.ref l) (.int (-1) u)) := by with_unfolding_all rfl) :
    wpAny (model prog w) A (subscriptTail value slice (.ref l) (.int (-1) u)) Q E s :=
  tail_any hl.typeIs slot_list_getitem.lookup (wpAny_getItem_list_neg hl (by decide) (by simp) (by decide) (x := v) (by simp) h) hs
end
section
variable {M : Model} {A : Around} {E : Value → Shared → Prop} {s : Shared}
theorem callWith_bmf {pos : Pos} {u a : Addr} {first : List Value} {args : List (Bool × Sem Value)} {Q : Value → Shared → Prop} (hplain : args.any (·.1) = false)
    (h : wpAny M A (evalArgs (.ref u) true args []) (fun x s₁ => s₁.heap.get? u = some (bmObj a) ∧ wpAny M A (call (.ref u) (first ++ x.pos) x.kw) Q E s₁) E s) : wpAny M A (callWith pos (.ref u) first args []) Q E s := by
  unfold callWith
  refine wpAny_bind (wpAny_holding (wpAny_mono h (fun x s₁ h₁ => wpAny_bind (wpAny_standAt ?_)) fun _ _ x => x))
  obtain ⟨ho, hcall⟩ := h₁
  simp only [hplain, List.any_nil, Bool.or_false]
  refine wpAny_bind (m := keeperOf (.ref u)) ?_
  unfold keeperOf
  refine wpAny_bind (wpAny_load ho ?_)
  simp only [bmObj, show (Value.type "builtin_function_or_method" != Value.type "method") = true by decide, show (Value.type "builtin_function_or_method" == Value.type "builtin_function_or_method" || Value.type "builtin_function_or_method" == Value.type "method-wrapper") = true by decide, if_true]
  refine wpAny_pure ?_
  exact wpAny_bind (wpAny_mono hcall (fun r s₂ hr => wpAny_bind (wpAny_holding (wpAny_point (wpAny_pure hr)))) fun _ _ x => x)
theorem callWith_bm {pos : Pos} {u a : Addr} {first : List Value} {env : Env} {e : PySem.Expr} {rest : List PySem.Expr} {Q : Value → Shared → Prop}
    (h : wpAny M A (spliced (backTo pos (starEach (e :: rest) env))) (fun vs s₁ => s₁.heap.get? u = some (bmObj a) ∧ wpAny M A (call (.ref u) (first ++ vs)) Q E s₁) E s)
    (he : starEach (e :: rest) env = (false, eval e env) :: starEach rest env := by rfl) (hplain : (backTo pos (starEach rest env)).any (·.1) = false := by rfl) :
    wpAny M A (callWith pos (.ref u) first (backTo pos (starEach (e :: rest) env)) []) Q E s := by
  rw [he] at h ⊢
  refine callWith_bmf (a := a) (by show (false || (backTo pos (starEach rest env)).any (·.1)) = false; rw [hplain]; rfl) ?_
  exact evalArgs_plain h
theorem callWith_bmN {h₀ : Heap} {L : Addr} {news : List (Addr × Obj)} {pos : Pos} {u a : Addr} {first : List Value} {env : Env} {e : PySem.Expr} {rest : List PySem.Expr} {Q : Value → Shared → Prop} (_N : News h₀ L s.heap news) (_hm : (u, bmObj a) ∈ news)
    (h : wpAny M A (spliced (backTo pos (starEach (e :: rest) env))) (fun vs s₁ => s₁.heap.get? u = some (bmObj a) ∧ wpAny M A (call (.ref u) (first ++ vs)) Q E s₁) E s)
    (he : starEach (e :: rest) env = (false, eval e env) :: starEach rest env := by rfl) (hplain : (backTo pos (starEach rest env)).any (·.1) = false := by rfl) :
    wpAny M A (callWith pos (.ref u) first (backTo pos (starEach (e :: rest) env)) []) Q E s := callWith_bm h he hplain
end
end Mine
end

section
open PySem PySem.W PyProof.Rows PySem.Calls PySem.Spec
set_option maxHeartbeats 0
namespace Mine
noncomputable def wAt (ws : List Str) (k : Int) : Str := ws.getD k.toNat Str.empty
noncomputable def dueLine (ws vs : List Str) (k : Int) : Str := wAt ws k ++ Str.ofString ": " ++ wAt vs k ++ Str.ofString "\r\n"
noncomputable def attrText (r : Str × Str) : Str := Str.ofString " " ++ r.1 ++ Str.ofString "=\"" ++ r.2 ++ Str.ofString "\""
theorem lt_of_all {d : Nat} {l : List (Addr × Obj)} (h : AllLt d l) : ∀ p ∈ l, p.1 < d := by
  induction l with
  | nil => intro p hp; cases hp
  | cons q r ih =>
    intro p hp
    rcases List.mem_cons.mp hp with e | hp
    · rw [e]; exact h.1
    · exact ih h.2 p hp
theorem wAt_len {ws : List Str} (h : ∀ x ∈ ws, x.length < 1000) (k : Int) : (wAt ws k).length < 1000 := by
  unfold wAt
  rw [List.getD_eq_getElem?_getD]
  cases e : ws[k.toNat]? with
  | none => simp; decide
  | some x => exact h x (List.mem_of_getElem? e)
theorem dueLine_len {ws vs : List Str} (h : ∀ x ∈ ws, x.length < 1000) (h' : ∀ x ∈ vs, x.length < 1000) (k : Int) : (dueLine ws vs k).length ≤ 2004 := by
  unfold dueLine
  have e1 : (Str.ofString ": ").length = 2 := by decide
  have e2 : (Str.ofString "\r\n").length = 2 := by decide
  have := wAt_len h k; have := wAt_len h' k
  rw [str_app_len, str_app_len, str_app_len, e1, e2]; omega
theorem attr_len {r : Str × Str} (h1 : r.1.length < 1000) (h2 : r.2.length < 1000) : (attrText r).length ≤ 2004 := by
  unfold attrText
  have e1 : (Str.ofString " ").length = 1 := by decide
  have e2 : (Str.ofString "=\"").length = 2 := by decide
  have e3 : (Str.ofString "\"").length = 1 := by decide
  rw [str_app_len, str_app_len, str_app_len, str_app_len, e1, e2, e3]; omega
theorem join_few {prog : Program} {w : World} {A : Around} {E : Value → Shared → Prop} {s : Shared} {x : Str} {t : Tok} {Q : Value → Shared → Prop} {D : Addr} {items : Array Value} {ys : List Str} (hl : s.heap.IsList D items) (hi : StrsAre items.toList ys) (hx : x.length ≤ 16) (hn : ys.length ≤ 9) (hy : ∀ y ∈ ys, y.length ≤ 2004)
    (h : ∀ t' k, Q (.str (Txt.join x ys) t') { s with toks := k }) : wpAny (model prog w) A (call (.builtin "str.join") [.str x t, .ref D]) Q E s := by
  refine join_list hl hi ?_ h
  have := sum_le hy
  have : ys.length * x.length ≤ 9 * 16 := Nat.mul_le_mul hn hx
  omega
theorem law_due {w : World} {P : Program} {lo : List Str} {mean : ExcName → Option Value} {mg mb : Str → Option Value} {dp un : Nat} {gd : Option (List Code)} {cn : Str} {cs : Scope} {L a : Addr} {ccd : Value} {cl : List (Str × Addr)} {outer : List Env} {A₀ : Around} {base h₀ : Heap} {m : Str → Option Value} {news : List (Addr × Obj)} {s : Shared} {Q E : Value → Shared → Prop}
  (B : Below A₀ base outer h₀) (F : Fr h₀ L s.heap m) (X : (K w.params).In h₀) (N : News h₀ L s.heap news) (T : Top P lo mean mg mb h₀) (hk : cs.kind = .function) (hd : dp + 20 < recursionLimit) (hu : un + 200 < cLine) {hA wA vA sA : Addr} {hv wv vv sv : List Value} {hn wn vn sn : Nat} {js : List Int} {ws vs sp : List Str}
  (mh : (hA, listOf hv.toArray hn) ∈ news) (mw : (wA, listOf wv.toArray wn) ∈ news) (mv : (vA, listOf vv.toArray vn) ∈ news) (ms : (sA, listOf sv.toArray sn) ∈ news)
  (ih : IntsAre hv js) (iw : StrsAre wv ws) (iv : StrsAre vv vs) (is : StrsAre sv sp) (lw : ws.length = 4) (lv : vs.length = 4) (ls : sp.length = 4)
  (hj1 : 1 ≤ js.length) (hj4 : js.length ≤ 4) (hjs : ∀ k ∈ js, 0 ≤ k ∧ k < 4) (hjd : (js.map fun k => (wAt ws k, wAt sp k)).Pairwise fun a b => a.1 ≠ b.1)
  (hret : ∀ (D : Addr) (c : Nat) (n9 : List Int) (rows9 : List (Str × Str)) (t1 t2 t3 : Tok) (h' : Heap) (tk' : Nat), n9.Perm js → n9.Pairwise (· ≤ ·) → rows9.Perm (js.map fun k => (wAt ws k, wAt sp k)) → rows9.Pairwise (fun a b => ltW a.1 b.1 = true) → Fr h₀ L h' m →
    News h₀ L h' ((D, listOf #[.str (Txt.join (Str.ofString ", ") (n9.map (wAt ws))) t1, .str (Txt.join (Str.ofString "") (js.map (dueLine ws vs)) ++ Str.ofString "\r\n") t2, .str (Str.ofString "<f" ++ Txt.join (Str.ofString "") (rows9.map attrText) ++ Str.ofString ">") t3] c) :: news) → AllLt D news → Q (.ref D) { s with heap := h', toks := tk' })
  (hw : ∀ x ∈ ws, x.length < 1000) (hvl : ∀ x ∈ vs, x.length < 1000) (hsl : ∀ x ∈ sp, x.length < 1000) :
  wpAny (model PySem.Challenge.rw_sw0083_01.row.prog w) (ktrTop dp un gd cn cs L a ccd cl outer) (call (.ref 366) [.ref hA, .ref wA, .ref vA, .ref sA]) Q E s := by
  k_with_none
  k_with "chain" => first | with_reducible assumption | exact Nat.lt_succ_self _ | (refine Nat.lt_trans ?_ (by with_reducible assumption); k_extra "chain") | ((fail_if_success (show @LT.lt Nat _ _ 295)); refine Nat.lt_succ_of_lt ?_; k_extra "chain")
  k_with "eval Constant int" => refine Mine.const_intN ?_
  k_with "eval Constant str" => refine Mine.const_strN ?_
  k_with "binaryOp Add int int" => refine Mine.add_intN ?_
  k_with "binaryOp Mod int int" => refine Mine.mod_intN (by decide) ?_
  k_with "ktr_room" => (refine Mine.ltOf (by with_reducible assumption) ?_; (try dsimp only [depth_under_make, depth_under_kw, depth_in1, depth_deeper, depth_caller]); repeat (first | with_reducible exact Nat.le_add_right _ _ | with_reducible refine Mine.leK (Eq.refl (_ + _)) ?_))
  k_with "ktr_units" => (refine Mine.ltOf (by with_reducible assumption) ?_; (try dsimp only [units_in1, units_deeper, Around.mark_units, units_caller]); repeat (first | with_reducible exact Nat.le_add_right _ _ | with_reducible refine Mine.leK (Eq.refl (_ + _)) ?_))
  k_with "size_fits" => first | with_reducible assumption | exact Nat.zero_le _ | exact Mine.fitLt (by with_reducible assumption) (by decide) | exact Mine.fitLe (by with_reducible assumption) (by decide) | exact Mine.catF (by k_extra "cat") | exact Mine.catA (by k_extra "cat")
  k_with "cat" => repeat (first | exact Mine.catB1 (by with_reducible assumption) (by decide) | exact Nat.le_trans (by with_reducible assumption) (by decide) | with_reducible refine Mine.catM (Eq.refl (_ + 10000)) ?_ ?_ | ((with_reducible show (Str.ofString _).length ≤ _); decide) | ((with_reducible show Str.empty.length ≤ _); decide))
  k_with "And" => ((first | (with_reducible show PySem.Str.length (_ ++ _) ≤ sizeLine ∧ _) | ((fail_if_success (with_reducible show _ ∧ _)); dsimp only; (with_reducible show PySem.Str.length (_ ++ _) ≤ sizeLine ∧ _))); refine ⟨Mine.catF (by k_extra "cat"), ?_⟩)
  k_with "andlt" => first | with_reducible assumption | exact (by with_reducible assumption : (@LT.lt Nat _ _ _) ∧ _).1 | exact (by with_reducible assumption : (@LT.lt Nat _ _ _) ∧ (@LT.lt Nat _ _ _) ∧ _).2.1 | exact (by with_reducible assumption : (@LT.lt Nat _ _ _) ∧ (@LT.lt Nat _ _ _) ∧ (@LT.lt Nat _ _ _) ∧ _).2.2.1 | exact (by with_reducible assumption : (@LT.lt Nat _ _ _) ∧ (@LT.lt Nat _ _ _) ∧ (@LT.lt Nat _ _ _) ∧ (@LT.lt Nat _ _ _) ∧ _).2.2.2.1 | exact (by with_reducible assumption : (@LT.lt Nat _ _ _) ∧ (@LT.lt Nat _ _ _) ∧ (@LT.lt Nat _ _ _) ∧ (@LT.lt Nat _ _ _) ∧ (@LT.lt Nat _ _ _) ∧ _).2.2.2.2.1 | exact (by with_reducible assumption : (@LT.lt Nat _ _ _) ∧ (@LT.lt Nat _ _ _) ∧ (@LT.lt Nat _ _ _) ∧ (@LT.lt Nat _ _ _) ∧ (@LT.lt Nat _ _ _) ∧ (@LT.lt Nat _ _ _) ∧ _).2.2.2.2.2.1 | exact (by with_reducible assumption : (@LT.lt Nat _ _ _) ∧ (@LT.lt Nat _ _ _) ∧ (@LT.lt Nat _ _ _) ∧ (@LT.lt Nat _ _ _) ∧ (@LT.lt Nat _ _ _) ∧ (@LT.lt Nat _ _ _) ∧ (@LT.lt Nat _ _ _) ∧ _).2.2.2.2.2.2.1 | exact (by with_reducible assumption : (@LT.lt Nat _ _ _) ∧ (@LT.lt Nat _ _ _) ∧ (@LT.lt Nat _ _ _) ∧ (@LT.lt Nat _ _ _) ∧ (@LT.lt Nat _ _ _) ∧ (@LT.lt Nat _ _ _) ∧ (@LT.lt Nat _ _ _) ∧ (@LT.lt Nat _ _ _) ∧ _).2.2.2.2.2.2.2.1 | exact (by with_reducible assumption : (@LT.lt Nat _ _ _) ∧ (@LT.lt Nat _ _ _) ∧ (@LT.lt Nat _ _ _) ∧ (@LT.lt Nat _ _ _) ∧ (@LT.lt Nat _ _ _) ∧ (@LT.lt Nat _ _ _) ∧ (@LT.lt Nat _ _ _) ∧ (@LT.lt Nat _ _ _) ∧ (@LT.lt Nat _ _ _) ∧ _).2.2.2.2.2.2.2.2.1
  k_with "k_ne" => (refine neN ?_; (try dsimp only); first | with_reducible assumption | exact Ne.symm (by with_reducible assumption) | (refine Mine.neGt ?_; k_extra "andlt") | (refine Nat.ne_of_lt ?_; k_extra "andlt") | omega)
  k_with "k_mem" => first | exact List.Mem.head _ | (refine' List.Mem.tail _ ?_; k_mem) | assumption
  k_with "CompSrc" => (k_here; k_dflt (refine LCg.CompSrc.ledger (by rfl) (by k_asm) (by k_asm) (by k_mem) (by first | size_fits | (rw [sizeLine_eq]; omega) | (rw [sizeLine_eq]; simp; omega)) ?_; intro kw_g'); refine Hold.out ?_)
  k_with "SrcLP" => (k_here; k_dflt (refine LCp.SrcLP.ledger (by rfl) (by k_asm) (by k_asm) (by k_mem) (by first | size_fits | (rw [sizeLine_eq]; omega) | (rw [sizeLine_eq]; simp; omega)) ?_; intro kw_g'); refine Hold.out ?_)
  k_with "CompEnd" => first
    | (refine LCg.CompEnd.intro (by assumption) (by assumption) _ (fun p hp => hp) (by assumption) (by first | lcg_src | exact .inr ⟨_, by k_mem, rfl, _, rfl⟩) ?_)
    | (refine LCg.CompEnd.intro (by assumption) (by assumption) (_ :: _) mem_rot ⟨⟨by omega, by omega, by omega⟩, by assumption⟩ (by first | lcg_src | exact .inr ⟨_, by k_mem, rfl, _, rfl⟩) ?_)
  k_with "call builtin:str.join" => (refine Hold.out ?_)
  k_with "call builtin:sorted" => first | ((rename Rows _ _ _ => kw_hRw); refine Hold.out ?_) | (k_here; k_dflt (refine' kso_sorted ?k1 ?k2 ?k3 ?k4 ?k5 ?_; (case k1 => k_asm); (case k2 => k_asm); (case k3 => exact News.isList (by k_asm) (by k_mem)); (case k4 => assumption); (case k5 => omega)); intro kw_D' kw_v' kw_n' kw_c' kw_h' kw_F' kw_N' kw_l1 kw_i' kw_e' kw_p' kw_o' kw_b'; (try k_lt kw_l1))
  k_with "call ref" => ((with_reducible show wpAny _ _ (call (Value.ref 366) _) _ _ _); (refine wpAny_call ?_); k_dflt (refine' code_defC ?k1 ?k2 ?k3 ?k4 ?k5 ?kA ?kF ?kK ?k6 ?k7 ?k8 ?k9 ?kB ?kD ?_ ?c2 ?c3 ?c4; (case kA => exact rfl); (case kF => exact rfl); (case kK => first | exact rfl | assumption); (case k1 => k_asm); (case k2 => k_asm); (case k3 => k_asm); (case k4 => k_asm); (case k5 => k_asm); (case k6 => k_is); (case k7 => k_is); (case k8 => ktr_room); (case k9 => exact BindsTo.of_eq rfl); (case kB => exact rfl); (case kD => decide +kernel); (case c2 => exact rfl); (case c3 => exact rfl); (case c4 => exact rfl); k_whole; intro kw_g' kw_L' kw_h' kw_tk' kw_cells' kw_FG' kw_F' kw_N' kw_Y' kw_B' kw_X' kw_T' kw_l1; (try k_lt kw_l1); k_cells kw_Y'; (try simp only [List.cons_append, List.nil_append] at kw_N'); (try dsimp only); (try k_lift kw_B'); (try k_fold)))
  k_with "eval ListComp" => (k_here; (with_reducible show wpAny _ _ (eval (Expr.ListComp _ [⟨Expr.Name _ _, _, [], _⟩] _ _) _) _ _ _); k_dflt (refine LCg.ListComp_U (F₀ := by k_asm) (by with_unfolding_all rfl) (by decide) (by rfl) (by decide) (by rfl) ?_))
  k_with "eval ListComp" => (k_here; (with_reducible show wpAny _ _ (eval (Expr.ListComp _ [⟨Expr.Tuple _ _ _, _, [], _⟩] _ _) _) _ _ _); k_dflt (refine LCp.ListComp_P (F₀ := by k_asm) (by with_unfolding_all rfl) (by decide) (by rfl) (by decide) (by rfl) (by rfl) (by decide) ?_))
  k_with "subscriptTail Name Name ref int" => (k_here; k_dflt (refine' item_sv ?l ?s ?a ?b ?c ?_; (case l => exact News.isList (by k_asm) (by k_mem)); (case s => assumption); (case a => omega); (case b => omega); (case c => omega)); intro _)
  k_with "binaryOp Add str str" => ((refine add_str (s := ⟨_, _, _, _, _⟩) ?_ (by first | size_fits | (simp only [str_app_len, sizeLine_eq]; omega))); intro kw_t' kw_tk'; (try dsimp only))
  have e1 : (Str.ofString ": ").length = 2 := by decide
  have e2 : (Str.ofString "\r\n").length = 2 := by decide
  have e3 : (Str.ofString " ").length = 1 := by decide
  have e4 : (Str.ofString "=\"").length = 2 := by decide
  have e5 : (Str.ofString "\"").length = 1 := by decide
  have e6 : (Str.ofString "<f").length = 2 := by decide
  have e7 : (Str.ofString ">").length = 1 := by decide
  have e8 : (Str.ofString "").length = 0 := by decide
  revert X; k_fill; intro X
  k_steps
  unfold Hold
  rename List Int => n9
  rename List.Perm _ _ => p9
  rename IntsAre _ _ => i9
  have b9 : ∀ k ∈ n9, 0 ≤ k ∧ k < 4 := fun k hk => hjs k (p9.mem_iff.mp hk)
  have z9 : n9.length = js.length := p9.length_eq
  refine compU_each (fun i ys nw => nw = _ ∧ StrsAre ys ((n9.take i).map (wAt ws))) ⟨rfl, .nil⟩ ?_ ?_
  · intro i ys nw v I oI C oC D m₂ h tk E' R hi hI hv hC hx F' N' off' ne hR'
    obtain ⟨rfl, hst⟩ := hI
    obtain ⟨k, tk, hk, rfl⟩ := int_at i9 hv
    obtain ⟨hk0, hk4⟩ := b9 k (List.mem_of_getElem? hk)
    k_steps
    refine hR' _ _ ⟨rfl, ?_⟩
    rw [List.take_add_one, hk, Option.toList_some, List.map_append]
    exact kct_snoc hst
  · rintro ys nw ⟨rfl, hst⟩
    rw [List.size_toArray, IntsAre.length i9, List.take_length] at hst
    k_steps
    unfold Hold
    refine join_few (s := ⟨_, _, _, _, _⟩) (ys := n9.map (wAt ws)) (by is_list) (by simpa using hst) (by decide) (by rw [List.length_map]; omega) ?_ ?_
    · intro y hy
      obtain ⟨k, _, rfl⟩ := List.mem_map.mp hy
      exact Nat.le_of_lt (Nat.lt_of_lt_of_le (wAt_len hw k) (by decide))
    intro t1 k1
    k_steps
    unfold Hold
    refine compU_each (fun i ys nw => nw = _ ∧ StrsAre ys ((js.take i).map (dueLine ws vs))) ⟨rfl, .nil⟩ ?_ ?_
    · intro i ys nw v I oI C oC D m₂ h tk E' R hi hI hv hC hx F' N' off' ne hR'
      obtain ⟨rfl, hst⟩ := hI
      obtain ⟨k, tk, hk, rfl⟩ := int_at ih hv
      obtain ⟨hk0, hk4⟩ := hjs k (List.mem_of_getElem? hk)
      have q1 := wAt_len hw k
      have q2 := wAt_len hvl k
      unfold wAt at q1 q2
      k_steps
      refine hR' _ _ ⟨rfl, ?_⟩
      rw [List.take_add_one, hk, Option.toList_some, List.map_append]
      exact kct_snoc hst
    · rintro ys nw ⟨rfl, hst⟩
      rw [List.size_toArray, IntsAre.length ih, List.take_length] at hst
      k_steps
      unfold Hold
      refine join_few (s := ⟨_, _, _, _, _⟩) (ys := js.map (dueLine ws vs)) (by is_list) (by simpa using hst) (by decide) (by rw [List.length_map]; omega) ?_ ?_
      · intro y hy
        obtain ⟨k, _, rfl⟩ := List.mem_map.mp hy
        exact dueLine_len hw hvl k
      intro t2 k2
      have q3 := join_len (sep := Str.ofString "") (ys := js.map (dueLine ws vs)) (B := 2004) (by
        intro y hy
        obtain ⟨k, _, rfl⟩ := List.mem_map.mp hy
        exact dueLine_len hw hvl k)
      rw [List.length_map, e8] at q3
      have q3 := Nat.le_trans q3 (Nat.mul_le_mul_right (0 + 2004) hj4)
      k_steps
      unfold Hold
      refine compU_each (fun i ys nw => (∀ p ∈ _, p ∈ nw) ∧ Rows nw ys.toArray ((js.take i).map fun k => (wAt ws k, wAt sp k))) ⟨fun p hp => hp, rfl, fun i v h => by simp at h⟩ ?_ ?_
      · intro i ys nw v I oI C oC D m₂ h tk E' R hi hI hv hC hx F' N' off' ne hR'
        obtain ⟨hsub, hrow⟩ := hI
        have hs2 := hsub
        simp only [List.forall_mem_cons] at hs2
        repeat (obtain ⟨_, hs2⟩ := hs2)
        have mh2 := hs2 _ mh
        have mw2 := hs2 _ mw
        have ms2 := hs2 _ ms
        obtain ⟨k, tk, hk, rfl⟩ := int_at ih hv
        obtain ⟨hk0, hk4⟩ := hjs k (List.mem_of_getElem? hk)
        k_steps
        refine hR' _ _ ⟨fun p hp => .tail _ (hsub p hp), ?_⟩
        rw [List.take_add_one, hk, Option.toList_some, List.map_append]
        exact rows_snoc hrow
      · rintro ys nw ⟨hsub, hrow⟩
        rw [List.size_toArray, IntsAre.length ih, List.take_length] at hrow
        have hs2 := hsub
        simp only [List.forall_mem_cons] at hs2
        repeat (obtain ⟨_, hs2⟩ := hs2)
        k_steps
        unfold Hold
        rename Rows _ _ _ => hrow
        refine sorted_rows (s := ⟨_, _, _, _, _⟩) (news := nw) (vs := ys) (rows := js.map fun k => (wAt ws k, wAt sp k)) (by k_asm) (cb_drop (by assumption) (fun p hp => .tail _ hp)) (by is_list) hrow (by rw [List.length_map]; omega) (by rw [List.length_map]; omega) hjd ?_
        intro D9 out c9 h9 rows9 F9 N9 l9 R9 p9' s9
        try dsimp only at F9 N9 ⊢
        have o9 : out.size = rows9.length := R9.1
        have o10 : rows9.length = js.length := by rw [p9'.length_eq, List.length_map]
        have b10 : ∀ r ∈ rows9, r.1.length < 1000 ∧ r.2.length < 1000 := by
          intro r hr
          obtain ⟨k, _, rfl⟩ := List.mem_map.mp (p9'.mem_iff.mp hr)
          exact ⟨wAt_len hw k, wAt_len hsl k⟩
        clear hrow
        k_steps
        unfold Hold
        refine compP_each (fun i ys nw => nw = _ ∧ StrsAre ys ((rows9.take i).map attrText)) ⟨rfl, .nil⟩ ?_ ?_
        · intro i ys nw v hi hI hv
          obtain ⟨rfl, hst⟩ := hI
          obtain ⟨b, r, ta, tb, hr, rfl, hm⟩ := R9.2 i v hv
          refine ⟨b, _, .str r.1 ta, .str r.2 tb, 0, rfl, .tail _ hm, rfl, rfl, ?_⟩
          intro I oI C oC D m₂ h tk E' R hC hx hx2 F' N' off' ne hR'
          obtain ⟨q4, q5⟩ := b10 r (List.mem_of_getElem? hr)
          k_steps
          refine hR' _ _ ⟨rfl, ?_⟩
          rw [List.take_add_one, hr, Option.toList_some, List.map_append]
          exact kct_snoc hst
        · rintro ys nw ⟨rfl, hst⟩
          rw [o9, List.take_length] at hst
          k_steps
          unfold Hold
          refine join_few (s := ⟨_, _, _, _, _⟩) (ys := rows9.map attrText) (by is_list) (by simpa using hst) (by decide) (by rw [List.length_map]; omega) ?_ ?_
          · intro y hy
            obtain ⟨r, hr, rfl⟩ := List.mem_map.mp hy
            exact attr_len (b10 r hr).1 (b10 r hr).2
          intro t3 k3
          have q6 := join_len (sep := Str.ofString "") (ys := rows9.map attrText) (B := 2004) (by
            intro y hy
            obtain ⟨r, hr, rfl⟩ := List.mem_map.mp hy
            exact attr_len (b10 r hr).1 (b10 r hr).2)
          rw [List.length_map, e8, o10] at q6
          have q6 := Nat.le_trans q6 (Nat.mul_le_mul_right (0 + 2004) hj4)
          k_steps
          rename News _ _ _ _ => N8
          refine hret _ _ n9 rows9 _ _ _ _ _ p9 (by assumption) p9' s9 (by k_asm) (cb_drop N8 (List.forall_mem_cons.mpr ⟨.head _, fun p hp => ?sub⟩)) ?lt
          case sub =>
            have hp2 := hs2 p hp
            repeat (first | exact hp2 | refine List.Mem.tail _ ?_)
          case lt =>
            refine allLt_of fun p hp => lt_of_all (l := nw) ?_ p (hs2 p hp)
            tbn_find
end Mine
end

section
open PySem PySem.W PyProof.Rows PySem.Calls PySem.Spec
open Sem (wp)
namespace Mine
section
variable {prog : Program} {w : World} {A : Around} {E : Value → Shared → Prop} {s : Shared}
inductive ITurn (h₀ : Heap) (L : Addr) (st : Shared) (I : Addr) (oI : Obj) (Inv' : (Str → Option Value) → List (Addr × Obj) → Prop) (f : Flow) (s₂ : Shared) : Prop
  | mk (e0 : f = .next) (h' : Heap) (tk : Nat) (gs : Array GenState) (dr : Drawn) (m' : Str → Option Value) (nw' : List (Addr × Obj)) (e1 : s₂ = ⟨h', gs, dr, tk, st.os⟩) (e2 : Bg st.gens gs) (e3 : Fr h₀ L h' m') (e4 : News h₀ L h' ((I, oI) :: nw')) (e5 : ∀ p ∈ nw', p.1 ≠ I) (e6 : Inv' m' nw') : ITurn h₀ L st I oI Inv' f s₂
inductive ForInts (prog : Program) (w : World) (A : Around) (h₀ : Heap) (env : Env) (x1 : Str) (body : List Stmt) (Q : Flow → Shared → Prop) (E : Value → Shared → Prop) (xv : Value) (s₁ : Shared) : Prop
  | mk (ld : Addr) (vs : List Value) (c : Nat) (ns : List Int) (m : Str → Option Value) (news : List (Addr × Obj)) (Inv : Nat → (Str → Option Value) → List (Addr × Obj) → Prop)
    (e1 : xv = .ref ld) (e2 : IntsAre vs ns) (e3 : Fr h₀ env.locals s₁.heap m) (e4 : News h₀ env.locals s₁.heap news) (e5 : ∀ i mi nw, Inv i mi nw → (ld, listOf vs.toArray c) ∈ nw) (e6 : Inv 0 m news)
    (e7 : ∀ i mi nw (r : Int) (ta : Tok) I oI h tk gs dr, Bg s₁.gens gs → ns[i]? = some r → Inv i mi nw → Fr h₀ env.locals h (fun y => if y = x1 then some (.int r ta) else mi y) → News h₀ env.locals h ((I, oI) :: nw) → (∀ p ∈ nw, p.1 ≠ I) → (∀ p ∈ news, p.1 < I) → (∃ z, oI.data = .fields #[.ref ld, .int z 0]) →
      wpAny (model prog w) A (execs body env) (ITurn h₀ env.locals s₁ I oI (Inv (i + 1))) E ⟨h, gs, dr, tk, s₁.os⟩)
    (e8 : ∀ mi nw h tk gs dr, Bg s₁.gens gs → Inv ns.length mi nw → Fr h₀ env.locals h mi → News h₀ env.locals h nw → Q .next ⟨h, gs, dr, tk, s₁.os⟩) : ForInts prog w A h₀ env x1 body Q E xv s₁
inductive FIInv (h₀ : Heap) (L ld aI : Addr) (st : Shared) (len : Nat) (Inv : Nat → (Str → Option Value) → List (Addr × Obj) → Prop) (n : Nat) (s' : Shared) : Prop
  | mk (h' : Heap) (tk : Nat) (gs : Array GenState) (dr : Drawn) (i : Nat) (mi : Str → Option Value) (oI : Obj) (nw : List (Addr × Obj)) (e1 : s' = ⟨h', gs, dr, tk, st.os⟩) (e2 : Bg st.gens gs) (e3 : i ≤ len) (e4 : n = len + 1 - i) (e5 : h'.IsListIter aI ld i) (e6 : Fr h₀ L h' mi) (e7 : News h₀ L h' ((aI, oI) :: nw)) (e8 : ∀ p ∈ nw, p.1 ≠ aI) (e9 : Inv i mi nw) : FIInv h₀ L ld aI st len Inv n s'
theorem for_ints {x1 : Str} {pa pos : Pos} {iter : Expr} {body : List Stmt} {env : Env} {h₀ : Heap} {Q : Flow → Shared → Prop} (hh : A.handled = none) (hx1 : env.kindOf x1 = some .local)
    (hp : (env.scope.kind == .class || (env.scope.kind == .module && env.locals != env.globals)) = false)
    (h : wpAny (model prog w) A (eval iter env) (ForInts prog w A h₀ env x1 body Q E) E s)
    (hs : ∀ x, foldedSetIterable iter env x = pure x := by intro _; rfl) (hE : PassesOwn (model prog w) A env E := by passes_own) :
    wpAny (model prog w) A (exec (.For (.Name x1 pa) iter body [] pos) env) Q E s := by
  refine wpAny_For (wpAny_mono h (fun xv s₁ h₁ => ?_) fun _ _ e => e) hs
  obtain ⟨ld, vs, c, ns, m, news, Inv, rfl, hi, F, N, hI, hI0, turn, fin⟩ := h₁
  have hlm := hI _ _ _ hI0
  have hl : s₁.heap.IsList ld vs.toArray := ⟨_, (N _ hlm).1, rfl, _, rfl⟩
  have hlt : ld < s₁.heap.objs.size := Heap.lt_size (N _ hlm).1
  have hrl : vs.toArray.size = ns.length := by rw [List.size_toArray]; exact hi.length
  refine wpAny_pyIter_list hl ?_
  have up : ∀ b o, s₁.heap.get? b = some o → (s₁.heap.push { cls := .type "list_iterator", data := .fields #[.ref ld, .int 0 0] }).get? b = some o := fun b o e => Heap.get?_push_of_some _ e
  have W := Walks.list (prog := prog) (w := w) (A := A) hh s₁.heap.objs.size ld (Nat.ne_of_lt hlt) vs.toArray
  have hLlt : env.locals < s₁.heap.objs.size := F.ns.lt
  have hIL : env.locals ≠ s₁.heap.objs.size := Nat.ne_of_lt hLlt
  have hI₀ : h₀.get? s₁.heap.objs.size = none := Heap.get?_none_of_le (Nat.le_trans F.above (Nat.le_of_lt hLlt))
  refine codeAny_forLoop_any (FIInv h₀ env.locals ld s₁.heap.objs.size s₁ ns.length Inv) ?_ (ns.length + 1)
    ⟨_, _, s₁.gens, s₁.drawn, 0, m, { cls := .type "list_iterator", data := .fields #[.ref ld, .int 0 0] }, news, rfl, Bg.refl _, Nat.zero_le _, rfl, ⟨_, Heap.get?_push_size _ rfl, rfl, rfl⟩, F.keeps up, fun p hp => ?_, fun p hp => Nat.ne_of_lt (Heap.lt_size (N p hp).1), hI0⟩
  · rintro n s' ⟨h', tk, gs, dr, i, mi, oI, nw, rfl, hbg, hi2, rfl, hit, F', N', off, hInv⟩
    have hlm' := hI _ _ _ hInv
    have hl' : h'.IsList ld vs.toArray := ⟨_, (N' _ (.tail _ hlm')).1, rfl, _, rfl⟩
    by_cases hlti : i < ns.length
    · refine W.item i _ _ _ (by rw [hrl]; exact hlti) ⟨hit, hl'⟩ fun v h₂ tk₂ hPv hst₂ hk₂ => ?_
      obtain ⟨t, hx⟩ := hi.get i ns[i] (by simp [hlti])
      have hv : v = .int ns[i] t := by
        have hP' : vs[i]? = some v := by simpa using hPv
        rw [hx] at hP'; exact (Option.some.inj hP').symm
      subst hv
      obtain ⟨oI2, heI, hcI, hdI⟩ := hst₂.1
      have F2 : Fr h₀ env.locals h₂ mi := LCg.fr_but F' hk₂ hIL hI₀
      have N2 : News h₀ env.locals h₂ ((s₁.heap.objs.size, oI2) :: nw) := fun p hp => by
        rcases List.mem_cons.mp hp with rfl | hp
        · exact ⟨heI, Ne.symm hIL, hI₀⟩
        · exact ⟨hk₂ _ _ (by simpa using off p hp) (N' p (.tail _ hp)).1, (N' p (.tail _ hp)).2⟩
      obtain ⟨cI, dcI, dI, sI⟩ := oI2
      dsimp only at hcI hdI
      subst hcI hdI
      refine wpAny_pure ?_
      refine wpAny_assign_Name (wpAny_storeName_local hx1 F2.ns (fun h4 hn4 hs4 => ?_) hp)
      have F5 := F2.set hn4 hs4
      have N5 := N2.set hs4
      refine wpAny_mono (wpAny_passesOwn hE (turn i mi nw ns[i] t _ _ h4 _ gs dr hbg (by simp [hlti]) hInv F5 N5 off (fun p hp => Heap.lt_size (N p hp).1) ⟨_, rfl⟩)) (fun f s₃ h₃ => ?_) fun _ _ e => e
      obtain ⟨rfl, h₆, tk₆, gs₆, dr₆, m₆, nw₆, rfl, hbg₆, F₆, N₆, off₆, hI₆⟩ := h₃
      exact ⟨ns.length + 1 - (i + 1), by omega, h₆, tk₆, gs₆, dr₆, i + 1, m₆, _, nw₆, rfl, hbg₆, hlti, rfl, ⟨_, (N₆ _ (.head _)).1, rfl, rfl⟩, F₆, N₆, off₆, hI₆⟩
    · obtain rfl : i = ns.length := by omega
      have hit2 : h'.IsListIter s₁.heap.objs.size ld vs.toArray.size := by rw [hrl]; exact hit
      refine W.done _ _ _ ⟨hit2, hl'⟩ fun h₂ tk₂ hk₂ => ?_
      refine wpAny_execs_nil ?_
      exact fin mi nw h₂ tk₂ gs dr hbg hInv (LCg.fr_but F' hk₂ hIL hI₀) fun p hp => ⟨hk₂ _ _ (by simpa using off p hp) (N' p (.tail _ hp)).1, (N' p (.tail _ hp)).2⟩
  · rcases List.mem_cons.mp hp with rfl | hp
    · exact ⟨Heap.get?_push_size _ rfl, Ne.symm hIL, hI₀⟩
    · exact ⟨up _ _ (N p hp).1, (N p hp).2⟩
end
end Mine
end

section
open PySem PySem.W PyProof.Rows PySem.Calls PySem.Spec
set_option maxHeartbeats 0
namespace Mine
def Hld (P : Prop) : Prop := P
theorem Hld.out {P : Prop} (h : Hld P) : P := h
section
variable {prog : Program} {w : World} {A : Around} {E : Value → Shared → Prop} {s : Shared} {env : Env} {h₀ : Heap}
inductive WhN (h₀ : Heap) (L : Addr) (n : Str) (m₀ : Str → Option Value) (news : List (Addr × Obj)) (J : Int → Prop) (μ : Int → Nat) (s : Shared) (i : Int) (f : Flow) (s₃ : Shared) : Prop
  | mk (e0 : f = .next) (i' : Int) (t' : Tok) (h' : Heap) (tk' : Nat) (e1 : s₃ = { s with heap := h', toks := tk' }) (e2 : Fr h₀ L h' (fun y => if y = n then some (.int i' t') else m₀ y)) (e3 : News h₀ L h' news) (e4 : J i') (e5 : μ i' < μ i) : WhN h₀ L n m₀ news J μ s i f s₃
inductive WhX (h₀ : Heap) (L : Addr) (n : Str) (m₀ : Str → Option Value) (news : List (Addr × Obj)) (Ex : Int → Prop) (s s₂ : Shared) : Prop
  | mk (i : Int) (t : Tok) (h : Heap) (tk : Nat) (e0 : s₂ = { s with heap := h, toks := tk }) (e1 : Fr h₀ L h (fun y => if y = n then some (.int i t) else m₀ y)) (e2 : News h₀ L h news) (e3 : Ex i) : WhX h₀ L n m₀ news Ex s s₂
theorem WhN.intro {h₀ : Heap} {L : Addr} {n : Str} {m₀ m : Str → Option Value} {news : List (Addr × Obj)} {J : Int → Prop} {μ : Int → Nat} {s : Shared} {i i' : Int} {t' : Tok} {h' : Heap} {tk' : Nat} (F : Fr h₀ L h' m) (N : News h₀ L h' news)
    (hm : m = fun y => if y = n then some (.int i' t') else m₀ y) (hJ : J i') (hμ : μ i' < μ i) : WhN h₀ L n m₀ news J μ s i .next { s with heap := h', toks := tk' } := ⟨rfl, i', t', h', tk', rfl, hm ▸ F, N, hJ, hμ⟩
theorem WhX.intro {h₀ : Heap} {L : Addr} {n : Str} {m₀ : Str → Option Value} {news : List (Addr × Obj)} {Ex : Int → Prop} {s : Shared} {i : Int} {t : Tok} {h : Heap} {tk : Nat} (F : Fr h₀ L h (fun y => if y = n then some (.int i t) else m₀ y)) (N : News h₀ L h news) (hE : Ex i) :
    WhX h₀ L n m₀ news Ex s { s with heap := h, toks := tk } := ⟨i, t, h, tk, rfl, F, N, hE⟩
inductive WInv (h₀ : Heap) (L : Addr) (n : Str) (m₀ : Str → Option Value) (news : List (Addr × Obj)) (J : Int → Prop) (μ : Int → Nat) (s : Shared) (k : Nat) (s' : Shared) : Prop
  | mk (i : Int) (t : Tok) (h : Heap) (tk : Nat) (e0 : s' = { s with heap := h, toks := tk }) (e1 : J i) (e2 : Fr h₀ L h (fun y => if y = n then some (.int i t) else m₀ y)) (e3 : News h₀ L h news) (e4 : k = μ i) : WInv h₀ L n m₀ news J μ s k s'
theorem while_int {n : Str} {test : Expr} {body : List Stmt} {pos : Pos} {Q : Flow → Shared → Prop} {m₀ : Str → Option Value} {news : List (Addr × Obj)} (J Ex : Int → Prop) (μ : Int → Nat) {i₀ : Int} {t₀ : Tok}
    (F₀ : Fr h₀ env.locals s.heap m₀) (N₀ : News h₀ env.locals s.heap news) (hm : m₀ n = some (.int i₀ t₀)) (h0 : J i₀)
    (turn : ∀ i t h tk, J i → Fr h₀ env.locals h (fun y => if y = n then some (.int i t) else m₀ y) → News h₀ env.locals h news → wpAny (model prog w) A (isTrue test env (eval test env)) (fun b s₂ =>
      if b then wpAny (model prog w) A (execs body env) (WhN h₀ env.locals n m₀ news J μ s i) E s₂ else WhX h₀ env.locals n m₀ news Ex s s₂) E { s with heap := h, toks := tk })
    (exit : ∀ i t h tk, Ex i → Fr h₀ env.locals h (fun y => if y = n then some (.int i t) else m₀ y) → News h₀ env.locals h news → Q .next { s with heap := h, toks := tk })
    (hE : PassesOwn (model prog w) A env E := by passes_own) : wpAny (model prog w) A (exec (.While test body [] pos) env) Q E s := by
  refine wpAny_While (codeAny_whileLoop (WInv h₀ env.locals n m₀ news J μ s) ?_ (μ i₀) ⟨i₀, t₀, s.heap, s.toks, rfl, h0, ?_, N₀, rfl⟩)
  · rintro k s' ⟨i, t, h, tk, rfl, hJ, F, N, rfl⟩
    refine wpAny_mono (wpAny_passesOwn hE (turn i t h tk hJ F N)) (fun b s₂ hb => ?_) fun _ _ e => e
    cases b with
    | true =>
      simp only [if_true] at hb ⊢
      refine wpAny_mono (wpAny_passesOwn hE hb) (fun f s₃ hf => ?_) fun _ _ e => e
      obtain ⟨rfl, i', t', h', tk', rfl, F', N', hJ', hμ⟩ := hf
      exact ⟨μ i', hμ, i', t', h', tk', rfl, hJ', F', N', rfl⟩
    | false =>
      simp only [Bool.false_eq_true, if_false] at hb ⊢
      obtain ⟨i', t', h', tk', rfl, F', N', hX⟩ := hb
      exact wpAny_execs_nil (exit i' t' h' tk' hX F' N')
  · have e : (fun y => if y = n then some (Value.int i₀ t₀) else m₀ y) = m₀ := by
      funext y
      by_cases h : y = n
      · rw [if_pos h, h, hm]
      · rw [if_neg h]
    rw [e]; exact F₀
end
end Mine
end

section
open PySem PySem.W PyProof.Rows PySem.Calls PySem.Spec
namespace Mine
/-- one text is the other with a piece of d signs put in -/
def InsOf (x y : Str) (d : Nat) : Prop := ∃ p m s : List Nat, m.length = d ∧ ((x.cps.toList = p ++ s ∧ y.cps.toList = p ++ m ++ s) ∨ (y.cps.toList = p ++ s ∧ x.cps.toList = p ++ m ++ s))
def Suf (a b : Str) (d : Nat) : Prop := ∃ m : List Nat, m.length = d ∧ (b.cps.toList = m ++ a.cps.toList ∨ a.cps.toList = m ++ b.cps.toList)
theorem InsOf.symm {x y : Str} {d : Nat} : InsOf x y d → InsOf y x d := fun ⟨p, m, s, h, r⟩ => ⟨p, m, s, h, r.symm⟩
theorem Suf.symm {x y : Str} {d : Nat} : Suf x y d → Suf y x d := fun ⟨m, h, r⟩ => ⟨m, h, r.symm⟩
theorem len_list (x : Str) : x.length = x.cps.toList.length := by simp [Str.length]
theorem slice_from {x : Str} {i : Int} (h0 : 0 ≤ i) (h2 : i ≤ x.length) : (Txt.slice x (some i) none).cps.toList = x.cps.toList.drop i.toNat := by
  rw [slice_from_eq (b := (x.length : Int)) h0 h2 rfl]
  show (List.take _ _) = _
  apply List.take_of_length_le
  rw [List.length_drop, ← len_list]; omega
theorem item_at {x : Str} {i : Int} (h0 : 0 ≤ i) (h1 : i < x.length) : Txt.item x i = ⟨#[x.cps.toList.getD i.toNat 0]⟩ := by
  rw [beq_iff_eq.mp (item_closes ⟨h0, h1⟩)]; simp [Array.getD_eq_getD_getElem?, List.getD_eq_getElem?_getD]
theorem item_neg {x : Str} {i : Int} (h0 : i < 0) (h1 : -(x.length : Int) ≤ i) : Txt.item x i = ⟨#[x.cps.toList.getD (i + x.length).toNat 0]⟩ := by
  rw [beq_iff_eq.mp (item_closes_neg h0 h1 rfl)]; simp [Array.getD_eq_getD_getElem?, List.getD_eq_getElem?_getD]
theorem suf_of {p m s : List Nat} {x y : Str} {i : Int} (hx : x.cps.toList = p ++ s) (hy : y.cps.toList = p ++ m ++ s) (h0 : 0 ≤ i) (h1 : i ≤ x.length) (h2 : i ≤ y.length)
    (hex : ¬ (i < x.length ∧ i < y.length ∧ Txt.item x i = Txt.item y i)) : Suf (Txt.slice x (some i) none) (Txt.slice y (some i) none) m.length := by
  have lx := len_list x
  have ly := len_list y
  rw [hx] at lx; rw [hy] at ly
  simp only [List.length_append] at lx ly
  have hp : (p.length : Int) ≤ i := by
    apply Int.not_lt.mp
    intro hlt
    refine hex ⟨by omega, by omega, ?_⟩
    rw [item_at h0 (by omega), item_at h0 (by omega), hx, hy]
    have e : i.toNat < p.length := by omega
    simp only [List.getD_eq_getElem?_getD, List.getElem?_append_left e, List.append_assoc]
  refine ⟨((m ++ s).drop (i.toNat - p.length)).take m.length, ?_, .inl ?_⟩
  · rw [List.length_take, List.length_drop, List.length_append]; omega
  · rw [slice_from h0 h1, slice_from h0 h2, hx, hy, List.append_assoc]
    have hd : p.drop i.toNat = [] := List.drop_eq_nil_of_le (by omega)
    have e1 : ∀ z : List Nat, (p ++ z).drop i.toNat = z.drop (i.toNat - p.length) := fun z => by rw [List.drop_append, hd, List.nil_append]
    rw [e1, e1]
    generalize hk : i.toNat - p.length = k
    have e : (List.drop k (m ++ s)).drop m.length = s.drop k := by
      rw [List.drop_drop, List.drop_append, List.drop_eq_nil_of_le (by omega), List.nil_append]
      congr 1; omega
    rw [← e]
    exact (List.take_append_drop m.length _).symm
theorem lev_exit {x y : Str} {d : Nat} (h : InsOf x y d) {i : Int} (h0 : 0 ≤ i) (h1 : i ≤ x.length) (h2 : i ≤ y.length) (hex : ¬ (i < x.length ∧ i < y.length ∧ Txt.item x i = Txt.item y i)) :
    Suf (Txt.slice x (some i) none) (Txt.slice y (some i) none) d := by
  obtain ⟨p, m, s, rfl, ⟨hx, hy⟩ | ⟨hy, hx⟩⟩ := h
  · exact suf_of hx hy h0 h1 h2 hex
  · exact (suf_of hy hx h0 h2 h1 fun ⟨a, b, c⟩ => hex ⟨b, a, c.symm⟩).symm
theorem suf_len {a b : Str} {d : Nat} (h : Suf a b d) : (b.length = a.length + d) ∨ (a.length = b.length + d) := by
  obtain ⟨m, rfl, h | h⟩ := h
  · left; rw [len_list, len_list, h, List.length_append]; omega
  · right; rw [len_list, len_list, h, List.length_append]; omega
theorem suf_item {a b : Str} {d : Nat} (h : Suf a b d) {q : Int} (h0 : q < 0) (h1 : -(a.length : Int) ≤ q) (h2 : -(b.length : Int) ≤ q) : Txt.item a q = Txt.item b q := by
  have key : ∀ {a b : Str} {m : List Nat}, b.cps.toList = m ++ a.cps.toList → -(a.length : Int) ≤ q → -(b.length : Int) ≤ q → Txt.item a q = Txt.item b q := by
    intro a b m h h1 h2
    have lb : b.length = m.length + a.length := by rw [len_list, len_list, h, List.length_append]
    rw [item_neg h0 h1, item_neg h0 h2, h]
    congr 3
    simp only [List.getD_eq_getElem?_getD]
    rw [List.getElem?_append_right (by omega)]
    congr 2; omega
  obtain ⟨m, _, h | h⟩ := h
  · exact key h h1 h2
  · exact (key h h2 h1).symm
theorem slice_to_neg_len {x : Str} {j : Int} (h0 : j < 0) (h1 : -(x.length : Int) ≤ j) : ((Txt.slice x none (some j)).length : Int) = x.length + j := by
  rw [beq_iff_eq.mp (slice_closes_to_neg h0 h1 rfl)]
  simp only [Str.length, List.size_toArray, List.length_take, List.length_drop, Array.length_toList]
  simp only [Str.length] at h1
  omega
theorem slice_all (x : Str) : Txt.slice x none none = x := by
  unfold Txt.slice
  rw [if_pos]
  have : (Builtin.Str.strSliceIndices none none 1 x.length).length = x.length := by
    simp only [Builtin.Str.strSliceIndices, sliceRange, show (1 : Int) > 0 by decide, if_true, List.length_map, List.length_range]
    split <;> omega
  rw [this]; simp
theorem slice_all_len (x : Str) : (Txt.slice x none none).length = x.length := by rw [slice_all]
end Mine
end

section
open PySem PySem.W PyProof.Rows PySem.Calls PySem.Spec
set_option maxHeartbeats 0
namespace Mine
theorem truthy_int_t {prog : Program} {w : World} {A : Around} {E : Value → Shared → Prop} {s : Shared} {i : Int} {t : Tok} {Q : Bool → Shared → Prop} (hi : i ≠ 0) (h : Q true s) : wpAny (model prog w) A (truthy (.int i t)) Q E s :=
  truthy_int (by rw [show (i != 0) = true from by simpa using hi]; exact h)
theorem truthy_int_f {prog : Program} {w : World} {A : Around} {E : Value → Shared → Prop} {s : Shared} {i : Int} {t : Tok} {Q : Bool → Shared → Prop} (hi : i = 0) (h : Q false s) : wpAny (model prog w) A (truthy (.int i t)) Q E s :=
  truthy_int (by rw [show (i != 0) = false from by simpa using hi]; exact h)
theorem slice_none {prog : Program} {w : World} {A : Around} {E : Value → Shared → Prop} {s : Shared} {h₀ : Heap} {L : Addr} {m : Str → Option Value} {news : List (Addr × Obj)} {x : Str} {t : Tok} {value slice : Expr} {Q : Value → Shared → Prop}
    (hF : Fr h₀ L s.heap m) (hN : News h₀ L s.heap news) (hsz : x.length ≤ sizeLine) (h : ∀ h' t' k, Fr h₀ L h' m → News h₀ L h' news → Q (.str x t') { s with heap := h', toks := k })
    (hs : subscripted slice false (.str x t) (.ref s.heap.objs.size) = operate [.ref s.heap.objs.size, .str x t] (getItem (.str x t) (.ref s.heap.objs.size)) := by with_unfolding_all rfl)
    (ht : ∀ r, letTemporaryGo value (.str x t) r = pure () := by intro _; with_unfolding_all rfl) :
    wpAny (model prog w) A (subscriptTail value slice (.str x t) (.ref s.heap.objs.size)) Q E { s with heap := s.heap.push { cls := .type "slice", data := .fields #[.none, .none, .none] } } :=
  slice_strN_nn_len hF hN (fun h' t' k F' N' _ => by rw [slice_all]; exact h h' t' k F' N') hs ht hsz
theorem upd_same {m : Str → Option Value} {n : Str} {v v' : Value} : (fun y => if y = n then some v' else (fun y => if y = n then some v else m y) y) = fun y => if y = n then some v' else m y := by
  funext y; by_cases h : y = n <;> simp [h]
theorem lev {w : World} {P : Program} {lo : List Str} {mean : ExcName → Option Value} {mg mb : Str → Option Value} {dp un : Nat} {gd : Option (List Code)} {cn : Str} {cs : Scope} {L a : Addr} {ccd : Value} {cl : List (Str × Addr)} {outer : List Env} {A₀ : Around} {base h₀ : Heap} {m : Str → Option Value} {news : List (Addr × Obj)} {s : Shared} {Q E : Value → Shared → Prop}
  (B : Below A₀ base outer h₀) (F : Fr h₀ L s.heap m) (X : (K w.params).In h₀) (N : News h₀ L s.heap news) (T : Top P lo mean mg mb h₀) (hk : cs.kind = .function) (hd : dp + 20 < recursionLimit) (hu : un + 200 < cLine) {x y : Str} {t u v : Tok} {c : Int} {d : Nat} (hd0 : 0 < d) (hins : InsOf x y d) (hne : x ≠ y) (hx : x.length < 1000) (hy : y.length < 1000)
  (hret : ∀ u h' tk', Fr h₀ L h' m → News h₀ L h' news → Q (.int (2 * d) u) { s with heap := h', toks := tk' }) :
  wpAny (model PySem.Challenge.rw_sw0083_01.row.prog w) (ktrTop dp un gd cn cs L a ccd cl outer) (call (.ref 60) [.str x t, .str y u, .int c v]) Q E s := by
  k_with_none
  k_with "chain" => first | with_reducible assumption | exact Nat.lt_succ_self _ | (refine Nat.lt_trans ?_ (by with_reducible assumption); k_extra "chain") | ((fail_if_success (show @LT.lt Nat _ _ 295)); refine Nat.lt_succ_of_lt ?_; k_extra "chain")
  k_with "eval Constant int" => refine Mine.const_intN ?_
  k_with "eval Constant str" => refine Mine.const_strN ?_
  k_with "binaryOp Add int int" => refine Mine.add_intN ?_
  k_with "binaryOp Mod int int" => refine Mine.mod_intN (by decide) ?_
  k_with "ktr_room" => (refine Mine.ltOf (by with_reducible assumption) ?_; (try dsimp only [depth_under_make, depth_under_kw, depth_in1, depth_deeper, depth_caller]); repeat (first | with_reducible exact Nat.le_add_right _ _ | with_reducible refine Mine.leK (Eq.refl (_ + _)) ?_))
  k_with "ktr_units" => (refine Mine.ltOf (by with_reducible assumption) ?_; (try dsimp only [units_in1, units_deeper, Around.mark_units, units_caller]); repeat (first | with_reducible exact Nat.le_add_right _ _ | with_reducible refine Mine.leK (Eq.refl (_ + _)) ?_))
  k_with "cat" => repeat (first | exact Mine.catB1 (by with_reducible assumption) (by decide) | exact Nat.le_trans (by with_reducible assumption) (by decide) | with_reducible refine Mine.catM (Eq.refl (_ + 10000)) ?_ ?_ | ((with_reducible show (Str.ofString _).length ≤ _); decide) | ((with_reducible show Str.empty.length ≤ _); decide))
  k_with "andlt" => first | with_reducible assumption | exact (by with_reducible assumption : (@LT.lt Nat _ _ _) ∧ _).1 | exact (by with_reducible assumption : (@LT.lt Nat _ _ _) ∧ (@LT.lt Nat _ _ _) ∧ _).2.1 | exact (by with_reducible assumption : (@LT.lt Nat _ _ _) ∧ (@LT.lt Nat _ _ _) ∧ (@LT.lt Nat _ _ _) ∧ _).2.2.1 | exact (by with_reducible assumption : (@LT.lt Nat _ _ _) ∧ (@LT.lt Nat _ _ _) ∧ (@LT.lt Nat _ _ _) ∧ (@LT.lt Nat _ _ _) ∧ _).2.2.2.1 | exact (by with_reducible assumption : (@LT.lt Nat _ _ _) ∧ (@LT.lt Nat _ _ _) ∧ (@LT.lt Nat _ _ _) ∧ (@LT.lt Nat _ _ _) ∧ (@LT.lt Nat _ _ _) ∧ _).2.2.2.2.1 | exact (by with_reducible assumption : (@LT.lt Nat _ _ _) ∧ (@LT.lt Nat _ _ _) ∧ (@LT.lt Nat _ _ _) ∧ (@LT.lt Nat _ _ _) ∧ (@LT.lt Nat _ _ _) ∧ (@LT.lt Nat _ _ _) ∧ _).2.2.2.2.2.1 | exact (by with_reducible assumption : (@LT.lt Nat _ _ _) ∧ (@LT.lt Nat _ _ _) ∧ (@LT.lt Nat _ _ _) ∧ (@LT.lt Nat _ _ _) ∧ (@LT.lt Nat _ _ _) ∧ (@LT.lt Nat _ _ _) ∧ (@LT.lt Nat _ _ _) ∧ _).2.2.2.2.2.2.1 | exact (by with_reducible assumption : (@LT.lt Nat _ _ _) ∧ (@LT.lt Nat _ _ _) ∧ (@LT.lt Nat _ _ _) ∧ (@LT.lt Nat _ _ _) ∧ (@LT.lt Nat _ _ _) ∧ (@LT.lt Nat _ _ _) ∧ (@LT.lt Nat _ _ _) ∧ (@LT.lt Nat _ _ _) ∧ _).2.2.2.2.2.2.2.1 | exact (by with_reducible assumption : (@LT.lt Nat _ _ _) ∧ (@LT.lt Nat _ _ _) ∧ (@LT.lt Nat _ _ _) ∧ (@LT.lt Nat _ _ _) ∧ (@LT.lt Nat _ _ _) ∧ (@LT.lt Nat _ _ _) ∧ (@LT.lt Nat _ _ _) ∧ (@LT.lt Nat _ _ _) ∧ (@LT.lt Nat _ _ _) ∧ _).2.2.2.2.2.2.2.2.1
  k_with "exec While BoolOp" => (refine Hld.out ?_)
  k_with "truthy int" => first | (with_reducible refine truthy_int_t (by omega) ?_; dsimp only) | (with_reducible refine truthy_int_f (by omega) ?_; dsimp only)
  k_with "subscriptTail Name Slice str ref" => ((with_reducible show wpAny _ _ (subscriptTail _ _ (Value.str _ _) (Value.ref (Array.size (Heap.objs _)))) _ _ ⟨_, _, _, _, _⟩); (refine slice_none (s := ⟨_, _, _, _, _⟩) (by k_asm) (by k_asm) (by rw [sizeLine_eq]; omega) ?_); intro _ _ _ kw_F' kw_N'; (dsimp only at kw_F' kw_N' ⊢))
  revert X; k_fill; intro X
  refine wpAny_call ?_
  k_dflt cell_enter
  k_steps
  · exact absurd (eq_of_beq (by assumption)) hne
  · unfold Hld
    refine while_int (n := Str.ofString "pre") (fun i => 0 ≤ i ∧ i ≤ x.length ∧ i ≤ y.length) (fun i => 0 ≤ i ∧ i ≤ x.length ∧ i ≤ y.length ∧ Suf (Txt.slice x (some i) none) (Txt.slice y (some i) none) d) (fun i => (x.length - i).toNat) (by k_asm) (by k_asm) rfl (by omega) ?_ ?_
    · intro i t h tk hJ F N
      k_steps
      · refine WhN.intro (by k_asm) (by k_asm) upd_same ?_ ?_
        · omega
        · omega
      · refine WhX.intro (by k_asm) (by k_asm) ⟨by omega, by omega, by omega, lev_exit hins (by omega) (by omega) (by omega) ?_⟩
        rintro ⟨_, _, e⟩
        have z : (Txt.item x i == Txt.item y i) = false := by assumption
        rw [e] at z; simp at z
      · refine WhX.intro (by k_asm) (by k_asm) ⟨by omega, by omega, by omega, lev_exit hins (by omega) (by omega) (by omega) ?_⟩
        rintro ⟨_, _, e⟩; omega
      · refine WhX.intro (by k_asm) (by k_asm) ⟨by omega, by omega, by omega, lev_exit hins (by omega) (by omega) (by omega) ?_⟩
        rintro ⟨_, _, e⟩; omega
    · intro i t h tk hJ F N
      obtain ⟨hi0, hi1, hi2, hS⟩ := hJ
      k_steps
      unfold Hld
      have hlA : (Txt.slice x (some i) none).length ≤ x.length := by assumption
      have hlB : (Txt.slice y (some i) none).length ≤ y.length := by assumption
      generalize Txt.slice x (some i) none = a1 at *
      generalize Txt.slice y (some i) none = b1 at *
      have hsl := suf_len hS
      refine while_int (n := Str.ofString "post") (fun q => q ≤ 0 ∧ -q ≤ a1.length ∧ -q ≤ b1.length) (fun q => q ≤ 0 ∧ -q ≤ a1.length ∧ -q ≤ b1.length ∧ (-q = a1.length ∨ -q = b1.length)) (fun q => (a1.length + q).toNat) (by k_asm) (by k_asm) rfl (by omega) ?_ ?_
      · intro q t h tk hJ F N
        obtain ⟨p, rfl⟩ : ∃ p : Nat, q = -(p : Int) := ⟨(-q).toNat, by omega⟩
        by_cases hp : p = 0
        · k_steps
          all_goals first | (exfalso; omega) | (refine WhN.intro (by k_asm) (by k_asm) upd_same ?_ ?_ <;> omega) | exact WhX.intro (by k_asm) (by k_asm) ⟨by omega, by omega, by omega, by omega⟩ | (exfalso; have z : (Txt.item a1 (-(p : Int) - 1) == Txt.item b1 (-(p : Int) - 1)) = false := (by assumption); rw [suf_item hS (by omega) (by omega) (by omega)] at z; simp at z; done)
          all_goals first | (exfalso; omega) | (refine WhN.intro (by k_asm) (by k_asm) upd_same ?_ ?_ <;> omega) | exact WhX.intro (by k_asm) (by k_asm) ⟨by omega, by omega, by omega, by omega⟩ | (exfalso; have z : (Txt.item a1 (-(p : Int) - 1) == Txt.item b1 (-(p : Int) - 1)) = false := (by assumption); rw [suf_item hS (by omega) (by omega) (by omega)] at z; simp at z; done)
        · have hA := slice_to_neg_len (x := a1) (j := -(p : Int)) (by omega) (by omega)
          have hB := slice_to_neg_len (x := b1) (j := -(p : Int)) (by omega) (by omega)
          k_steps
          all_goals (repeat (rename (_ → _) ∧ (_ → _) => hcl; clear hcl))
          all_goals first | (exfalso; omega) | (refine WhN.intro (by k_asm) (by k_asm) upd_same ?_ ?_ <;> omega) | exact WhX.intro (by k_asm) (by k_asm) ⟨by omega, by omega, by omega, by omega⟩ | (exfalso; have z : (Txt.item a1 (-(p : Int) - 1) == Txt.item b1 (-(p : Int) - 1)) = false := (by assumption); rw [suf_item hS (by omega) (by omega) (by omega)] at z; simp at z; done)
      · intro q t h tk hJ F N
        obtain ⟨hq0, hq1, hq2, hq3⟩ := hJ
        obtain ⟨p, rfl⟩ : ∃ p : Nat, q = -(p : Int) := ⟨(-q).toNat, by omega⟩
        by_cases hp : p = 0
        · k_steps
          all_goals first | (exfalso; omega) | (refine cb_retI (Q := Q) hret ?_ (by k_asm) (cb_drop (by assumption) (by kcj_all)); omega)
          all_goals first | (exfalso; omega) | (refine cb_retI (Q := Q) hret ?_ (by k_asm) (cb_drop (by assumption) (by kcj_all)); omega)
        · have hA := slice_to_neg_len (x := a1) (j := -(p : Int)) (by omega) (by omega)
          have hB := slice_to_neg_len (x := b1) (j := -(p : Int)) (by omega) (by omega)
          k_steps
          all_goals (repeat (rename (_ → _) ∧ (_ → _) => hcl; clear hcl))
          all_goals first | (exfalso; omega) | (refine cb_retI (Q := Q) hret ?_ (by k_asm) (cb_drop (by assumption) (by kcj_all)); omega)
end Mine
end

section
open PySem PySem.W PyProof.Rows PySem.Calls PySem.Spec
set_option maxHeartbeats 0
namespace Mine
theorem step_add {w : World} {x d l : Addr} {kt : Tok} {its : Array Value} {n : Nat} {wd va : Str} {t u : Tok} {P : Program} {lo : List Str} {mean : ExcName → Option Value} {mg mb : Str → Option Value} {dp un : Nat} {gd : Option (List Code)} {cn : Str} {cs : Scope} {L a : Addr} {ccd : Value} {cl : List (Str × Addr)} {outer : List Env} {A₀ : Around} {base h₀ : Heap} {m : Str → Option Value} {news : List (Addr × Obj)} {s : Shared} {Q E : Value → Shared → Prop}
  (B : Below A₀ base outer h₀) (F : Fr h₀ L s.heap m) (X : (K w.params).In h₀) (N : News h₀ L s.heap ((l, listOf its n) :: (x, instObj 206 d) :: (d, tabD (PyData.keyHash w.params (Str.ofString "_headers")) kt l) :: news)) (T : Top P lo mean mg mb h₀) (hk : cs.kind = .function) (hd : dp + 20 < recursionLimit) (hu : un + 200 < cLine)
  (hxl : (x : Nat) ≠ l) (hdl : (d : Nat) ≠ l) (off : OwnOff news [l]) (hw : Clean wd) (hv : CleanV va) (hz : its.size < 100)
  (hret : ∀ tp u' h' tk' n', Fr h₀ L h' m → News h₀ L h' ((l, listOf (its.push (.ref tp)) n') :: (x, instObj 206 d) :: (d, tabD (PyData.keyHash w.params (Str.ofString "_headers")) kt l) :: (tp, tupO [.str wd t, .str va u']) :: news) → (l : Nat) < tp ∧ (x : Nat) < tp ∧ (d : Nat) < tp ∧ AllLt tp news → Q .none { s with heap := h', toks := tk' }) :
  wpAny (model PySem.Challenge.rw_sw0083_01.row.prog w) (ktrTop dp un gd cn cs L a ccd cl outer) (call (.ref 354) [.ref x, .str wd t, .str va u, .bool false]) Q E s := by
  k_with_none
  k_with "chain" => first | with_reducible assumption | exact Nat.lt_succ_self _ | (refine Nat.lt_trans ?_ (by with_reducible assumption); k_extra "chain") | ((fail_if_success (show @LT.lt Nat _ _ 295)); refine Nat.lt_succ_of_lt ?_; k_extra "chain")
  k_with "eval Constant int" => refine Mine.const_intN ?_
  k_with "eval Constant str" => refine Mine.const_strN ?_
  k_with "binaryOp Add int int" => refine Mine.add_intN ?_
  k_with "binaryOp Mod int int" => refine Mine.mod_intN (by decide) ?_
  k_with "ktr_room" => (refine Mine.ltOf (by with_reducible assumption) ?_; (try dsimp only [depth_under_make, depth_under_kw, depth_in1, depth_deeper, depth_caller]); repeat (first | with_reducible exact Nat.le_add_right _ _ | with_reducible refine Mine.leK (Eq.refl (_ + _)) ?_))
  k_with "ktr_units" => (refine Mine.ltOf (by with_reducible assumption) ?_; (try dsimp only [units_in1, units_deeper, Around.mark_units, units_caller]); repeat (first | with_reducible exact Nat.le_add_right _ _ | with_reducible refine Mine.leK (Eq.refl (_ + _)) ?_))
  k_with "size_fits" => first | with_reducible assumption | exact Nat.zero_le _ | exact Mine.fitLt (by with_reducible assumption) (by decide) | exact Mine.fitLe (by with_reducible assumption) (by decide) | exact Mine.catF (by k_extra "cat") | exact Mine.catA (by k_extra "cat")
  k_with "cat" => repeat (first | exact Mine.catB1 (by with_reducible assumption) (by decide) | exact Nat.le_trans (by with_reducible assumption) (by decide) | with_reducible refine Mine.catM (Eq.refl (_ + 10000)) ?_ ?_ | ((with_reducible show (Str.ofString _).length ≤ _); decide) | ((with_reducible show Str.empty.length ≤ _); decide))
  k_with "And" => ((first | (with_reducible show PySem.Str.length (_ ++ _) ≤ sizeLine ∧ _) | ((fail_if_success (with_reducible show _ ∧ _)); dsimp only; (with_reducible show PySem.Str.length (_ ++ _) ≤ sizeLine ∧ _))); refine ⟨Mine.catF (by k_extra "cat"), ?_⟩)
  k_with "andlt" => first | with_reducible assumption | exact (by with_reducible assumption : (@LT.lt Nat _ _ _) ∧ _).1 | exact (by with_reducible assumption : (@LT.lt Nat _ _ _) ∧ (@LT.lt Nat _ _ _) ∧ _).2.1 | exact (by with_reducible assumption : (@LT.lt Nat _ _ _) ∧ (@LT.lt Nat _ _ _) ∧ (@LT.lt Nat _ _ _) ∧ _).2.2.1 | exact (by with_reducible assumption : (@LT.lt Nat _ _ _) ∧ (@LT.lt Nat _ _ _) ∧ (@LT.lt Nat _ _ _) ∧ (@LT.lt Nat _ _ _) ∧ _).2.2.2.1 | exact (by with_reducible assumption : (@LT.lt Nat _ _ _) ∧ (@LT.lt Nat _ _ _) ∧ (@LT.lt Nat _ _ _) ∧ (@LT.lt Nat _ _ _) ∧ (@LT.lt Nat _ _ _) ∧ _).2.2.2.2.1 | exact (by with_reducible assumption : (@LT.lt Nat _ _ _) ∧ (@LT.lt Nat _ _ _) ∧ (@LT.lt Nat _ _ _) ∧ (@LT.lt Nat _ _ _) ∧ (@LT.lt Nat _ _ _) ∧ (@LT.lt Nat _ _ _) ∧ _).2.2.2.2.2.1 | exact (by with_reducible assumption : (@LT.lt Nat _ _ _) ∧ (@LT.lt Nat _ _ _) ∧ (@LT.lt Nat _ _ _) ∧ (@LT.lt Nat _ _ _) ∧ (@LT.lt Nat _ _ _) ∧ (@LT.lt Nat _ _ _) ∧ (@LT.lt Nat _ _ _) ∧ _).2.2.2.2.2.2.1 | exact (by with_reducible assumption : (@LT.lt Nat _ _ _) ∧ (@LT.lt Nat _ _ _) ∧ (@LT.lt Nat _ _ _) ∧ (@LT.lt Nat _ _ _) ∧ (@LT.lt Nat _ _ _) ∧ (@LT.lt Nat _ _ _) ∧ (@LT.lt Nat _ _ _) ∧ (@LT.lt Nat _ _ _) ∧ _).2.2.2.2.2.2.2.1 | exact (by with_reducible assumption : (@LT.lt Nat _ _ _) ∧ (@LT.lt Nat _ _ _) ∧ (@LT.lt Nat _ _ _) ∧ (@LT.lt Nat _ _ _) ∧ (@LT.lt Nat _ _ _) ∧ (@LT.lt Nat _ _ _) ∧ (@LT.lt Nat _ _ _) ∧ (@LT.lt Nat _ _ _) ∧ (@LT.lt Nat _ _ _) ∧ _).2.2.2.2.2.2.2.2.1
  k_with "k_ne" => (refine neN ?_; (try dsimp only); first | with_reducible assumption | exact Ne.symm (by with_reducible assumption) | (refine Mine.neGt ?_; k_extra "andlt") | (refine Nat.ne_of_lt ?_; k_extra "andlt") | omega)
  k_with "kcj_all" => ((repeat' (first | (refine' List.forall_mem_cons.mpr ⟨?_, ?_⟩))) <;> first | k_mem | (intro p hp; (repeat (first | exact hp | refine List.Mem.tail _ ?_))))
  k_with "getMethod ref" => first | (refine rx70_method (by exact Frag.In.keeps (by k_asm) (Fr.keep (by k_asm))) ?_) | (refine rx75_method (by exact Frag.In.keeps (by k_asm) (Fr.keep (by k_asm))) ?_)
  k_with "call builtin:re.Pattern.search" => first | (refine rx70_call (by exact Frag.In.keeps (by k_asm) (Fr.keep (by k_asm))) (by assumption) ?_) | (refine rx75_call (by exact Frag.In.keeps (by k_asm) (Fr.keep (by k_asm))) (by assumption) ?_)
  k_with "call ref" => ((with_reducible show wpAny _ _ (call (Value.ref 203) _) _ _ _); (refine wpAny_call ?_); k_dflt ((refine' kp_more ?k1 ?k2 ?k3 ?k4 ?k5 ?kA ?kF ?kK ?k6 ?k7 ?k8 ?kX ?kM ?kN ?kD ?kR ?kP ?kT ?kB ?_ ?c2 ?c3 ?c4 ?c5; (case kA => exact rfl); (case kF => exact rfl); (case kK => first | exact rfl | assumption); (case k1 => k_asm); (case k2 => k_asm); (case k3 => k_asm); (case k4 => k_asm); (case k5 => k_asm); (case k6 => k_is); (case k7 => k_is); (case k8 => ktr_room); (case kX => kp_lit); (case kM => exact rfl); (case kN => exact rfl); (case kD => kp_flats); (case kR => exact rfl); (case kP => exact rfl); (case kT => exact fun _ => rfl); (case kB => exact fun _ => locs rfl); (case c5 => decide); (case c2 => exact rfl); (case c3 => exact rfl); (case c4 => exact rfl); k_whole; intro kw_D' kw_o' kw_g' kw_L' kw_h' kw_tk' kw_l1 kw_lo' kw_hs' kw_fs' kw_FG' kw_F' kw_N' kw_B' kw_X' kw_T'; (try k_lt kw_l1); (try dsimp only); (try k_lift kw_B'); (try k_fold))))
  k_with "call ref" => ((with_reducible show wpAny _ _ (call (Value.ref 105) _ _) _ _ _); (refine wpAny_call ?_); k_dflt (refine' code_def ?k1 ?k2 ?k3 ?k4 ?k5 ?kA ?kF ?kK ?k6 ?k7 ?k8 ?k9 ?kB ?_ ?c2 ?c3 ?c4 ?c5; (case kA => exact rfl); (case kF => exact rfl); (case kK => first | exact rfl | assumption); (case k1 => k_asm); (case k2 => k_asm); (case k3 => k_asm); (case k4 => k_asm); (case k5 => k_asm); (case k6 => k_is); (case k7 => k_is); (case k8 => ktr_room); (case k9 => first | exact BindsTo.of_eq rfl | (refine' kp_binds ?kx ?ke; (case kx => k_in); (case ke => exact fun _ => rfl))); (case c5 => decide); (case kB => exact locs rfl); (case c2 => exact rfl); (case c3 => exact rfl); (case c4 => exact rfl); k_whole; intro kw_g' kw_L' kw_h' kw_FG' kw_F' kw_N' kw_B' kw_X' kw_T'; (try dsimp only); (try k_lift kw_B'); (try k_fold)))
  k_with "exec For Tuple Call" => ((fail_if_success (rename SzMark => kw_hM9)); (rename News _ _ _ _ => kw_N9); (have kw_l9 := all_size kw_N9); (dsimp only [AllLt] at kw_l9); (have kw_hM9 : SzMark := ⟨⟩))
  have hw1 := hw.2
  have hv1 := hv.2
  revert X; k_fill; intro X
  refine wpAny_call ?_
  k_dflt cell_enter
  k_steps
  rename News _ _ _ _ => N9
  refine' hret _ _ _ _ _ ?F (cb_drop N9 ?sub) ?ord
  case F => k_asm
  case sub =>
    refine' List.forall_mem_cons.mpr ⟨?_, List.forall_mem_cons.mpr ⟨?_, List.forall_mem_cons.mpr ⟨?_, List.forall_mem_cons.mpr ⟨?_, ?_⟩⟩⟩⟩
    k_mem
    k_mem
    k_mem
    k_mem
    intro p hp
    repeat (first | exact hp | refine List.Mem.tail _ ?_)
  obtain ⟨_, _, _, h4, h5, h6, h7⟩ := (by assumption : (_ : Nat) < _ ∧ (_ : Nat) < _ ∧ (_ : Nat) < _ ∧ (l : Nat) < _ ∧ (x : Nat) < _ ∧ (d : Nat) < _ ∧ AllLt _ news)
  exact ⟨h4, h5, h6, h7⟩
end Mine
end

section
open PySem PySem.W PyProof.Rows PySem.Calls PySem.Spec
set_option maxHeartbeats 0
namespace Mine
theorem delItem_own {M : Model} {A : Around} {E : Value → Shared → Prop} {s : Shared} {K : Frag} {x C L f : Addr} {h₀ : Heap} {m : Str → Option Value} {ox : Obj} {od : Option Obj} {v : Value} {Q : Unit → Shared → Prop} (F : Fr h₀ L s.heap m) (X₀ : K.In h₀) (I : InstAt s.heap x ox C od) (hq : noSeq K C = true) (hs : findIn K (.ref C) "__delitem__" = some (some (.ref f))) (hf : isFn K (.ref f) = true)
    (h : wpAny M A (call (.ref f) [.ref x, v]) (fun _ => Q ()) E s) : wpAny M A (delItem (.ref x) v) Q E s := by
  have X := X₀.keeps F.keep
  unfold delItem sequenceKey
  refine wpAny_holding (wpAny_bind (wpAny_bind (I.type.here ?_)))
  refine wpAny_bind ((anyM_none X hq).here ?_)
  rw [if_pos (show (!false) = true from rfl)]
  exact wpAny_pure (wpAny_bind (special_fn X I hs (beq_iff_eq.mp hf) (wpAny_mono h (fun _ _ z => wpAny_pure z) fun _ _ z => z)))
theorem step_del {w : World} {x d l : Addr} {kt : Tok} {its : Array Value} {n : Nat} {wd va : Str} {t u : Tok} {keep : Value → Bool} {P : Program} {lo : List Str} {mean : ExcName → Option Value} {mg mb : Str → Option Value} {dp un : Nat} {gd : Option (List Code)} {cn : Str} {cs : Scope} {L a : Addr} {ccd : Value} {cl : List (Str × Addr)} {outer : List Env} {A₀ : Around} {base h₀ : Heap} {m : Str → Option Value} {news : List (Addr × Obj)} {s : Shared} {Q E : Value → Shared → Prop}
  (B : Below A₀ base outer h₀) (F : Fr h₀ L s.heap m) (X : (K w.params).In h₀) (N : News h₀ L s.heap ((l, listOf its n) :: (x, instObj 206 d) :: (d, tabD (PyData.keyHash w.params (Str.ofString "_headers")) kt l) :: news)) (T : Top P lo mean mg mb h₀) (hk : cs.kind = .function) (hd : dp + 20 < recursionLimit) (hu : un + 200 < cLine)
  (hxl : (x : Nat) ≠ l) (hdl : (d : Nat) ≠ l) (off : OwnOff news [l]) (hw : wd.length < 1000) (hcl : Clean (Txt.lower (Txt.lower wd))) (hz : its.size < 100)
  (hits : ∀ v ∈ its.toList, ∃ a y ta z tb, v = .ref a ∧ (a, tupO [.str y ta, .str z tb]) ∈ news ∧ y.length < 1000 ∧ (Txt.lower y != Txt.lower (Txt.lower wd)) = keep v)
  (hret : ∀ h' tk' n', Fr h₀ L h' m → News h₀ L h' ((l, listOf (its.toList.filter keep).toArray n') :: (x, instObj 206 d) :: (d, tabD (PyData.keyHash w.params (Str.ofString "_headers")) kt l) :: news) → Q .none { s with heap := h', toks := tk' }) :
  wpAny (model PySem.Challenge.rw_sw0083_01.row.prog w) (ktrTop dp un gd cn cs L a ccd cl outer) (call (.ref 354) [.ref x, .str wd t, .str va u, .bool true]) Q E s := by
  k_with_none
  k_with "chain" => first | with_reducible assumption | exact Nat.lt_succ_self _ | (refine Nat.lt_trans ?_ (by with_reducible assumption); k_extra "chain") | ((fail_if_success (show @LT.lt Nat _ _ 295)); refine Nat.lt_succ_of_lt ?_; k_extra "chain")
  k_with "eval Constant int" => refine Mine.const_intN ?_
  k_with "eval Constant str" => refine Mine.const_strN ?_
  k_with "binaryOp Add int int" => refine Mine.add_intN ?_
  k_with "binaryOp Mod int int" => refine Mine.mod_intN (by decide) ?_
  k_with "ktr_room" => (refine Mine.ltOf (by with_reducible assumption) ?_; (try dsimp only [depth_under_make, depth_under_kw, depth_in1, depth_deeper, depth_caller]); repeat (first | with_reducible exact Nat.le_add_right _ _ | with_reducible refine Mine.leK (Eq.refl (_ + _)) ?_))
  k_with "ktr_units" => (refine Mine.ltOf (by with_reducible assumption) ?_; (try dsimp only [units_in1, units_deeper, Around.mark_units, units_caller]); repeat (first | with_reducible exact Nat.le_add_right _ _ | with_reducible refine Mine.leK (Eq.refl (_ + _)) ?_))
  k_with "size_fits" => first | with_reducible assumption | exact Nat.zero_le _ | exact Mine.fitLt (by with_reducible assumption) (by decide) | exact Mine.fitLe (by with_reducible assumption) (by decide) | exact Mine.catF (by k_extra "cat") | exact Mine.catA (by k_extra "cat")
  k_with "cat" => repeat (first | exact Mine.catB1 (by with_reducible assumption) (by decide) | exact Nat.le_trans (by with_reducible assumption) (by decide) | with_reducible refine Mine.catM (Eq.refl (_ + 10000)) ?_ ?_ | ((with_reducible show (Str.ofString _).length ≤ _); decide) | ((with_reducible show Str.empty.length ≤ _); decide))
  k_with "And" => ((first | (with_reducible show PySem.Str.length (_ ++ _) ≤ sizeLine ∧ _) | ((fail_if_success (with_reducible show _ ∧ _)); dsimp only; (with_reducible show PySem.Str.length (_ ++ _) ≤ sizeLine ∧ _))); refine ⟨Mine.catF (by k_extra "cat"), ?_⟩)
  k_with "andlt" => first | with_reducible assumption | exact (by with_reducible assumption : (@LT.lt Nat _ _ _) ∧ _).1 | exact (by with_reducible assumption : (@LT.lt Nat _ _ _) ∧ (@LT.lt Nat _ _ _) ∧ _).2.1 | exact (by with_reducible assumption : (@LT.lt Nat _ _ _) ∧ (@LT.lt Nat _ _ _) ∧ (@LT.lt Nat _ _ _) ∧ _).2.2.1 | exact (by with_reducible assumption : (@LT.lt Nat _ _ _) ∧ (@LT.lt Nat _ _ _) ∧ (@LT.lt Nat _ _ _) ∧ (@LT.lt Nat _ _ _) ∧ _).2.2.2.1 | exact (by with_reducible assumption : (@LT.lt Nat _ _ _) ∧ (@LT.lt Nat _ _ _) ∧ (@LT.lt Nat _ _ _) ∧ (@LT.lt Nat _ _ _) ∧ (@LT.lt Nat _ _ _) ∧ _).2.2.2.2.1 | exact (by with_reducible assumption : (@LT.lt Nat _ _ _) ∧ (@LT.lt Nat _ _ _) ∧ (@LT.lt Nat _ _ _) ∧ (@LT.lt Nat _ _ _) ∧ (@LT.lt Nat _ _ _) ∧ (@LT.lt Nat _ _ _) ∧ _).2.2.2.2.2.1 | exact (by with_reducible assumption : (@LT.lt Nat _ _ _) ∧ (@LT.lt Nat _ _ _) ∧ (@LT.lt Nat _ _ _) ∧ (@LT.lt Nat _ _ _) ∧ (@LT.lt Nat _ _ _) ∧ (@LT.lt Nat _ _ _) ∧ (@LT.lt Nat _ _ _) ∧ _).2.2.2.2.2.2.1 | exact (by with_reducible assumption : (@LT.lt Nat _ _ _) ∧ (@LT.lt Nat _ _ _) ∧ (@LT.lt Nat _ _ _) ∧ (@LT.lt Nat _ _ _) ∧ (@LT.lt Nat _ _ _) ∧ (@LT.lt Nat _ _ _) ∧ (@LT.lt Nat _ _ _) ∧ (@LT.lt Nat _ _ _) ∧ _).2.2.2.2.2.2.2.1 | exact (by with_reducible assumption : (@LT.lt Nat _ _ _) ∧ (@LT.lt Nat _ _ _) ∧ (@LT.lt Nat _ _ _) ∧ (@LT.lt Nat _ _ _) ∧ (@LT.lt Nat _ _ _) ∧ (@LT.lt Nat _ _ _) ∧ (@LT.lt Nat _ _ _) ∧ (@LT.lt Nat _ _ _) ∧ (@LT.lt Nat _ _ _) ∧ _).2.2.2.2.2.2.2.2.1
  k_with "k_ne" => (refine neN ?_; (try dsimp only); first | with_reducible assumption | exact Ne.symm (by with_reducible assumption) | (refine Mine.neGt ?_; k_extra "andlt") | (refine Nat.ne_of_lt ?_; k_extra "andlt") | omega)
  k_with "k_all" => (tbn_letter; refine tbn_neAll ?_; refine all_succ ?_; tbn_find)
  k_with "kcj_all" => ((repeat' (first | (refine' List.forall_mem_cons.mpr ⟨?_, ?_⟩))) <;> first | k_mem | (intro p hp; (repeat (first | exact hp | refine List.Mem.tail _ ?_))))
  k_with "k_mem" => assumption
  k_with "getMethod ref" => first | (refine rx70_method (by exact Frag.In.keeps (by k_asm) (Fr.keep (by k_asm))) ?_) | (refine rx75_method (by exact Frag.In.keeps (by k_asm) (Fr.keep (by k_asm))) ?_)
  k_with "call builtin:re.Pattern.search" => first | (refine rx70_call (by exact Frag.In.keeps (by k_asm) (Fr.keep (by k_asm))) (by assumption) ?_) | (refine rx75_call (by exact Frag.In.keeps (by k_asm) (Fr.keep (by k_asm))) (by assumption) ?_)
  k_with "call ref" => ((with_reducible show wpAny _ _ (call (Value.ref 203) _) _ _ _); (refine wpAny_call ?_); k_dflt ((refine' kp_more ?k1 ?k2 ?k3 ?k4 ?k5 ?kA ?kF ?kK ?k6 ?k7 ?k8 ?kX ?kM ?kN ?kD ?kR ?kP ?kT ?kB ?_ ?c2 ?c3 ?c4 ?c5; (case kA => exact rfl); (case kF => exact rfl); (case kK => first | exact rfl | assumption); (case k1 => k_asm); (case k2 => k_asm); (case k3 => k_asm); (case k4 => k_asm); (case k5 => k_asm); (case k6 => k_is); (case k7 => k_is); (case k8 => ktr_room); (case kX => kp_lit); (case kM => exact rfl); (case kN => exact rfl); (case kD => kp_flats); (case kR => exact rfl); (case kP => exact rfl); (case kT => exact fun _ => rfl); (case kB => exact fun _ => locs rfl); (case c5 => decide); (case c2 => exact rfl); (case c3 => exact rfl); (case c4 => exact rfl); k_whole; intro kw_D' kw_o' kw_g' kw_L' kw_h' kw_tk' kw_l1 kw_lo' kw_hs' kw_fs' kw_FG' kw_F' kw_N' kw_B' kw_X' kw_T'; (try k_lt kw_l1); (try dsimp only); (try k_lift kw_B'); (try k_fold))))
  k_with "call ref" => ((with_reducible show wpAny _ _ (call (Value.ref 105) _ _) _ _ _); (refine wpAny_call ?_); k_dflt (refine' code_def ?k1 ?k2 ?k3 ?k4 ?k5 ?kA ?kF ?kK ?k6 ?k7 ?k8 ?k9 ?kB ?_ ?c2 ?c3 ?c4 ?c5; (case kA => exact rfl); (case kF => exact rfl); (case kK => first | exact rfl | assumption); (case k1 => k_asm); (case k2 => k_asm); (case k3 => k_asm); (case k4 => k_asm); (case k5 => k_asm); (case k6 => k_is); (case k7 => k_is); (case k8 => ktr_room); (case k9 => first | exact BindsTo.of_eq rfl | (refine' kp_binds ?kx ?ke; (case kx => k_in); (case ke => exact fun _ => rfl))); (case c5 => decide); (case kB => exact locs rfl); (case c2 => exact rfl); (case c3 => exact rfl); (case c4 => exact rfl); k_whole; intro kw_g' kw_L' kw_h' kw_FG' kw_F' kw_N' kw_B' kw_X' kw_T'; (try dsimp only); (try k_lift kw_B'); (try k_fold)))
  k_with "exec For Tuple Call" => ((fail_if_success (rename SzMark => kw_hM9)); (rename News _ _ _ _ => kw_N9); (have kw_l9 := all_size kw_N9); (dsimp only [AllLt] at kw_l9); (have kw_hM9 : SzMark := ⟨⟩))
  k_with "delItem ref str" => (k_here; k_dflt (refine' delItem_own ?k1 ?k2 ?k3 ?k4 ?k5 ?k6 ?_; (case k1 => k_asm); (case k2 => k_asm); (case k3 => k_inst); (case k4 => k_is); (case k5 => k_is); (case k6 => k_is); k_whole))
  k_with "call ref" => ((with_reducible show wpAny _ _ (call (Value.ref 124) _) _ _ _); (refine wpAny_call ?_); k_dflt (refine' code_defC ?k1 ?k2 ?k3 ?k4 ?k5 ?kA ?kF ?kK ?k6 ?k7 ?k8 ?k9 ?kB ?kD ?_ ?c2 ?c3 ?c4; (case kA => exact rfl); (case kF => exact rfl); (case kK => first | exact rfl | assumption); (case k1 => k_asm); (case k2 => k_asm); (case k3 => k_asm); (case k4 => k_asm); (case k5 => k_asm); (case k6 => k_is); (case k7 => k_is); (case k8 => ktr_room); (case k9 => exact BindsTo.of_eq rfl); (case kB => exact rfl); (case kD => decide +kernel); (case c2 => exact rfl); (case c3 => exact rfl); (case c4 => exact rfl); k_whole; intro kw_g' kw_L' kw_h' kw_tk' kw_cells' kw_FG' kw_F' kw_N' kw_Y' kw_B' kw_X' kw_T' kw_l1; (try k_lt kw_l1); k_cells kw_Y'; (try simp only [List.cons_append, List.nil_append] at kw_N'); (try dsimp only); (try k_lift kw_B'); (try k_fold)))
  k_with "CompEnd" => (refine LCg.CompEnd.intro (by assumption) (by assumption) _ (fun p hp => hp) (by assumption) (by lcg_src) ?_)
  k_with "ite" => first | (refine ite_pos_ (by assumption) ?_) | (refine ite_neg_ (by first | assumption | (rw [Bool.not_eq_true]; assumption)) ?_)
  k_with "setItem ref ref" => (k_here; k_dflt (refine' setslice_P (s := ⟨_, _, _, _, _⟩) ?F ?N ?U ?D ?ne ?z1 ?z2 ?_; (case F => k_asm); (case N => k_asm); (case U => k_updF); (case D => is_list); (case ne => k_ne); (case z1 => first | assumption | exact Nat.le_of_ble_eq_true rfl); (case z2 => first | assumption | exact Nat.le_of_ble_eq_true rfl)); intro kw_h' kw_n' kw_F' kw_N'; try dsimp only at kw_N')
  k_with "CompSrcT" => (k_here; k_dflt (refine LCt.CompSrcT.ledger (by rfl) (by k_asm) (by k_asm) (by k_mem) (by first | size_fits | (rw [sizeLine_eq]; omega)) ?_; intro kw_g'); refine Hold.out ?_)
  revert X; k_fill; intro X
  refine wpAny_call ?_
  k_dflt cell_enter
  k_steps
  unfold Hold
  refine compT_each (keepInv its keep _) ⟨rfl, rfl⟩ ?_ ?_
  · intro i ys nw v I oI C oC D m₂ h tk E' R R' hi hI hv hC hx F' N' off' ne hR hR'
    obtain ⟨rfl, rfl⟩ := id hI
    obtain ⟨a, y, ta, z, tb, rfl, hm, hy, hk⟩ := hits v (Array.mem_toList_iff.mpr (Array.mem_of_getElem? hv))
    k_steps
    · exact hR _ _ (keepInv.yes ⟨rfl, rfl⟩ hv (by rw [← hk]; assumption))
    · exact hR' _ (keepInv.no ⟨rfl, rfl⟩ hv (by rw [← hk]; first | assumption | simp_all))
  · rintro ys nw ⟨rfl, hys⟩
    have hys : ys = its.toList.filter keep := by rw [hys, ← Array.length_toList, List.take_length]
    subst hys
    have hfl : (its.toList.filter keep).toArray.size < 100 := by
      have := List.length_filter_le keep its.toList
      simp at this ⊢; omega
    k_steps
    rename News _ _ _ _ => N9
    refine' hret _ _ _ ?F (cb_drop N9 ?sub)
    case F => k_asm
    case sub =>
      refine' List.forall_mem_cons.mpr ⟨?_, List.forall_mem_cons.mpr ⟨?_, List.forall_mem_cons.mpr ⟨?_, ?_⟩⟩⟩
      k_mem
      k_mem
      k_mem
      intro p hp
      repeat (first | exact hp | refine List.Mem.tail _ ?_)
end Mine
end

section
open PySem PySem.W PyProof.Rows PySem.Calls PySem.Spec
set_option maxHeartbeats 0
namespace Mine
noncomputable def lineOf (r : Str × Str) : Str := r.1 ++ Str.ofString ": " ++ r.2
theorem line_len {r : Str × Str} (h1 : r.1.length < 1000) (h2 : r.2.length < 1000) : (lineOf r).length ≤ 2002 := by
  unfold lineOf
  have e : (Str.ofString ": ").length = 2 := by decide
  have a : ∀ x y : Str, (x ++ y).length = x.length + y.length := fun x y => by show (x.cps ++ y.cps).size = _; exact Array.size_append
  rw [a, a, e]; omega
theorem tab_str {w : World} {x d l : Addr} {kt : Tok} {its : Array Value} {n : Nat} {rows : List (Str × Str)} {P : Program} {lo : List Str} {mean : ExcName → Option Value} {mg mb : Str → Option Value} {dp un : Nat} {gd : Option (List Code)} {cn : Str} {cs : Scope} {L a : Addr} {ccd : Value} {cl : List (Str × Addr)} {outer : List Env} {A₀ : Around} {base h₀ : Heap} {m : Str → Option Value} {news : List (Addr × Obj)} {s : Shared} {Q E : Value → Shared → Prop}
  (B : Below A₀ base outer h₀) (F : Fr h₀ L s.heap m) (X : (K w.params).In h₀) (N : News h₀ L s.heap ((l, listOf its n) :: (x, instObj 206 d) :: (d, tabD (PyData.keyHash w.params (Str.ofString "_headers")) kt l) :: news)) (T : Top P lo mean mg mb h₀) (hk : cs.kind = .function) (hd : dp + 20 < recursionLimit) (hu : un + 200 < cLine)
  (hz : rows.length < 9) (hR : Rows news its rows) (hlen : ∀ r ∈ rows, r.1.length < 1000 ∧ r.2.length < 1000)
  (hret : ∀ u' h' tk', Fr h₀ L h' m → News h₀ L h' ((l, listOf its n) :: (x, instObj 206 d) :: (d, tabD (PyData.keyHash w.params (Str.ofString "_headers")) kt l) :: news) → Q (.str (Txt.join (Str.ofString "\r\n") (rows.map lineOf ++ [Str.ofString "", Str.ofString ""])) u') { s with heap := h', toks := tk' }) :
  wpAny (model PySem.Challenge.rw_sw0083_01.row.prog w) (ktrTop dp un gd cn cs L a ccd cl outer) (call (.ref 182) [.ref x]) Q E s := by
  k_with_none
  k_with "chain" => first | with_reducible assumption | exact Nat.lt_succ_self _ | (refine Nat.lt_trans ?_ (by with_reducible assumption); k_extra "chain") | ((fail_if_success (show @LT.lt Nat _ _ 295)); refine Nat.lt_succ_of_lt ?_; k_extra "chain")
  k_with "eval Constant int" => refine Mine.const_intN ?_
  k_with "eval Constant str" => refine Mine.const_strN ?_
  k_with "binaryOp Add int int" => refine Mine.add_intN ?_
  k_with "binaryOp Mod int int" => refine Mine.mod_intN (by decide) ?_
  k_with "ktr_room" => (refine Mine.ltOf (by with_reducible assumption) ?_; (try dsimp only [depth_under_make, depth_under_kw, depth_in1, depth_deeper, depth_caller]); repeat (first | with_reducible exact Nat.le_add_right _ _ | with_reducible refine Mine.leK (Eq.refl (_ + _)) ?_))
  k_with "ktr_units" => (refine Mine.ltOf (by with_reducible assumption) ?_; (try dsimp only [units_in1, units_deeper, Around.mark_units, units_caller]); repeat (first | with_reducible exact Nat.le_add_right _ _ | with_reducible refine Mine.leK (Eq.refl (_ + _)) ?_))
  k_with "size_fits" => first | with_reducible assumption | exact Nat.zero_le _ | exact Mine.fitLt (by with_reducible assumption) (by decide) | exact Mine.fitLe (by with_reducible assumption) (by decide) | exact Mine.catF (by k_extra "cat") | exact Mine.catA (by k_extra "cat")
  k_with "cat" => repeat (first | exact Mine.catB1 (by with_reducible assumption) (by decide) | exact Nat.le_trans (by with_reducible assumption) (by decide) | with_reducible refine Mine.catM (Eq.refl (_ + 10000)) ?_ ?_ | ((with_reducible show (Str.ofString _).length ≤ _); decide) | ((with_reducible show Str.empty.length ≤ _); decide))
  k_with "And" => ((first | (with_reducible show PySem.Str.length (_ ++ _) ≤ sizeLine ∧ _) | ((fail_if_success (with_reducible show _ ∧ _)); dsimp only; (with_reducible show PySem.Str.length (_ ++ _) ≤ sizeLine ∧ _))); refine ⟨Mine.catF (by k_extra "cat"), ?_⟩)
  k_with "andlt" => first | with_reducible assumption | exact (by with_reducible assumption : (@LT.lt Nat _ _ _) ∧ _).1 | exact (by with_reducible assumption : (@LT.lt Nat _ _ _) ∧ (@LT.lt Nat _ _ _) ∧ _).2.1 | exact (by with_reducible assumption : (@LT.lt Nat _ _ _) ∧ (@LT.lt Nat _ _ _) ∧ (@LT.lt Nat _ _ _) ∧ _).2.2.1 | exact (by with_reducible assumption : (@LT.lt Nat _ _ _) ∧ (@LT.lt Nat _ _ _) ∧ (@LT.lt Nat _ _ _) ∧ (@LT.lt Nat _ _ _) ∧ _).2.2.2.1 | exact (by with_reducible assumption : (@LT.lt Nat _ _ _) ∧ (@LT.lt Nat _ _ _) ∧ (@LT.lt Nat _ _ _) ∧ (@LT.lt Nat _ _ _) ∧ (@LT.lt Nat _ _ _) ∧ _).2.2.2.2.1 | exact (by with_reducible assumption : (@LT.lt Nat _ _ _) ∧ (@LT.lt Nat _ _ _) ∧ (@LT.lt Nat _ _ _) ∧ (@LT.lt Nat _ _ _) ∧ (@LT.lt Nat _ _ _) ∧ (@LT.lt Nat _ _ _) ∧ _).2.2.2.2.2.1 | exact (by with_reducible assumption : (@LT.lt Nat _ _ _) ∧ (@LT.lt Nat _ _ _) ∧ (@LT.lt Nat _ _ _) ∧ (@LT.lt Nat _ _ _) ∧ (@LT.lt Nat _ _ _) ∧ (@LT.lt Nat _ _ _) ∧ (@LT.lt Nat _ _ _) ∧ _).2.2.2.2.2.2.1 | exact (by with_reducible assumption : (@LT.lt Nat _ _ _) ∧ (@LT.lt Nat _ _ _) ∧ (@LT.lt Nat _ _ _) ∧ (@LT.lt Nat _ _ _) ∧ (@LT.lt Nat _ _ _) ∧ (@LT.lt Nat _ _ _) ∧ (@LT.lt Nat _ _ _) ∧ (@LT.lt Nat _ _ _) ∧ _).2.2.2.2.2.2.2.1 | exact (by with_reducible assumption : (@LT.lt Nat _ _ _) ∧ (@LT.lt Nat _ _ _) ∧ (@LT.lt Nat _ _ _) ∧ (@LT.lt Nat _ _ _) ∧ (@LT.lt Nat _ _ _) ∧ (@LT.lt Nat _ _ _) ∧ (@LT.lt Nat _ _ _) ∧ (@LT.lt Nat _ _ _) ∧ (@LT.lt Nat _ _ _) ∧ _).2.2.2.2.2.2.2.2.1
  k_with "k_ne" => (refine neN ?_; (try dsimp only); first | with_reducible assumption | exact Ne.symm (by with_reducible assumption) | (refine Mine.neGt ?_; k_extra "andlt") | (refine Nat.ne_of_lt ?_; k_extra "andlt") | omega)
  k_with "k_mem" => assumption
  k_with "CompSrc" => (k_here; k_dflt (refine LCg.CompSrc.ledger (by rfl) (by k_asm) (by k_asm) (by k_mem) (by first | size_fits | (rw [sizeLine_eq]; omega)) ?_; intro kw_g'); refine Hold.out ?_)
  k_with "CompEnd" => (refine LCg.CompEnd.intro (by assumption) (by assumption) _ (fun p hp => hp) (by assumption) (by lcg_src) ?_)
  k_with "call builtin:str.join" => (refine Hold.out ?_)
  have hsz := hR.1
  revert X; k_fill; intro X
  refine wpAny_call ?_
  k_dflt cell_enter
  k_steps
  unfold Hold
  refine compU_each (fun i ys nw => nw = _ ∧ StrsAre ys ((rows.take i).map lineOf)) ⟨rfl, .nil⟩ ?_ ?_
  · intro i ys nw v I oI C oC D m₂ h tk E' R hi hI hv hC hx F' N' off' ne hR'
    obtain ⟨rfl, hst⟩ := hI
    obtain ⟨a, r, ta, tb, hr, rfl, hm⟩ := hR.2 i v hv
    obtain ⟨h1, h2⟩ := hlen r (List.mem_of_getElem? hr)
    k_steps
    refine hR' _ _ ⟨rfl, ?_⟩
    rw [List.take_add_one, hr, Option.toList_some, List.map_append]
    exact kct_snoc hst
  · rintro ys nw ⟨rfl, hst⟩
    rw [hsz, List.take_length] at hst
    have hyl := strs_len hst
    rw [List.length_map] at hyl
    k_steps
    unfold Hold
    rename StrsAre _ _ => hst
    refine join_list (s := ⟨_, _, _, _, _⟩) (ys := rows.map lineOf ++ [Str.ofString "", Str.ofString ""]) (by is_list) ?_ ?_ ?_
    · simpa using kct_snoc (kct_snoc hst)
    · have q := sum_le (l := rows.map lineOf ++ [Str.ofString "", Str.ofString ""]) (c := 2002) (by
        intro y hy
        rcases List.mem_append.mp hy with hy | hy
        · obtain ⟨r, hr, rfl⟩ := List.mem_map.mp hy
          exact line_len (hlen r hr).1 (hlen r hr).2
        · rcases List.mem_cons.mp hy with rfl | hy
          · decide
          · rcases List.mem_cons.mp hy with rfl | hy
            · decide
            · cases hy)
      have e2 : (Str.ofString "\x0d\n").length = 2 := by decide
      rw [e2]
      simp only [List.length_append, List.length_map, List.length_cons, List.length_nil] at q ⊢
      omega
    · intro t' k
      k_steps
      exact cb_retS (Q := Q) hret rfl (by k_asm) (cb_drop (by assumption) (by kcj_all))
end Mine
end

section
open PySem PySem.W PyProof.Rows PySem.Calls PySem.Spec
set_option maxHeartbeats 0
namespace Mine
theorem cleanO : Clean (Str.ofString "OPTIMIZED") := clean_of (by decide +kernel)
theorem cleanL : CleanV (Str.ofString "<") := cleanV_of (by decide +kernel)
theorem headers_new {w : World} {P : Program} {lo : List Str} {mean : ExcName → Option Value} {mg mb : Str → Option Value} {dp un : Nat} {gd : Option (List Code)} {cn : Str} {cs : Scope} {L a : Addr} {ccd : Value} {cl : List (Str × Addr)} {outer : List Env} {A₀ : Around} {base h₀ : Heap} {m : Str → Option Value} {news : List (Addr × Obj)} {s : Shared} {Q E : Value → Shared → Prop} {l tp : Addr} {n : Nat} {t u : Tok}
  (B : Below A₀ base outer h₀) (F : Fr h₀ L s.heap m) (X : (K w.params).In h₀) (N : News h₀ L s.heap ((l, listOf #[.ref tp] n) :: (tp, tupO [.str (Str.ofString "OPTIMIZED") t, .str (Str.ofString "<") u]) :: news)) (T : Top P lo mean mg mb h₀) (hk : cs.kind = .function) (hd : dp + 20 < recursionLimit) (hu : un + 200 < cLine)
  (hret : ∀ x d kt h' tk' gs', Bg s.gens gs' → Fr h₀ L h' m → News h₀ L h' ((x, instObj 206 d) :: (d, tabD (PyData.keyHash w.params (Str.ofString "_headers")) kt l) :: (l, listOf #[.ref tp] n) :: (tp, tupO [.str (Str.ofString "OPTIMIZED") t, .str (Str.ofString "<") u]) :: news) → (d : Nat) < x → ((l : Nat) < d ∧ (tp : Nat) < d ∧ AllLt d news) → Q (.ref x) { s with heap := h', toks := tk', gens := gs' }) :
  wpAny (model PySem.Challenge.rw_sw0083_01.row.prog w) (ktrTop dp un gd cn cs L a ccd cl outer) (call (.ref 206) [.ref l]) Q E s := by
  k_with_none
  k_with "chain" => first | with_reducible assumption | exact Nat.lt_succ_self _ | (refine Nat.lt_trans ?_ (by with_reducible assumption); k_extra "chain") | ((fail_if_success (show @LT.lt Nat _ _ 295)); refine Nat.lt_succ_of_lt ?_; k_extra "chain")
  k_with "eval Constant int" => refine Mine.const_intN ?_
  k_with "eval Constant str" => refine Mine.const_strN ?_
  k_with "binaryOp Add int int" => refine Mine.add_intN ?_
  k_with "binaryOp Mod int int" => refine Mine.mod_intN (by decide) ?_
  k_with "ktr_room" => (refine Mine.ltOf (by with_reducible assumption) ?_; (try dsimp only [depth_under_make, depth_under_kw, depth_in1, depth_deeper, depth_caller]); repeat (first | with_reducible exact Nat.le_add_right _ _ | with_reducible refine Mine.leK (Eq.refl (_ + _)) ?_))
  k_with "ktr_units" => (refine Mine.ltOf (by with_reducible assumption) ?_; (try dsimp only [units_in1, units_deeper, Around.mark_units, units_caller]); repeat (first | with_reducible exact Nat.le_add_right _ _ | with_reducible refine Mine.leK (Eq.refl (_ + _)) ?_))
  k_with "size_fits" => first | with_reducible assumption | exact Nat.zero_le _ | exact Mine.fitLt (by with_reducible assumption) (by decide) | exact Mine.fitLe (by with_reducible assumption) (by decide) | exact Mine.catF (by k_extra "cat") | exact Mine.catA (by k_extra "cat")
  k_with "cat" => repeat (first | exact Mine.catB1 (by with_reducible assumption) (by decide) | exact Nat.le_trans (by with_reducible assumption) (by decide) | with_reducible refine Mine.catM (Eq.refl (_ + 10000)) ?_ ?_ | ((with_reducible show (Str.ofString _).length ≤ _); decide) | ((with_reducible show Str.empty.length ≤ _); decide))
  k_with "And" => ((first | (with_reducible show PySem.Str.length (_ ++ _) ≤ sizeLine ∧ _) | ((fail_if_success (with_reducible show _ ∧ _)); dsimp only; (with_reducible show PySem.Str.length (_ ++ _) ≤ sizeLine ∧ _))); refine ⟨Mine.catF (by k_extra "cat"), ?_⟩)
  k_with "andlt" => first | with_reducible assumption | exact (by with_reducible assumption : (@LT.lt Nat _ _ _) ∧ _).1 | exact (by with_reducible assumption : (@LT.lt Nat _ _ _) ∧ (@LT.lt Nat _ _ _) ∧ _).2.1 | exact (by with_reducible assumption : (@LT.lt Nat _ _ _) ∧ (@LT.lt Nat _ _ _) ∧ (@LT.lt Nat _ _ _) ∧ _).2.2.1 | exact (by with_reducible assumption : (@LT.lt Nat _ _ _) ∧ (@LT.lt Nat _ _ _) ∧ (@LT.lt Nat _ _ _) ∧ (@LT.lt Nat _ _ _) ∧ _).2.2.2.1 | exact (by with_reducible assumption : (@LT.lt Nat _ _ _) ∧ (@LT.lt Nat _ _ _) ∧ (@LT.lt Nat _ _ _) ∧ (@LT.lt Nat _ _ _) ∧ (@LT.lt Nat _ _ _) ∧ _).2.2.2.2.1 | exact (by with_reducible assumption : (@LT.lt Nat _ _ _) ∧ (@LT.lt Nat _ _ _) ∧ (@LT.lt Nat _ _ _) ∧ (@LT.lt Nat _ _ _) ∧ (@LT.lt Nat _ _ _) ∧ (@LT.lt Nat _ _ _) ∧ _).2.2.2.2.2.1 | exact (by with_reducible assumption : (@LT.lt Nat _ _ _) ∧ (@LT.lt Nat _ _ _) ∧ (@LT.lt Nat _ _ _) ∧ (@LT.lt Nat _ _ _) ∧ (@LT.lt Nat _ _ _) ∧ (@LT.lt Nat _ _ _) ∧ (@LT.lt Nat _ _ _) ∧ _).2.2.2.2.2.2.1 | exact (by with_reducible assumption : (@LT.lt Nat _ _ _) ∧ (@LT.lt Nat _ _ _) ∧ (@LT.lt Nat _ _ _) ∧ (@LT.lt Nat _ _ _) ∧ (@LT.lt Nat _ _ _) ∧ (@LT.lt Nat _ _ _) ∧ (@LT.lt Nat _ _ _) ∧ (@LT.lt Nat _ _ _) ∧ _).2.2.2.2.2.2.2.1 | exact (by with_reducible assumption : (@LT.lt Nat _ _ _) ∧ (@LT.lt Nat _ _ _) ∧ (@LT.lt Nat _ _ _) ∧ (@LT.lt Nat _ _ _) ∧ (@LT.lt Nat _ _ _) ∧ (@LT.lt Nat _ _ _) ∧ (@LT.lt Nat _ _ _) ∧ (@LT.lt Nat _ _ _) ∧ (@LT.lt Nat _ _ _) ∧ _).2.2.2.2.2.2.2.2.1
  k_with "k_ne" => (refine neN ?_; (try dsimp only); first | with_reducible assumption | exact Ne.symm (by with_reducible assumption) | (refine Mine.neGt ?_; k_extra "andlt") | (refine Nat.ne_of_lt ?_; k_extra "andlt") | omega)
  k_with "k_mem" => first | exact List.Mem.head _ | (refine' List.Mem.tail _ ?_; k_mem) | assumption
  k_with "getMethod ref" => first | (refine rx70_method (by exact Frag.In.keeps (by k_asm) (Fr.keep (by k_asm))) ?_) | (refine rx75_method (by exact Frag.In.keeps (by k_asm) (Fr.keep (by k_asm))) ?_)
  k_with "call builtin:re.Pattern.search" => first | (refine rx70_call (by exact Frag.In.keeps (by k_asm) (Fr.keep (by k_asm))) (by first | assumption | exact cleanO) ?_) | (refine rx75_call (by exact Frag.In.keeps (by k_asm) (Fr.keep (by k_asm))) (by first | assumption | exact cleanL) ?_)
  k_with "call ref" => ((with_reducible show wpAny _ _ (call (Value.ref 105) _ _) _ _ _); (refine wpAny_call ?_); k_dflt (refine' code_def ?k1 ?k2 ?k3 ?k4 ?k5 ?kA ?kF ?kK ?k6 ?k7 ?k8 ?k9 ?kB ?_ ?c2 ?c3 ?c4 ?c5; (case kA => exact rfl); (case kF => exact rfl); (case kK => first | exact rfl | assumption); (case k1 => k_asm); (case k2 => k_asm); (case k3 => k_asm); (case k4 => k_asm); (case k5 => k_asm); (case k6 => k_is); (case k7 => k_is); (case k8 => ktr_room); (case k9 => first | exact BindsTo.of_eq rfl | (refine' kp_binds ?kx ?ke; (case kx => k_in); (case ke => exact fun _ => rfl))); (case c5 => decide); (case kB => exact locs rfl); (case c2 => exact rfl); (case c3 => exact rfl); (case c4 => exact rfl); k_whole; intro kw_g' kw_L' kw_h' kw_FG' kw_F' kw_N' kw_B' kw_X' kw_T'; (try dsimp only); (try k_lift kw_B'); (try k_fold)))
  k_with "exec For Tuple Name" => (refine Hold.out ?_)
  k_with "ForRows" => (refine Hold.out ?_)
  revert X; k_fill; intro X
  k_dflt (refine' call_cls ?k1 ?k2 ?k3 ?k4 ?k5 ?k6 ?_; (case k1 => k_asm); (case k2 => k_asm); (case k3 => k_asm); (case k4 => k_is); (case k5 => k_is); (case k6 => k_is); k_whole)
  intro x' d' h' F' N' l1 l2
  k_lt l1
  replace l2 := ltN l2
  k_dflt (refine' code_def ?k1 ?k2 ?k3 ?k4 ?k5 ?kA ?kF ?kK ?k6 ?k7 ?k8 ?k9 ?kB ?_ ?c2 ?c3 ?c4 ?c5; (case kA => exact rfl); (case kF => exact rfl); (case kK => first | exact rfl | assumption); (case k1 => k_asm); (case k2 => k_asm); (case k3 => k_asm); (case k4 => k_asm); (case k5 => k_asm); (case k6 => k_is); (case k7 => k_is); (case k8 => ktr_room); (case k9 => first | exact BindsTo.of_eq rfl | (refine' kp_binds ?kx ?ke; (case kx => k_in); (case ke => exact fun _ => rfl))); (case c5 => decide); (case kB => exact locs rfl); (case c2 => exact rfl); (case c3 => exact rfl); (case c4 => exact rfl); k_whole)
  intro g' L' h' FG' F' N' B' X' T'
  try dsimp only
  try k_lift B'
  try k_fold
  k_steps
  unfold Hold
  refine for_rows (h₀ := g') (by rfl) (by with_unfolding_all rfl) (by with_unfolding_all rfl) (by with_unfolding_all rfl) ?_
  k_steps
  unfold Hold
  rename Fr _ _ _ _ => FE
  rename News _ _ _ _ => NE
  refine ⟨l, #[.ref tp], n, [(Str.ofString "OPTIMIZED", Str.ofString "<")], _, _, fun i mi nw => nw = _ ∧ (i = 0 → mi = _), rfl, FE, NE, ?_, ⟨rfl, fun _ => rfl⟩, ?_, ?_⟩
  · rintro i mi nw ⟨rfl, _⟩
    refine ⟨by k_mem, rfl, fun i v hv => ?_⟩
    have : i = 0 := by
      have := (Array.getElem?_eq_some_iff.mp hv).1
      simp at this; exact this
    subst this
    refine ⟨tp, _, t, u, rfl, by simpa using hv.symm, by k_mem⟩
  · rintro i mi nw r ta tb I oI h tk gs hbg hr ⟨rfl, hmi⟩ F9 N9 off hlt
    have hi : i = 0 := by
      have := (List.getElem?_eq_some_iff.mp hr).1
      simp at this; exact this
    subst hi
    obtain rfl := hmi rfl
    obtain rfl : (Str.ofString "OPTIMIZED", Str.ofString "<") = r := by simpa using hr
    try dsimp only at F9 N9 ⊢
    k_steps
    rename Fr _ _ _ _ => F8
    rename News _ _ _ _ => N8
    exact ⟨rfl, _, _, _, _, _, rfl, hbg, F8, N8, off, rfl, fun h => absurd h (by decide)⟩
  · rintro mi nw h tk gs hbg ⟨rfl, _⟩ F9 N9
    try dsimp only at F9 N9 ⊢
    k_steps
    rename News _ _ _ _ => N8
    exact hret _ _ _ _ _ _ hbg (by k_asm) N8 l2 l1
end Mine
end

section
open PySem PySem.W PyProof.Rows PySem.Calls PySem.Spec
namespace Mine
theorem w_low : ∀ i : Nat, i < 32 → Txt.lower (Txt.lower (wordOf (i : Int))) = Txt.lower (wordOf (i : Int)) := by decide +kernel
theorem w_low_ne : ∀ i : Nat, i < 32 → ∀ j : Nat, j < 32 → Txt.lower (wordOf (i : Int)) = Txt.lower (wordOf (j : Int)) → i = j := by decide +kernel
theorem w_clean : ∀ i : Nat, i < 32 → fails code70 (wordOf (i : Int)) = true ∧ fails code70 (Txt.lower (wordOf (i : Int))) = true := by decide +kernel
theorem w_lowlen : ∀ i : Nat, i < 32 → (Txt.lower (wordOf (i : Int))).length ≤ 20 := by decide +kernel
theorem w_noclose : ∀ i : Nat, i < 32 → Builtin.Str.occurrences (wordOf (i : Int)) closeB 0 (wordOf (i : Int)).length 1 = [] := by decide +kernel
theorem w_brace : ∀ i : Nat, i < 32 → ¬ Txt.slice (wordOf (i : Int)) none (some 1) = Str.ofString "{" := by decide +kernel
theorem f_word : NoClose (Str.ofString "f") ∧ (Str.ofString "f").length < 1000 ∧ ¬ Txt.slice (Str.ofString "f") none (some 1) = Str.ofString "{" := by
  unfold NoClose; decide +kernel
theorem w_not_f : ∀ i : Nat, i < 32 → ¬ Str.ofString "f" = wordOf (i : Int) := by decide +kernel
end Mine
end

section
open PySem PySem.W PyProof.Rows PySem.Calls PySem.Spec
namespace Mine
noncomputable def valsL : List Str := [Str.ofString "<", Str.ofString "&", Str.ofString "\"", Str.ofString "\t"]
noncomputable def speL : List Str := [Str.ofString "&lt;", Str.ofString "&amp;", Str.ofString "&quot;", Str.ofString "&#x9;"]
theorem strExt {x y : Str} (h : x.cps.toList = y.cps.toList) : x = y := by
  obtain ⟨a⟩ := x
  obtain ⟨b⟩ := y
  exact congrArg Str.mk (Array.toList_inj.mp h)
theorem join_empty (ys : List Str) : (Txt.join (Str.ofString "") ys).cps.toList = (ys.map fun y => y.cps.toList).flatten := by
  cases ys with
  | nil => rfl
  | cons y r =>
    rw [join_toList, List.map_cons, List.flatten_cons]
    have e : (Str.ofString "").cps.toList = [] := by decide
    simp only [e, List.nil_append]
noncomputable def rowsOf (ws sp : List Str) (js : List Int) : List (Str × Str) := js.map fun k => (wAt ws k, wAt sp k)
noncomputable def DueTxt (ws vs sp : List Str) (js : List Int) (A1 A2 A3 : Str) : Prop := ∃ (n9 : List Int) (rows9 : List (Str × Str)), n9.Perm js ∧ n9.Pairwise (· ≤ ·) ∧ rows9.Perm (rowsOf ws sp js) ∧ rows9.Pairwise (fun a b => ltW a.1 b.1 = true) ∧
  A1 = Txt.join (Str.ofString ", ") (n9.map (wAt ws)) ∧ A2 = Txt.join (Str.ofString "") (js.map (dueLine ws vs)) ++ Str.ofString "\r\n" ∧ A3 = Str.ofString "<f" ++ Txt.join (Str.ofString "") (rows9.map attrText) ++ Str.ofString ">"
theorem ltW_asymm {a b : Str} (h : ltW a b = true) (h' : ltW b a = true) : False := by
  unfold ltW at h h'
  have h1 : a.cps.toList < b.cps.toList := of_decide_eq_true h
  have h2 : b.cps.toList < a.cps.toList := of_decide_eq_true h'
  exact List.lt_irrefl _ (List.lt_trans h1 h2)
theorem rows_uniq {a b : List (Str × Str)} (hp : a.Perm b) (ha : a.Pairwise (fun a b => ltW a.1 b.1 = true)) (hb : b.Pairwise (fun a b => ltW a.1 b.1 = true)) : a = b :=
  List.Perm.eq_of_pairwise (le := fun a b => ltW a.1 b.1 = true) (fun x y _ _ h1 h2 => (ltW_asymm h1 h2).elim) ha hb hp
theorem ints_uniq {a b : List Int} (hp : a.Perm b) (ha : a.Pairwise (· ≤ ·)) (hb : b.Pairwise (· ≤ ·)) : a = b :=
  List.Perm.eq_of_pairwise (le := (· ≤ ·)) (fun x y _ _ h1 h2 => Int.le_antisymm h1 h2) ha hb hp
theorem due_eq {ws vs sp : List Str} {js : List Int} {A1 A2 A3 B1 B2 B3 : Str} (h : DueTxt ws vs sp js A1 A2 A3) (h' : DueTxt ws vs sp js B1 B2 B3) : A1 = B1 ∧ A2 = B2 ∧ A3 = B3 := by
  obtain ⟨n, r, p1, s1, p2, s2, rfl, rfl, rfl⟩ := h
  obtain ⟨n', r', p1', s1', p2', s2', rfl, rfl, rfl⟩ := h'
  obtain rfl := ints_uniq (p1.trans p1'.symm) s1 s1'
  obtain rfl := rows_uniq (p2.trans p2'.symm) s2 s2'
  exact ⟨rfl, rfl, rfl⟩
theorem ins_sorted {α : Type} {R : α → α → Prop} (as : ∀ a b, R a b → R b a → a = b) {l l' m : List α} {k : α} (hp : l.Perm m) (hs : l.Pairwise R) (hp' : l'.Perm (k :: m)) (hs' : l'.Pairwise R) : ∃ c d, l = c ++ d ∧ l' = c ++ k :: d := by
  obtain ⟨c, d, rfl⟩ := List.append_of_mem (hp'.mem_iff.mpr (.head _))
  refine ⟨c, d, ?_, rfl⟩
  have h1 : (c ++ d).Perm m := List.Perm.cons_inv (List.perm_middle.symm.trans hp')
  have h2 : (c ++ d).Pairwise R := hs'.sublist (by simp)
  exact List.Perm.eq_of_pairwise (le := R) (fun a b _ _ => as a b) hs h2 (hp.trans h1.symm)
theorem app3 (x y : Str) : (x ++ y).cps.toList = x.cps.toList ++ y.cps.toList := app_toList x y
theorem due_ins {ws vs sp : List Str} {a b : List Int} {k : Int} {A1 A2 A3 B1 B2 B3 : Str} (h : DueTxt ws vs sp (a ++ b) A1 A2 A3) (h' : DueTxt ws vs sp (a ++ k :: b) B1 B2 B3) (h0 : ∃ j ∈ a ++ b, j < k) (hv : (wAt vs k).length = 1) :
    InsOf A1 B1 ((wAt ws k).length + 2) ∧ InsOf A2 B2 ((wAt ws k).length + 5) ∧ InsOf A3 B3 ((wAt ws k).length + (wAt sp k).length + 4) := by
  obtain ⟨n, r, p1, s1, p2, s2, rfl, rfl, rfl⟩ := h
  obtain ⟨n', r', p1', s1', p2', s2', rfl, rfl, rfl⟩ := h'
  refine ⟨?_, ?_, ?_⟩
  · obtain ⟨c, d, rfl, rfl⟩ := ins_sorted (fun a b => Int.le_antisymm) p1 s1 (p1'.trans List.perm_middle) s1'
    obtain ⟨j, hj, hjk⟩ := h0
    have hjc : j ∈ c := by
      rcases List.mem_append.mp (p1.mem_iff.mpr hj) with hh | hh
      · exact hh
      · have := List.rel_of_pairwise_cons (List.pairwise_append.mp s1').2.1 hh
        omega
    cases c with
    | nil => cases hjc
    | cons c0 c =>
      refine ⟨(wAt ws c0).cps.toList ++ ((c.map (wAt ws)).map fun p => (Str.ofString ", ").cps.toList ++ p.cps.toList).flatten, (Str.ofString ", ").cps.toList ++ (wAt ws k).cps.toList, ((d.map (wAt ws)).map fun p => (Str.ofString ", ").cps.toList ++ p.cps.toList).flatten, ?_, .inl ⟨?_, ?_⟩⟩
      · rw [List.length_append, str_len]
        have e : (Str.ofString ", ").cps.toList.length = 2 := by decide
        omega
      · rw [List.cons_append, List.map_cons, join_toList, List.map_append, List.map_append, List.flatten_append, List.append_assoc]
      · rw [List.cons_append, List.map_cons, join_toList, List.map_append, List.map_append, List.flatten_append, List.map_cons, List.map_cons, List.flatten_cons]
        simp only [List.append_assoc]
  · refine ⟨((a.map (dueLine ws vs)).map fun y => y.cps.toList).flatten, (dueLine ws vs k).cps.toList, ((b.map (dueLine ws vs)).map fun y => y.cps.toList).flatten ++ (Str.ofString "\r\n").cps.toList, ?_, .inl ⟨?_, ?_⟩⟩
    · unfold dueLine
      rw [app3, app3, app3, List.length_append, List.length_append, List.length_append]
      have h1 := str_len (wAt ws k)
      have h2 := str_len (wAt vs k)
      have e1 : (Str.ofString ": ").cps.toList.length = 2 := by decide
      have e2 : (Str.ofString "\r\n").cps.toList.length = 2 := by decide
      omega
    · rw [app3, join_empty, List.map_append, List.map_append, List.flatten_append, List.append_assoc]
    · rw [app3, join_empty, List.map_append, List.map_append, List.flatten_append, List.map_cons, List.map_cons, List.flatten_cons]
      simp only [List.append_assoc]
  · have q : (rowsOf ws sp (a ++ k :: b)).Perm ((wAt ws k, wAt sp k) :: rowsOf ws sp (a ++ b)) := by
      unfold rowsOf
      rw [List.map_append, List.map_append, List.map_cons]
      exact List.perm_middle
    obtain ⟨c, d, rfl, rfl⟩ := ins_sorted (R := fun a b => ltW a.1 b.1 = true) (fun a b x y => (ltW_asymm x y).elim) p2 s2 (p2'.trans q) s2'
    refine ⟨(Str.ofString "<f").cps.toList ++ ((c.map attrText).map fun y => y.cps.toList).flatten, (attrText (wAt ws k, wAt sp k)).cps.toList, ((d.map attrText).map fun y => y.cps.toList).flatten ++ (Str.ofString ">").cps.toList, ?_, .inl ⟨?_, ?_⟩⟩
    · unfold attrText
      dsimp only
      rw [app3, app3, app3, app3, List.length_append, List.length_append, List.length_append, List.length_append]
      have h1 := str_len (wAt ws k)
      have h2 := str_len (wAt sp k)
      have e1 : (Str.ofString " ").cps.toList.length = 1 := by decide
      have e2 : (Str.ofString "=\"").cps.toList.length = 2 := by decide
      have e3 : (Str.ofString "\"").cps.toList.length = 1 := by decide
      omega
    · rw [app3, app3, join_empty, List.map_append, List.map_append, List.flatten_append]
      simp only [List.append_assoc]
    · rw [app3, app3, join_empty, List.map_append, List.map_append, List.flatten_append, List.map_cons, List.map_cons, List.flatten_cons]
      simp only [List.append_assoc]
theorem ins_ne {x y : Str} {d : Nat} (h : InsOf x y d) (hd : 0 < d) : x ≠ y := by
  rintro rfl
  obtain ⟨p, m, s, hm, ⟨h1, h2⟩ | ⟨h1, h2⟩⟩ := h <;>
  · rw [h1] at h2
    have := congrArg List.length h2
    simp only [List.length_append] at this
    omega
/-- the table's text -/
theorem lines_eq {ws vs : List Str} : ∀ {js : List Int}, js ≠ [] → Txt.join (Str.ofString "\r\n") ((rowsOf ws vs js).map lineOf ++ [Str.ofString "", Str.ofString ""]) = Txt.join (Str.ofString "") (js.map (dueLine ws vs)) ++ Str.ofString "\r\n" := by
  intro js hne
  refine strExt ?_
  rw [app3, join_empty]
  cases js with
  | nil => exact absurd rfl hne
  | cons j js =>
    unfold rowsOf
    rw [List.map_cons, List.map_cons, List.cons_append, join_toList]
    have e0 : (Str.ofString "").cps.toList = [] := by decide
    have key : ∀ (js : List Int) (x : List Nat), x ++ (((js.map fun k => (wAt ws k, wAt vs k)).map lineOf ++ [Str.ofString "", Str.ofString ""]).map fun p => (Str.ofString "\r\n").cps.toList ++ p.cps.toList).flatten = x ++ (Str.ofString "\r\n").cps.toList ++ ((js.map (dueLine ws vs)).map fun y => y.cps.toList).flatten ++ (Str.ofString "\r\n").cps.toList := by
      intro js
      induction js with
      | nil => intro x; simp [e0]
      | cons k js ih =>
        intro x
        rw [List.map_cons, List.map_cons, List.cons_append, List.map_cons, List.flatten_cons, ← List.append_assoc, ih, List.map_cons, List.map_cons, List.flatten_cons]
        unfold dueLine lineOf
        simp only [app3, List.append_assoc]
    rw [key, List.map_cons, List.map_cons, List.flatten_cons]
    unfold dueLine lineOf
    simp only [app3, List.append_assoc]
theorem canon_eq {J : Str} : Txt.join (Str.ofString "") [Str.ofString "<" ++ Str.ofString "f", J, Str.ofString ">"] = Str.ofString "<f" ++ J ++ Str.ofString ">" := by
  refine strExt ?_
  rw [join_empty, app3, app3]
  have e : (Str.ofString "<" ++ Str.ofString "f").cps.toList = (Str.ofString "<f").cps.toList := by decide
  simp only [List.map_cons, List.map_nil, List.flatten_cons, List.flatten_nil, List.append_nil, e, List.append_assoc]
end Mine
end

section
open PySem PySem.W PyProof.Rows PySem.Calls PySem.Spec
namespace Mine
noncomputable def placesOf (few : List Int) : List Int := [0, 1 + (few.getD 0 0).fmod 9, 10 + (few.getD 1 0).fmod 10, 20 + (few.getD 2 0).fmod 12]
def powSum (qs : List Nat) : Nat := (qs.map fun q => 2 ^ q).sum
theorem powSum_snoc (qs : List Nat) (q : Nat) : powSum (qs ++ [q]) = 2 ^ q + powSum qs := by
  unfold powSum; rw [List.map_append, List.sum_append]; simp; omega
theorem powSum_lt : ∀ (n : Nat) (qs : List Nat), qs.length = n → qs.Pairwise (· < ·) → ∀ b, (∀ q ∈ qs, q < b) → powSum qs < 2 ^ b := by
  intro n
  induction n with
  | zero => intro qs hn _ b _; rw [List.length_eq_zero_iff.mp hn]; exact Nat.two_pow_pos b
  | succ n ih =>
    intro qs hn hs b hb
    obtain ⟨l, q, rfl⟩ : ∃ l q, qs = l ++ [q] := ⟨qs.dropLast, qs.getLast (by intro e; rw [e] at hn; cases hn), (List.dropLast_concat_getLast _).symm⟩
    have hp := List.pairwise_append.mp hs
    have h1 := ih l (by simpa using hn) hp.1 q (fun x hx => hp.2.2 x hx q (.head _))
    rw [powSum_snoc]
    have h2 : q < b := hb q (by simp)
    have h3 : 2 ^ (q + 1) ≤ 2 ^ b := Nat.pow_le_pow_right (by decide) h2
    rw [Nat.pow_succ] at h3
    omega
theorem powSum_bit : ∀ (n : Nat) (qs : List Nat), qs.length = n → qs.Pairwise (· < ·) → ∀ i, (powSum qs).testBit i = decide (i ∈ qs) := by
  intro n
  induction n with
  | zero => intro qs hn _ i; rw [List.length_eq_zero_iff.mp hn]; simp [powSum]
  | succ n ih =>
    intro qs hn hs i
    obtain ⟨l, q, rfl⟩ : ∃ l q, qs = l ++ [q] := ⟨qs.dropLast, qs.getLast (by intro e; rw [e] at hn; cases hn), (List.dropLast_concat_getLast _).symm⟩
    have hp := List.pairwise_append.mp hs
    have hl := powSum_lt l.length l rfl hp.1 q (fun x hx => hp.2.2 x hx q (.head _))
    have h1 := ih l (by simpa using hn) hp.1 i
    rw [powSum_snoc]
    rcases Nat.lt_trichotomy i q with hi | hi | hi
    · rw [Nat.testBit_two_pow_add_gt hi, h1]
      have : i ≠ q := Nat.ne_of_lt hi
      simp [this]
    · subst hi
      rw [Nat.testBit_two_pow_add_eq, Nat.testBit_lt_two_pow hl]
      simp
    · have h2 : 2 ^ q + powSum l < 2 ^ i := by
        have h3 : 2 ^ (q + 1) ≤ 2 ^ i := Nat.pow_le_pow_right (by decide) hi
        rw [Nat.pow_succ] at h3
        omega
      rw [Nat.testBit_lt_two_pow h2]
      have h4 : i ∉ l ++ [q] := by
        intro hm
        rcases List.mem_append.mp hm with hm | hm
        · exact absurd (hp.2.2 i hm q (.head _)) (by omega)
        · rw [List.mem_singleton] at hm; omega
      simp only [h4, decide_false]
theorem pfN_powSum {qs : List Nat} (hs : qs.Pairwise (· < ·)) (hb : ∀ q ∈ qs, q < 32) : pfN ((powSum qs : Nat) : Int) 32 = qs.map fun q => wordOf ((q : Nat) : Int) := by
  unfold pfN
  have e : (List.range 32).filter (fun j => decide (((powSum qs : Nat) : Int) / 2 ^ j % 2 = 1)) = qs := by
    refine List.Perm.eq_of_pairwise (le := (· < ·)) (fun a b _ _ h1 h2 => absurd h1 (Nat.lt_asymm h2)) (List.pairwise_lt_range.sublist List.filter_sublist) hs ?_
    refine (List.perm_ext_iff_of_nodup (List.nodup_range.sublist List.filter_sublist) (hs.imp fun h => Nat.ne_of_lt h)).mpr fun j => ?_
    rw [List.mem_filter, List.mem_range, decide_eq_true_eq]
    have hbit := powSum_bit _ qs rfl hs j
    have hc : (((powSum qs : Nat) : Int) / 2 ^ j % 2 = 1) ↔ (powSum qs).testBit j = true := by
      rw [Nat.testBit_eq_decide_div_mod_eq, decide_eq_true_eq]
      have : ((2 : Int) ^ j) = ((2 ^ j : Nat) : Int) := by simp
      rw [this]
      omega
    rw [hc, hbit, decide_eq_true_eq]
    exact ⟨fun h => h.2, fun h => ⟨hb j h, h⟩⟩
  rw [e]
theorem powSum_perm {a b : List Nat} (h : a.Perm b) : powSum a = powSum b := (h.map fun q => 2 ^ q).sum_nat
noncomputable def plAt (pls : List Int) (k : Int) : Int := pls.getD k.toNat 0
structure Pls (pls : List Int) : Prop where
  len : pls.length = 4
  bd : ∀ p ∈ pls, 0 ≤ p ∧ p < 32
  inc : pls.Pairwise (· < ·)
theorem Pls.at' {pls : List Int} (h : Pls pls) {k : Int} (h0 : 0 ≤ k) (h4 : k < 4) : pls[k.toNat]? = some (plAt pls k) := by
  have hl := h.len
  have : k.toNat < pls.length := by omega
  unfold plAt
  rw [List.getD_eq_getElem?_getD, List.getElem?_eq_getElem this]; rfl
theorem Pls.mem {pls : List Int} (h : Pls pls) {k : Int} (h0 : 0 ≤ k) (h4 : k < 4) : plAt pls k ∈ pls := List.mem_of_getElem? (h.at' h0 h4)
theorem Pls.word {pls : List Int} (h : Pls pls) {k : Int} (h0 : 0 ≤ k) (h4 : k < 4) : wAt (pls.map wordOf) k = wordOf (plAt pls k) := by
  unfold wAt
  rw [List.getD_eq_getElem?_getD, List.getElem?_map, h.at' h0 h4]; rfl
theorem Pls.lt {pls : List Int} (h : Pls pls) {j k : Int} (h0 : 0 ≤ j) (hjk : j < k) (h4 : k < 4) : plAt pls j < plAt pls k := by
  have hl := h.len
  have hj : j.toNat < pls.length := by omega
  have hk : k.toNat < pls.length := by omega
  have e1 := h.at' h0 (by omega)
  have e2 := h.at' (by omega) h4
  rw [List.getElem?_eq_getElem hj] at e1
  rw [List.getElem?_eq_getElem hk] at e2
  rw [← Option.some.inj e1, ← Option.some.inj e2]
  exact List.pairwise_iff_getElem.mp h.inc _ _ hj hk (by omega)
theorem Pls.inj {pls : List Int} (h : Pls pls) {j k : Int} (h0 : 0 ≤ j) (h1 : j < 4) (h2 : 0 ≤ k) (h4 : k < 4) (e : plAt pls j = plAt pls k) : j = k := by
  rcases Int.lt_trichotomy j k with hh | hh | hh
  · have := h.lt h0 hh h4; omega
  · exact hh
  · have := h.lt h2 hh h1; omega
theorem Pls.nat {pls : List Int} (h : Pls pls) {k : Int} (h0 : 0 ≤ k) (h4 : k < 4) : ∃ i : Nat, i < 32 ∧ plAt pls k = (i : Int) := by
  have hb := h.bd _ (h.mem h0 h4)
  exact ⟨(plAt pls k).toNat, by omega, by omega⟩
theorem pretty_eq {pls : List Int} (h : Pls pls) {js n9 : List Int} (hp : n9.Perm js) (hs : n9.Pairwise (· ≤ ·)) (hn : js.Nodup) (hj : ∀ k ∈ js, 0 ≤ k ∧ k < 4) :
    prettyOf ((powSum (js.map fun k => (plAt pls k).toNat) : Nat) : Int) = Txt.join (Str.ofString ", ") (n9.map (wAt (pls.map wordOf))) := by
  have hj9 : ∀ k ∈ n9, 0 ≤ k ∧ k < 4 := fun k hk => hj k (hp.mem_iff.mp hk)
  have hn9 : n9.Nodup := hp.nodup_iff.mpr hn
  have hlt : n9.Pairwise (· < ·) := by
    refine (hs.and hn9).imp_of_mem ?_
    intro a b _ _ hab
    have := hab.1; have := hab.2; omega
  rw [← powSum_perm (hp.map fun k => (plAt pls k).toNat)]
  unfold prettyOf
  rw [pfN_powSum]
  · congr 1
    rw [List.map_map]
    refine List.map_congr_left fun k hk => ?_
    obtain ⟨h0, h4⟩ := hj9 k hk
    have hb := h.bd _ (h.mem h0 h4)
    rw [h.word h0 h4]
    show wordOf (((plAt pls k).toNat : Nat) : Int) = _
    rw [Int.toNat_of_nonneg hb.1]
  · refine List.pairwise_map.mpr (hlt.imp_of_mem ?_)
    intro a b ha hb hab
    have h1 := h.lt (hj9 a ha).1 hab (hj9 b hb).2
    have h2 := h.bd _ (h.mem (hj9 a ha).1 (hj9 a ha).2)
    omega
  · intro q hq
    obtain ⟨k, hk, rfl⟩ := List.mem_map.mp hq
    have h2 := h.bd _ (h.mem (hj9 k hk).1 (hj9 k hk).2)
    omega
theorem words_ne {pls : List Int} (h : Pls pls) {sp : List Str} {js : List Int} (hn : js.Nodup) (hj : ∀ k ∈ js, 0 ≤ k ∧ k < 4) : (js.map fun k => (wAt (pls.map wordOf) k, wAt sp k)).Pairwise fun a b => a.1 ≠ b.1 := by
  refine List.pairwise_map.mpr (hn.imp_of_mem ?_)
  intro a b ha hb hab e
  dsimp only at e
  rw [h.word (hj a ha).1 (hj a ha).2, h.word (hj b hb).1 (hj b hb).2] at e
  obtain ⟨i, hi, ei⟩ := h.nat (hj a ha).1 (hj a ha).2
  obtain ⟨i', hi', ei'⟩ := h.nat (hj b hb).1 (hj b hb).2
  rw [ei, ei'] at e
  have := w_low_ne i hi i' hi' (by rw [e])
  exact hab (h.inj (hj a ha).1 (hj a ha).2 (hj b hb).1 (hj b hb).2 (by rw [ei, ei', this]))
theorem places_ok {few : List Int} : Pls (placesOf few) := by
  have f : ∀ (a b : Int), 0 < b → 0 ≤ a.fmod b ∧ a.fmod b < b := fun a b h => ⟨Int.fmod_nonneg_of_pos a h, Int.fmod_lt_of_pos a h⟩
  have f1 := f (few.getD 0 0) 9 (by decide)
  have f2 := f (few.getD 1 0) 10 (by decide)
  have f3 := f (few.getD 2 0) 12 (by decide)
  refine ⟨rfl, ?_, ?_⟩
  · intro p hp
    simp only [placesOf, List.mem_cons, List.not_mem_nil, or_false] at hp
    rcases hp with rfl | rfl | rfl | rfl <;> omega
  · simp only [placesOf, List.pairwise_cons, List.mem_cons, List.not_mem_nil, or_false, forall_eq_or_imp, forall_eq, List.Pairwise.nil, false_implies, implies_true, and_true]
    omega
end Mine
end

section
open PySem PySem.W PyProof.Rows PySem.Calls PySem.Spec
namespace Mine
noncomputable def toggle (js : List Int) (k : Int) : List Int := if k ∈ js then js.filter (fun j => decide (j ≠ k)) else js ++ [k]
structure JsOk (js : List Int) : Prop where
  nd : js.Nodup
  z : 0 ∈ js
  bd : ∀ k ∈ js, 0 ≤ k ∧ k < 4
theorem JsOk.toggle {js : List Int} (h : JsOk js) {k : Int} (h1 : 1 ≤ k) (h3 : k ≤ 3) : JsOk (toggle js k) := by
  unfold Mine.toggle
  by_cases hk : k ∈ js
  · rw [if_pos hk]
    refine ⟨h.nd.sublist List.filter_sublist, List.mem_filter.mpr ⟨h.z, by simp; omega⟩, fun j hj => h.bd j (List.mem_filter.mp hj).1⟩
  · rw [if_neg hk]
    refine ⟨List.nodup_append.mpr ⟨h.nd, by simp, ?_⟩, List.mem_append_left _ h.z, ?_⟩
    · intro a ha b hb e
      rw [List.mem_singleton] at hb
      subst hb e
      exact hk ha
    · intro j hj
      rcases List.mem_append.mp hj with hj | hj
      · exact h.bd j hj
      · rw [List.mem_singleton] at hj; omega
theorem JsOk.len {js : List Int} (h : JsOk js) : 1 ≤ js.length ∧ js.length ≤ 4 := by
  constructor
  · cases js with
    | nil => cases h.z
    | cons _ _ => simp
  · have hp : (([0, 1, 2, 3] : List Int).filter fun j => decide (j ∈ js)).Perm js := by
      refine (List.perm_ext_iff_of_nodup ((by decide : ([0, 1, 2, 3] : List Int).Nodup).sublist List.filter_sublist) h.nd).mpr fun j => ?_
      rw [List.mem_filter, decide_eq_true_eq]
      refine ⟨fun q => q.2, fun q => ⟨?_, q⟩⟩
      have := h.bd j q
      have : j = 0 ∨ j = 1 ∨ j = 2 ∨ j = 3 := by omega
      simpa using this
    rw [← hp.length_eq]
    exact List.length_filter_le ..
theorem nodup_filter {a b : List Int} {k : Int} (h : (a ++ k :: b).Nodup) : (a ++ k :: b).filter (fun j => decide (j ≠ k)) = a ++ b := by
  have h1 := List.nodup_append.mp h
  have h2 := List.nodup_cons.mp h1.2.1
  rw [List.filter_append, List.filter_cons_of_neg (by simp)]
  congr 1
  · refine List.filter_eq_self.mpr fun x hx => ?_
    have := h1.2.2 x hx k (.head _)
    simpa using this
  · refine List.filter_eq_self.mpr fun x hx => ?_
    have : x ≠ k := fun e => h2.1 (e ▸ hx)
    simpa using this
theorem lev_ok {ws : List Str} {js : List Int} {k : Int} {A1 A2 A3 B1 B2 B3 : Str} (h : JsOk js) (h1 : 1 ≤ k) (h3 : k ≤ 3) (hA : DueTxt ws valsL speL js A1 A2 A3) (hB : DueTxt ws valsL speL (toggle js k) B1 B2 B3) :
    InsOf A1 B1 ((wAt ws k).length + 2) ∧ InsOf A2 B2 ((wAt ws k).length + 5) ∧ InsOf A3 B3 ((wAt ws k).length + (wAt speL k).length + 4) := by
  have hv : (wAt valsL k).length = 1 := by
    have : k = 1 ∨ k = 2 ∨ k = 3 := by omega
    rcases this with rfl | rfl | rfl <;> decide
  unfold toggle at hB
  by_cases hk : k ∈ js
  · rw [if_pos hk] at hB
    obtain ⟨a, b, rfl⟩ := List.append_of_mem hk
    rw [nodup_filter h.nd] at hB
    have hz : (0 : Int) ∈ a ++ b := by
      rcases List.mem_append.mp h.z with q | q
      · exact List.mem_append_left _ q
      · rcases List.mem_cons.mp q with q | q
        · omega
        · exact List.mem_append_right _ q
    obtain ⟨r1, r2, r3⟩ := due_ins hB hA ⟨0, hz, by omega⟩ hv
    exact ⟨r1.symm, r2.symm, r3.symm⟩
  · rw [if_neg hk] at hB
    have hA' : DueTxt ws valsL speL (js ++ []) A1 A2 A3 := by rw [List.append_nil]; exact hA
    exact due_ins hA' hB ⟨0, by simpa using h.z, by omega⟩ hv
theorem due_len {pls : List Int} (hp : Pls pls) {js : List Int} {A1 A2 A3 : Str} (h : JsOk js) (hA : DueTxt (pls.map wordOf) valsL speL js A1 A2 A3) : A1.length < 1000 ∧ A2.length < 1000 ∧ A3.length < 1000 := by
  obtain ⟨n9, rows9, p1, s1, p2, s2, rfl, rfl, rfl⟩ := hA
  have hl := h.len
  have hw : ∀ k ∈ js, (wAt (pls.map wordOf) k).length ≤ 20 := by
    intro k hk
    obtain ⟨h0, h4⟩ := h.bd k hk
    obtain ⟨i, hi, e⟩ := hp.nat h0 h4
    rw [hp.word h0 h4, e]
    exact word_len i hi
  have hk4 : ∀ k ∈ js, k = 0 ∨ k = 1 ∨ k = 2 ∨ k = 3 := fun k hk => by have := h.bd k hk; omega
  have hv : ∀ k ∈ js, (wAt valsL k).length = 1 := fun k hk => by rcases hk4 k hk with rfl | rfl | rfl | rfl <;> decide
  have hs : ∀ k ∈ js, (wAt speL k).length ≤ 6 := fun k hk => by rcases hk4 k hk with rfl | rfl | rfl | rfl <;> decide
  refine ⟨?_, ?_, ?_⟩
  · have q := join_len (sep := Str.ofString ", ") (ys := n9.map (wAt (pls.map wordOf))) (B := 20) (by
      intro y hy
      obtain ⟨k, hk, rfl⟩ := List.mem_map.mp hy
      exact hw k (p1.mem_iff.mp hk))
    have e : (Str.ofString ", ").length = 2 := by decide
    rw [List.length_map, p1.length_eq, e] at q
    have := Nat.le_trans q (Nat.mul_le_mul_right (2 + 20) hl.2)
    omega
  · have e1 : (Str.ofString ": ").length = 2 := by decide
    have e2 : (Str.ofString "\r\n").length = 2 := by decide
    have e3 : (Str.ofString "").length = 0 := by decide
    have q := join_len (sep := Str.ofString "") (ys := js.map (dueLine (pls.map wordOf) valsL)) (B := 25) (by
      intro y hy
      obtain ⟨k, hk, rfl⟩ := List.mem_map.mp hy
      have := hw k hk; have := hv k hk
      unfold dueLine
      rw [str_app_len, str_app_len, str_app_len, e1, e2]; omega)
    rw [List.length_map, e3] at q
    have := Nat.le_trans q (Nat.mul_le_mul_right (0 + 25) hl.2)
    rw [str_app_len, e2]; omega
  · have e1 : (Str.ofString " ").length = 1 := by decide
    have e2 : (Str.ofString "=\"").length = 2 := by decide
    have e3 : (Str.ofString "\"").length = 1 := by decide
    have e4 : (Str.ofString "").length = 0 := by decide
    have e5 : (Str.ofString "<f").length = 2 := by decide
    have e6 : (Str.ofString ">").length = 1 := by decide
    have q := join_len (sep := Str.ofString "") (ys := rows9.map attrText) (B := 30) (by
      intro y hy
      obtain ⟨r, hr, rfl⟩ := List.mem_map.mp hy
      obtain ⟨k, hk, rfl⟩ := List.mem_map.mp (p2.mem_iff.mp hr)
      have := hw k hk; have := hs k hk
      unfold attrText
      dsimp only
      rw [str_app_len, str_app_len, str_app_len, str_app_len, e1, e2, e3]; omega)
    have e7 : rows9.length = js.length := by rw [p2.length_eq]; unfold rowsOf; rw [List.length_map]
    rw [List.length_map, e7, e4] at q
    have := Nat.le_trans q (Nat.mul_le_mul_right (0 + 30) hl.2)
    rw [str_app_len, str_app_len, e5, e6]; omega
theorem rows_cons {nw : List (Addr × Obj)} {v : Value} {its : List Value} {r : Str × Str} {rows : List (Str × Str)} : Rows nw (v :: its).toArray (r :: rows) ↔ (∃ a ta tb, v = .ref a ∧ (a, tupO [.str r.1 ta, .str r.2 tb]) ∈ nw) ∧ Rows nw its.toArray rows := by
  constructor
  · rintro ⟨h1, h2⟩
    refine ⟨?_, by simpa using h1, fun i v' hv => ?_⟩
    · obtain ⟨a, r', ta, tb, e1, e2, e3⟩ := h2 0 v (by simp)
      rw [List.getElem?_cons_zero] at e1
      cases e1
      exact ⟨a, ta, tb, e2, e3⟩
    · obtain ⟨a, r', ta, tb, e1, e2, e3⟩ := h2 (i + 1) v' (by simpa using hv)
      exact ⟨a, r', ta, tb, by simpa using e1, e2, e3⟩
  · rintro ⟨⟨a, ta, tb, e1, e2⟩, h1, h2⟩
    refine ⟨by simpa using h1, fun i v' hv => ?_⟩
    cases i with
    | zero =>
      have : v = v' := by simpa using hv
      subst this
      exact ⟨a, r, ta, tb, rfl, e1, e2⟩
    | succ i =>
      obtain ⟨a, r', ta, tb, e1, e2, e3⟩ := h2 i v' (by simpa using hv)
      exact ⟨a, r', ta, tb, by simpa using e1, e2, e3⟩
theorem rows_filter {nw : List (Addr × Obj)} {ws vs : List Str} {keep : Value → Bool} {k : Int} : ∀ {its : List Value} {js : List Int}, Rows nw its.toArray (rowsOf ws vs js) →
    (∀ (a : Addr) (j : Int) (ta tb : Tok), j ∈ js → (a, tupO [.str (wAt ws j) ta, .str (wAt vs j) tb]) ∈ nw → keep (.ref a) = decide (j ≠ k)) → Rows nw (its.filter keep).toArray (rowsOf ws vs (js.filter fun j => decide (j ≠ k)))
  | [], [], h, _ => h
  | [], _ :: _, h, _ => by have := h.1; simp [rowsOf] at this
  | _ :: _, [], h, _ => by have := h.1; simp [rowsOf] at this
  | v :: its, j :: js, h, hk => by
    obtain ⟨⟨a, ta, tb, rfl, hm⟩, hr⟩ := rows_cons.mp (show Rows nw (v :: its).toArray ((wAt ws j, wAt vs j) :: rowsOf ws vs js) from h)
    have ih := rows_filter (its := its) (js := js) hr fun a j ta tb hj => hk a j ta tb (.tail _ hj)
    have e := hk a j ta tb (.head _) hm
    by_cases hjk : j = k
    · rw [List.filter_cons_of_neg (by rw [e]; simp [hjk]), List.filter_cons_of_neg (by simp [hjk])]
      exact ih
    · rw [List.filter_cons_of_pos (by rw [e]; simp [hjk]), List.filter_cons_of_pos (by simp [hjk])]
      exact rows_cons.mpr ⟨⟨a, ta, tb, rfl, hm⟩, ih⟩
open Classical in
noncomputable def keepOf (nw : List (Addr × Obj)) (x : Str) : Value → Bool
  | .ref a => decide (∀ y ta z tb, (a, tupO [.str y ta, .str z tb]) ∈ nw → Txt.lower y ≠ x)
  | _ => false
open Classical in
theorem keepOf_eq {h₀ h : Heap} {L : Addr} {nw : List (Addr × Obj)} (N : News h₀ L h nw) {x y z : Str} {ta tb : Tok} {a : Addr} (hm : (a, tupO [.str y ta, .str z tb]) ∈ nw) : (Txt.lower y != x) = keepOf nw x (.ref a) := by
  have huniq : ∀ y' ta' z' tb', (a, tupO [.str y' ta', .str z' tb']) ∈ nw → y' = y := by
    intro y' ta' z' tb' hm'
    have e1 := (N _ hm).1
    have e2 := (N _ hm').1
    rw [e1] at e2
    have e3 := Option.some.inj e2
    injection e3 with _ _ e4 _
    injection e4 with e5 _
    have e6 := congrArg Array.toList e5
    simp only [List.cons.injEq, Value.str.injEq] at e6
    exact e6.1.1.symm
  unfold keepOf
  by_cases hx : Txt.lower y = x
  · have : ¬ ∀ y ta z tb, (a, tupO [.str y ta, .str z tb]) ∈ nw → Txt.lower y ≠ x := fun h => h y ta z tb hm hx
    show _ = decide _
    rw [decide_eq_false this, hx]; simp
  · have : ∀ y ta z tb, (a, tupO [.str y ta, .str z tb]) ∈ nw → Txt.lower y ≠ x := fun y' ta' z' tb' h => by rw [huniq y' ta' z' tb' h]; exact hx
    show _ = decide _
    rw [decide_eq_true this]
    simpa using hx
theorem LamOk_new {news news' rest : List (Addr × Obj)} {line col : Int} {qual : Str} {pz : Array Value} (hs : ∀ p ∈ rest, p ∈ news) (h : LamOk news' line col qual pz) :
    ∃ rest', (∀ p ∈ rest, p ∈ rest') ∧ (∀ p ∈ rest', p ∈ rest ∨ p ∈ news') ∧ LamOk rest' line col qual pz := by
  rcases h with h | ⟨c', oc, vs, t, e, hm, x⟩
  · exact ⟨rest, fun p h => h, fun p h => .inl h, .inl h⟩
  · refine ⟨(c', oc) :: rest, fun p h => .tail _ h, ?_, .inr ⟨c', oc, vs, t, e, .head _, x⟩⟩
    intro p hp
    rcases List.mem_cons.mp hp with rfl | hp
    · exact .inr hm
    · exact .inl hp
end Mine
end

section
open PySem PySem.W PyProof.Rows PySem.Calls PySem.Spec
namespace Mine
/-- the law's end: True, the heap ahead of the call kept, generators bare -/
def EndA (s₁ : Shared) (res : Result) (s' : Shared) : Prop :=
  res = .ok (.ret (.bool true)) ∧ (∀ b o, s₁.heap.get? b = some o → s'.heap.get? b = some o) ∧ s'.os = s₁.os ∧ AllBare s'.gens
theorem law_post {M : Model} {A : Around} {cd : Code} {s s₁ : Shared} {cw : ClaimW} {cl : Str → Option Addr} {mean : ExcName → Option Value} {args : List WData} {tabs : List (Addr × Addr)} (hT : TabsAt tabs s₁.heap) (hr : ∀ x, cw.raises args x = false) (hp : cw.post args (.bool true) args = true)
    (h : codeAny M A cd (fun r s' => EndA { s₁ with heap := ghostOf s₁.heap tabs } r s' ∧ GrownAll tabs s'.heap) s) : codeAny M A cd (GoodWG cw cl mean args s₁) s := by
  refine codeAny_mono h fun r s' hx => ?_
  obtain ⟨⟨rfl, hk, hos, hg⟩, hgr⟩ := hx
  have keep : ∀ b o, b ∉ tabs.map (·.2) → s₁.heap.get? b = some o → s'.heap.get? b = some o := fun b o hb e => hk b o (ghost_ne e hb)
  have grown : ∀ b o, b ∈ tabs.map (·.2) → s₁.heap.get? b = some o → isCodeTable s₁.heap b ∧ o = tabObj #[] ∧ ∃ ps, s'.heap.get? b = some (tabObj ps) := by
    intro b o hb e
    obtain ⟨q, hq, rfl⟩ := List.mem_map.mp hb
    have e2 := (hT q hq).2
    rw [e] at e2
    exact ⟨((hT q hq).1.tab (hT q hq).2).isCodeTable, Option.some.inj e2, hgr.get q hq⟩
  refine ⟨.inl ⟨.bool true, .bool true, [], rfl, hr, .bool true, hp, fun _ => ⟨.nil, fun _ ha => nomatch ha⟩⟩, ⟨fun b o e => ?_, fun b o e => ?_⟩, hos, hg⟩
  · by_cases hb : b ∈ tabs.map (·.2)
    · obtain ⟨ht, rfl, ps, hP⟩ := grown b o hb e
      exact .inr (.inl ⟨ht, rfl, #[], ps, rfl, by rw [Array.empty_append]; exact hP⟩)
    · exact .inl (keep b o hb e)
  · by_cases hb : b ∈ tabs.map (·.2)
    · obtain ⟨_, _, ps, hP⟩ := grown b o hb e
      exact ⟨_, hP⟩
    · exact ⟨o, keep b o hb e⟩
theorem post_true (args : List WData) : PySem.Challenge.rw_sw0083_01.row.claim.post args (.bool true) args = true := by
  refine postW_of (r := PySem.Challenge.rw_sw0083_01.row.toRowW) (X := true) (by rfl) ?_ rfl
  show WTm.value _ _ _ = _
  simp [PySem.Challenge.rw_sw0083_01, OpenLaw.row, WTm.value, PySem.W.same]
end Mine
end

section
open PySem PySem.W PyProof.Rows PySem.Calls PySem.Spec
set_option maxHeartbeats 0
namespace Mine
theorem low_ne {pls : List Int} (h : Pls pls) {j k : Int} (hj : 0 ≤ j ∧ j < 4) (hk : 0 ≤ k ∧ k < 4) : (Txt.lower (wAt (pls.map wordOf) j) != Txt.lower (Txt.lower (wAt (pls.map wordOf) k))) = decide (j ≠ k) := by
  obtain ⟨i, hi, ei⟩ := h.nat hj.1 hj.2
  obtain ⟨i', hi', ei'⟩ := h.nat hk.1 hk.2
  rw [h.word hj.1 hj.2, h.word hk.1 hk.2, ei, ei', w_low i' hi']
  by_cases e : j = k
  · subst e
    rw [ei] at ei'
    have : i = i' := by omega
    subst this
    simp
  · have : Txt.lower (wordOf (i : Int)) ≠ Txt.lower (wordOf (i' : Int)) := fun q => e (h.inj hj.1 hj.2 hk.1 hk.2 (by rw [ei, ei', w_low_ne i hi i' hi' q]))
    simp [e, this]
theorem word_clean {pls : List Int} (h : Pls pls) {k : Int} (hk : 0 ≤ k ∧ k < 4) : Clean (wAt (pls.map wordOf) k) ∧ Clean (Txt.lower (Txt.lower (wAt (pls.map wordOf) k))) ∧ NoClose (wAt (pls.map wordOf) k) ∧ ¬ Txt.slice (wAt (pls.map wordOf) k) none (some 1) = Str.ofString "{" ∧ ¬ Str.ofString "f" = wAt (pls.map wordOf) k := by
  obtain ⟨i, hi, ei⟩ := h.nat hk.1 hk.2
  rw [h.word hk.1 hk.2, ei, w_low i hi]
  have h1 := word_len i hi
  have h2 := w_lowlen i hi
  exact ⟨⟨(w_clean i hi).1, by omega⟩, ⟨(w_clean i hi).2, by omega⟩, w_noclose i hi, w_brace i hi, w_not_f i hi⟩
theorem four {k : Int} (hk : 0 ≤ k ∧ k < 4) : k = 0 ∨ k = 1 ∨ k = 2 ∨ k = 3 := by omega
theorem val_clean {k : Int} (hk : 0 ≤ k ∧ k < 4) : CleanV (wAt valsL k) := by
  rcases four hk with rfl | rfl | rfl | rfl <;> exact cleanV_of (by decide +kernel)
noncomputable def escF (v : Str) : Str := if v = Str.ofString "<" then Str.ofString "&lt;" else if v = Str.ofString "&" then Str.ofString "&amp;" else if v = Str.ofString "\"" then Str.ofString "&quot;" else Str.ofString "&#x9;"
theorem escF_val {k : Int} (hk : 0 ≤ k ∧ k < 4) : EscOf (wAt valsL k) (escF (wAt valsL k)) ∧ escF (wAt valsL k) = wAt speL k ∧ (wAt speL k).length < 1000 ∧ (wAt valsL k).length < 1000 := by
  rcases four hk with rfl | rfl | rfl | rfl
  · refine ⟨.inl ⟨?_, ?_⟩, ?_, ?_, ?_⟩ <;> decide +kernel
  · refine ⟨.inr (.inl ⟨?_, ?_⟩), ?_, ?_, ?_⟩ <;> decide +kernel
  · refine ⟨.inr (.inr (.inl ⟨?_, ?_⟩)), ?_, ?_, ?_⟩ <;> decide +kernel
  · refine ⟨.inr (.inr (.inr ⟨?_, ?_⟩)), ?_, ?_, ?_⟩ <;> decide +kernel
theorem rowsOf_mem {ws vs : List Str} {js : List Int} {r : Str × Str} (h : r ∈ rowsOf ws vs js) : ∃ k ∈ js, r = (wAt ws k, wAt vs k) := by
  obtain ⟨k, hk, e⟩ := List.mem_map.mp h
  exact ⟨k, hk, e.symm⟩
theorem canon_pre {pls : List Int} (h : Pls pls) {js : List Int} (hj : JsOk js) :
    (1 ≤ (rowsOf (pls.map wordOf) valsL js).length ∧ (rowsOf (pls.map wordOf) valsL js).length ≤ 4) ∧ Str.ofString "f" ∉ (rowsOf (pls.map wordOf) valsL js).map (·.1) ∧ ((rowsOf (pls.map wordOf) valsL js).map (·.1)).Nodup ∧
    (∀ x ∈ Str.ofString "f" :: (rowsOf (pls.map wordOf) valsL js).map (·.1), NoClose x ∧ x.length < 1000 ∧ ¬ Txt.slice x none (some 1) = Str.ofString "{") ∧
    (∀ r ∈ rowsOf (pls.map wordOf) valsL js, EscOf r.2 (escF r.2)) ∧ (∀ r ∈ rowsOf (pls.map wordOf) valsL js, (escF r.2).length < 1000) ∧ (∀ r ∈ rowsOf (pls.map wordOf) valsL js, r.1.length < 1000 ∧ r.2.length < 1000) := by
  have e : (rowsOf (pls.map wordOf) valsL js).length = js.length := by unfold rowsOf; rw [List.length_map]
  refine ⟨by rw [e]; exact hj.len, ?_, ?_, ?_, ?_, ?_, ?_⟩
  · intro hf
    obtain ⟨r, hr, er⟩ := List.mem_map.mp hf
    obtain ⟨k, hk, rfl⟩ := rowsOf_mem hr
    exact (word_clean h (hj.bd k hk)).2.2.2.2 er.symm
  · have := words_ne (sp := valsL) h hj.nd hj.bd
    exact List.pairwise_map.mpr this
  · intro x hx
    rcases List.mem_cons.mp hx with rfl | hx
    · exact f_word
    · obtain ⟨r, hr, rfl⟩ := List.mem_map.mp hx
      obtain ⟨k, hk, rfl⟩ := rowsOf_mem hr
      have q := word_clean h (hj.bd k hk)
      exact ⟨q.2.2.1, q.1.2, q.2.2.2.1⟩
  · intro r hr
    obtain ⟨k, hk, rfl⟩ := rowsOf_mem hr
    exact (escF_val (hj.bd k hk)).1
  · intro r hr
    obtain ⟨k, hk, rfl⟩ := rowsOf_mem hr
    have := escF_val (hj.bd k hk)
    dsimp only
    rw [this.2.1]; exact this.2.2.1
  · intro r hr
    obtain ⟨k, hk, rfl⟩ := rowsOf_mem hr
    exact ⟨(word_clean h (hj.bd k hk)).1.2, (escF_val (hj.bd k hk)).2.2.2⟩
theorem told_due {pls : List Int} (h : Pls pls) {js : List Int} (hj : JsOk js) {rowsZ : List (Str × Str)} (hp : rowsZ.Perm (rowsOf (pls.map wordOf) valsL js)) (hs : rowsZ.Pairwise fun a b => ltW a.1 b.1 = true) :
    DueTxt (pls.map wordOf) valsL speL js (prettyOf ((powSum (js.map fun k => (plAt pls k).toNat) : Nat) : Int)) (Txt.join (Str.ofString "\r\n") ((rowsOf (pls.map wordOf) valsL js).map lineOf ++ [Str.ofString "", Str.ofString ""]))
      (Txt.join (Str.ofString "") [Str.ofString "<" ++ Str.ofString "f", Txt.join (Str.ofString "") (rowsZ.map fun r => attrText (r.1, escF r.2)), Str.ofString ">"]) := by
  have p9 : (js.mergeSort fun a b => decide (a ≤ b)).Perm js := List.mergeSort_perm js _
  have s9 : (js.mergeSort fun a b => decide (a ≤ b)).Pairwise (· ≤ ·) := by
    have := List.pairwise_mergeSort (le := fun (a b : Int) => decide (a ≤ b)) (by intro a b c; simp; omega) (by intro a b; simp; omega) js
    exact this.imp fun q => of_decide_eq_true q
  refine ⟨_, rowsZ.map fun r => (r.1, escF r.2), p9, s9, ?_, ?_, pretty_eq h p9 s9 hj.nd hj.bd, lines_eq ?_, ?_⟩
  · have e : (rowsOf (pls.map wordOf) valsL js).map (fun r => (r.1, escF r.2)) = rowsOf (pls.map wordOf) speL js := by
      unfold rowsOf
      rw [List.map_map]
      refine List.map_congr_left fun k hk => ?_
      show (_, escF (wAt valsL k)) = _
      rw [(escF_val (hj.bd k hk)).2.1]
    rw [← e]
    exact hp.map _
  · exact List.pairwise_map.mpr hs
  · intro e
    have := hj.z
    rw [e] at this
    cases this
  · rw [canon_eq, List.map_map]; rfl
theorem step_mid {w : World} {x d l : Addr} {kt : Tok} {its : Array Value} {n : Nat} {t u : Tok} {pls js : List Int} {k : Int} {b : Bool} {rest : List (Addr × Obj)} {P : Program} {lo : List Str} {mean : ExcName → Option Value} {mg mb : Str → Option Value} {dp un : Nat} {gd : Option (List Code)} {cn : Str} {cs : Scope} {L a : Addr} {ccd : Value} {cl : List (Str × Addr)} {outer : List Env} {A₀ : Around} {base h₀ : Heap} {m : Str → Option Value} {news : List (Addr × Obj)} {s : Shared} {Q E : Value → Shared → Prop}
  (B : Below A₀ base outer h₀) (F : Fr h₀ L s.heap m) (X : (K w.params).In h₀) (N : News h₀ L s.heap ((l, listOf its n) :: (x, instObj 206 d) :: (d, tabD (PyData.keyHash w.params (Str.ofString "_headers")) kt l) :: news)) (T : Top P lo mean mg mb h₀) (hk : cs.kind = .function) (hd : dp + 20 < recursionLimit) (hu : un + 200 < cLine)
  (hxl : (x : Nat) ≠ l) (hdl : (d : Nat) ≠ l) (off : OwnOff news [l]) (hp : Pls pls) (hj : JsOk js) (h1 : 1 ≤ k) (h3 : k ≤ 3) (hb : b = decide (k ∈ js)) (hsub : ∀ p ∈ rest, p ∈ news) (hR : Rows rest its (rowsOf (pls.map wordOf) valsL js))
  (hret : ∀ ex its' n' h' tk', (∀ p ∈ ex, (l : Nat) < p.1 ∧ AllLt p.1 news) → Rows (ex ++ rest) its' (rowsOf (pls.map wordOf) valsL (toggle js k)) → Fr h₀ L h' m → News h₀ L h' ((l, listOf its' n') :: (x, instObj 206 d) :: (d, tabD (PyData.keyHash w.params (Str.ofString "_headers")) kt l) :: (ex ++ news)) → Q .none { s with heap := h', toks := tk' }) :
  wpAny (model PySem.Challenge.rw_sw0083_01.row.prog w) (ktrTop dp un gd cn cs L a ccd cl outer) (call (.ref 354) [.ref x, .str (wAt (pls.map wordOf) k) t, .str (wAt valsL k) u, .bool b]) Q E s := by
  have hk4 : 0 ≤ k ∧ k < 4 := by omega
  obtain ⟨c1, c2, _⟩ := word_clean hp hk4
  have hz : its.size < 100 := by
    have := hR.1
    have e : (rowsOf (pls.map wordOf) valsL js).length = js.length := by unfold rowsOf; rw [List.length_map]
    have := hj.len
    omega
  subst hb
  have Nn : News h₀ L s.heap rest := fun p hp => N p (.tail _ (.tail _ (.tail _ (hsub p hp))))
  by_cases hm : k ∈ js
  · rw [decide_eq_true hm]
    refine step_del (keep := keepOf rest (Txt.lower (Txt.lower (wAt (pls.map wordOf) k)))) B F X N T hk hd hu hxl hdl off c1.2 c2 hz ?_ ?_
    · intro v hv
      obtain ⟨i, hi⟩ := List.getElem?_of_mem hv
      obtain ⟨a, r, ta, tb, hr, rfl, hm⟩ := hR.2 i v (by simpa using hi)
      obtain ⟨j, hj', rfl⟩ := rowsOf_mem (List.mem_of_getElem? hr)
      exact ⟨a, _, ta, _, tb, rfl, hsub _ hm, (word_clean hp (hj.bd j hj')).1.2, keepOf_eq Nn hm⟩
    · intro h' tk' n' F' N'
      refine hret [] _ _ _ _ (fun _ h => nomatch h) ?_ F' N'
      have e : toggle js k = js.filter (fun j => decide (j ≠ k)) := by unfold toggle; rw [if_pos hm]
      rw [e]
      refine rows_filter (its := its.toList) hR fun a j ta tb hj' hm => ?_
      rw [← low_ne hp (hj.bd j hj') hk4]
      exact (keepOf_eq Nn hm).symm
  · rw [decide_eq_false hm]
    refine step_add B F X N T hk hd hu hxl hdl off c1 (val_clean hk4) hz ?_
    intro tp u' h' tk' n' F' N' ho
    refine hret [(tp, _)] _ _ _ _ (List.forall_mem_cons.mpr ⟨⟨ho.1, ho.2.2.2⟩, fun _ h => nomatch h⟩) ?_ F' N'
    have e : toggle js k = js ++ [k] := by unfold toggle; rw [if_neg hm]
    have e2 : its.push (.ref tp) = (its.toList ++ [Value.ref tp]).toArray := by rw [← Array.toList_push]
    rw [e, e2]
    unfold rowsOf at hR ⊢
    rw [List.map_append]
    exact rows_snoc (ys := its.toList) hR
theorem News.rot3 {h₀ h : Heap} {L : Addr} {a b c x y z : Addr × Obj} {tl : List (Addr × Obj)} (N : News h₀ L h (a :: b :: c :: x :: y :: z :: tl)) : News h₀ L h (x :: y :: z :: a :: b :: c :: tl) := by
  refine cb_drop N fun p hp => ?_
  simp only [List.mem_cons] at hp ⊢
  rcases hp with h | h | h | h | h | h | h <;> simp [h]
theorem News.rot1 {h₀ h : Heap} {L : Addr} {a x y z : Addr × Obj} {tl : List (Addr × Obj)} (N : News h₀ L h (a :: x :: y :: z :: tl)) : News h₀ L h (x :: y :: z :: a :: tl) := by
  refine cb_drop N fun p hp => ?_
  simp only [List.mem_cons] at hp ⊢
  rcases hp with h | h | h | h | h <;> simp [h]
theorem News.tl {h₀ h : Heap} {L : Addr} {a : Addr × Obj} {tl : List (Addr × Obj)} (N : News h₀ L h (a :: tl)) : News h₀ L h tl := fun p hp => N p (.tail _ hp)
theorem News.pull {h₀ h : Heap} {L : Addr} {c : Addr × Obj} {T rest : List (Addr × Obj)} (N : News h₀ L h (T ++ c :: rest)) : News h₀ L h (c :: (T ++ rest)) := by
  refine cb_drop N fun p hp => ?_
  simp only [List.mem_cons, List.mem_append] at hp ⊢
  rcases hp with h | h | h <;> simp [h]
theorem News.back {h₀ h : Heap} {L : Addr} {c : Addr × Obj} {T rest rest3 nw' : List (Addr × Obj)} (N : News h₀ L h (c :: nw')) (hT : ∀ p ∈ T ++ rest, p ∈ nw') (h3 : ∀ p ∈ rest3, p ∈ nw') : News h₀ L h (T ++ c :: rest3) := by
  intro p hp
  rcases List.mem_append.mp hp with h | h
  · exact N p (.tail _ (hT p (List.mem_append_left _ h)))
  · rcases List.mem_cons.mp h with rfl | h
    · exact N _ (.head _)
    · exact N p (.tail _ (h3 p h))
theorem News.ex3 {h₀ h : Heap} {L : Addr} {x y z : Addr × Obj} {ex T rest : List (Addr × Obj)} (N : News h₀ L h (x :: y :: z :: (ex ++ (T ++ rest)))) : News h₀ L h (x :: y :: z :: (T ++ (ex ++ rest))) := by
  refine cb_drop N fun p hp => ?_
  simp only [List.mem_cons, List.mem_append] at hp ⊢
  rcases hp with h | h | h | h | h | h <;> simp [h]
end Mine
end

section
open PySem PySem.W PyProof.Rows PySem.Calls PySem.Spec
namespace Mine
theorem vals_are {t0 t1 t2 t3 : Tok} : StrsAre [.str (Str.ofString "<") t0, .str (Str.ofString "&") t1, .str (Str.ofString "\"") t2, .str (Str.ofString "\t") t3] valsL := .cons _ _ (.cons _ _ (.cons _ _ (.cons _ _ .nil)))
theorem spes_are {t0 t1 t2 t3 : Tok} : StrsAre [.str (Str.ofString "&lt;") t0, .str (Str.ofString "&amp;") t1, .str (Str.ofString "&quot;") t2, .str (Str.ofString "&#x9;") t3] speL := .cons _ _ (.cons _ _ (.cons _ _ (.cons _ _ .nil)))
def keepI (k : Int) : Value → Bool
  | .int j _ => decide (j ≠ k)
  | _ => true
theorem ints_filter {k : Int} : ∀ {vs : List Value} {js : List Int}, IntsAre vs js → IntsAre (vs.filter (keepI k)) (js.filter fun j => decide (j ≠ k))
  | _, _, .nil => .nil
  | _, _, .cons n t r => by
    by_cases h : n = k
    · rw [List.filter_cons_of_neg (by simp [keepI, h]), List.filter_cons_of_neg (by simp [h])]
      exact ints_filter r
    · rw [List.filter_cons_of_pos (by simp [keepI, h]), List.filter_cons_of_pos (by simp [h])]
      exact .cons _ _ (ints_filter r)
theorem ite_dec_t {p : Prop} [Decidable p] {P R : Prop} (hp : p) (h : P) : if decide p = true then P else R := by rw [if_pos (decide_eq_true hp)]; exact h
theorem ite_dec_f {p : Prop} [Decidable p] {P R : Prop} (hp : ¬ p) (h : R) : if decide p = true then P else R := by rw [if_neg (by rw [decide_eq_false hp]; exact Bool.false_ne_true)]; exact h
theorem off1_of {D : Addr} : ∀ {l : List (Addr × Obj)}, AllLt D l → LCg.Off1 D l
  | [], _ => trivial
  | _ :: _, h => ⟨Nat.ne_of_lt h.1, off1_of h.2⟩
theorem toggle_in {js : List Int} {k : Int} (h : k ∈ js) : toggle js k = js.filter (fun j => decide (j ≠ k)) := if_pos h
theorem toggle_out {js : List Int} {k : Int} (h : k ∉ js) : toggle js k = js ++ [k] := if_neg h
theorem keepI_yes {j k : Int} {t : Tok} (h : j ≠ k) : keepI k (.int j t) = true := decide_eq_true h
theorem keepI_no {j k : Int} {t : Tok} (h : j = k) : keepI k (.int j t) = false := decide_eq_false fun q => q h
theorem ints_snoc {k : Int} {t : Tok} : ∀ {vs : List Value} {js : List Int}, IntsAre vs js → IntsAre (vs ++ [.int k t]) (js ++ [k])
  | _, _, .nil => .cons _ _ .nil
  | _, _, .cons _ _ r => .cons _ _ (ints_snoc r)
theorem after_canon {h₀ h : Heap} {L l cK I : Addr} {news' rest : List (Addr × Obj)} {line col : Int} {qual : Str} {pz : Array Value} {ol ok oI : Obj} {its : Array Value} {n : Nat} {v : Option Value} {va : Value} {z : Int} {ui : Tok} (N : News h₀ L h news')
    (hs : ∀ p ∈ rest, p ∈ news') (h3 : ∀ p ∈ news', p.1 ≠ 295) (ml : (l, ol) ∈ news') (hl : ol.data = .seq its n) (mk : (cK, ok) ∈ news') (hk : ok.data = .cell v) (mI : (I, oI) ∈ news') (hI : oI.data = .fields #[va, .int z ui]) (lam : LamOk news' line col qual pz) (hr : ∀ p ∈ rest, p.1 ≠ 295 ∧ p.1 ≠ l ∧ p.1 ≠ cK ∧ p.1 ≠ I) :
    ∃ rest', (∀ p ∈ rest, p ∈ rest') ∧ (∀ p ∈ rest', p ∈ news') ∧ LamOk rest' line col qual pz ∧ ∀ p ∈ rest', p.1 ≠ 295 ∧ p.1 ≠ l ∧ p.1 ≠ cK ∧ p.1 ≠ I := by
  rcases lam with e | ⟨c', oc, vs, t, e, hm, hd, x⟩
  · exact ⟨rest, fun _ h => h, hs, .inl e, hr⟩
  · refine ⟨(c', oc) :: rest, fun _ h => .tail _ h, List.forall_mem_cons.mpr ⟨hm, hs⟩, .inr ⟨c', oc, vs, t, e, .head _, hd, x⟩, List.forall_mem_cons.mpr ⟨⟨h3 _ hm, ?_, ?_, ?_⟩, hr⟩⟩
    · rintro (rfl : c' = l)
      have e1 := (N _ hm).1
      rw [(N _ ml).1] at e1
      cases e1
      rw [hl] at hd
      cases hd
    · rintro (rfl : c' = cK)
      have e1 := (N _ hm).1
      rw [(N _ mk).1] at e1
      cases e1
      rw [hk] at hd
      cases hd
    · rintro (rfl : c' = I)
      have e1 := (N _ hm).1
      rw [(N _ mI).1] at e1
      cases e1
      rw [hI] at hd
      cases hd
      cases x
theorem any_dec {k : Int} (js : List Int) : (js.any fun j => j == k) = decide (k ∈ js) := by
  by_cases h : k ∈ js
  · rw [decide_eq_true h]
    exact List.any_eq_true.mpr ⟨k, h, by simp⟩
  · rw [decide_eq_false h]
    refine Bool.eq_false_iff.mpr fun q => ?_
    obtain ⟨j, hj, e⟩ := List.any_eq_true.mp q
    exact h ((eq_of_beq e) ▸ hj)
theorem pow_sum {pls js : List Int} : (js.map fun k => (2 : Int) ^ (plAt pls k).toNat).sum = ((powSum (js.map fun k => (plAt pls k).toNat) : Nat) : Int) := by
  unfold powSum
  induction js with
  | nil => rfl
  | cons j r ih =>
    rw [List.map_cons, List.sum_cons, ih, List.map_cons, List.map_cons, List.sum_cons, Int.natCast_add, Int.natCast_pow]; rfl
theorem pow_bounds {pls : List Int} (h : Pls pls) {js : List Int} (hj : JsOk js) : 0 < ((powSum (js.map fun k => (plAt pls k).toNat) : Nat) : Int) ∧ ((powSum (js.map fun k => (plAt pls k).toNat) : Nat) : Int) < 4294967296 := by
  have p9 : (js.mergeSort fun a b => decide (a ≤ b)).Perm js := List.mergeSort_perm js _
  have s9 : (js.mergeSort fun a b => decide (a ≤ b)).Pairwise (· ≤ ·) := by
    have := List.pairwise_mergeSort (le := fun (a b : Int) => decide (a ≤ b)) (by intro a b c; simp; omega) (by intro a b; simp; omega) js
    exact this.imp fun q => of_decide_eq_true q
  have h9 := hj.nd.perm p9.symm
  have l9 : (js.mergeSort fun a b => decide (a ≤ b)).Pairwise (· < ·) := (s9.and h9).imp fun q => by have := q.1; have := q.2; omega
  have b9 : ∀ k ∈ js.mergeSort fun a b => decide (a ≤ b), 0 ≤ k ∧ k < 4 := fun k hk => hj.bd k (p9.mem_iff.mp hk)
  rw [← powSum_perm (p9.map _)]
  have q9 := powSum_lt _ ((js.mergeSort fun a b => decide (a ≤ b)).map fun k => (plAt pls k).toNat) rfl (List.pairwise_map.mpr (l9.imp_of_mem fun {a b} ha hb hab => by
    have h1 := h.lt (b9 a ha).1 hab (b9 b hb).2
    have h2 := h.bd _ (h.mem (b9 a ha).1 (b9 a ha).2)
    omega)) 32 (by
      intro q hq
      obtain ⟨k, hk, rfl⟩ := List.mem_map.mp hq
      have h2 := h.bd _ (h.mem (b9 k hk).1 (b9 k hk).2)
      omega)
  have p0 : 0 < powSum ((js.mergeSort fun a b => decide (a ≤ b)).map fun k => (plAt pls k).toNat) := by
    have hz : (0 : Int) ∈ js.mergeSort fun a b => decide (a ≤ b) := p9.mem_iff.mpr hj.z
    obtain ⟨a, b, e⟩ := List.append_of_mem hz
    rw [e]
    unfold powSum
    simp only [List.map_append, List.map_cons, List.sum_append, List.sum_cons]
    have := Nat.two_pow_pos (plAt pls 0).toNat
    omega
  omega
inductive MidList (h₀ : Heap) (L : Addr) (m : Str → Option Value) (news : List (Addr × Obj)) (st : Shared) (js : List Int) (v : Value) (s' : Shared) : Prop
  | mk (D : Addr) (vs : List Value) (c : Nat) (h' : Heap) (tk' : Nat) (e0 : v = .ref D) (e1 : s' = { st with heap := h', toks := tk' }) (e2 : IntsAre vs js) (e3 : Fr h₀ L h' m) (e4 : News h₀ L h' ((D, listOf vs.toArray c) :: news)) (e5 : LCg.Off1 D news) : MidList h₀ L m news st js v s'
section
variable {prog : Program} {w : World} {A : Around} {E : Value → Shared → Prop} {h₀ : Heap} {L : Addr} {m : Str → Option Value} {news : List (Addr × Obj)} {s : Shared} {Q : Value → Shared → Prop}
theorem mid_list {M : Model} {c : Sem Value} {js : List Int} (F : Fr h₀ L s.heap m) (N : News h₀ L s.heap news) (h : wpAny M A c (MidList h₀ L m news s js) E s)
    (k : ∀ D vs c h' tk', IntsAre vs js → Fr h₀ L h' m → News h₀ L h' ((D, listOf (List.toArray vs) c) :: news) → LCg.Off1 D news → Q (.ref D) { s with heap := h', toks := tk' }) : wpAny M A c Q E s := by
  refine wpAny_mono h (fun v s' hv => ?_) fun _ _ e => e
  obtain ⟨D, vs, c, h', tk', rfl, rfl, h1, h2, h3, h4⟩ := hv
  exact k D vs c h' tk' h1 h2 h3 h4
theorem item_w {value slice : PySem.Expr} {l : Addr} {vs : List Value} {ws : List Str} {k : Int} {u : Tok} (hl : s.heap.IsList l vs.toArray) (hst : StrsAre vs ws) (h0 : 0 ≤ k) (h1 : k < ws.length) (hz : ws.length < 100) (h : ∀ t, Q (.str (wAt ws k) t) s)
    (hs : subscripted slice false (.ref l) (.int k u) = operate [.ref l, .int k u] (getItem (.ref l) (.int k u)) := by with_unfolding_all rfl) : wpAny (model prog w) A (subscriptTail value slice (.ref l) (.int k u)) Q E s := item_sv hl hst h0 h1 hz h hs
theorem item_int {value slice : PySem.Expr} {l : Addr} {vs : List Value} {ks : List Int} {k : Int} {u : Tok} (hl : s.heap.IsList l vs.toArray) (hi : IntsAre vs ks)
    (h0 : 0 ≤ k) (h1 : k < ks.length) (hz : ks.length < 100) (h : ∀ t, Q (.int (ks.getD k.toNat 0) t) s)
    (hs : subscripted slice false (.ref l) (.int k u) = operate [.ref l, .int k u] (getItem (.ref l) (.int k u)) := by with_unfolding_all rfl) :
    wpAny (model prog w) A (subscriptTail value slice (.ref l) (.int k u)) Q E s := by
  have hlt : k.toNat < ks.length := by omega
  obtain ⟨t, ht⟩ := hi.get k.toNat ks[k.toNat] (by simp [hlt])
  have e : ks.getD k.toNat 0 = ks[k.toNat] := by rw [List.getD_eq_getElem?_getD, List.getElem?_eq_getElem hlt]; rfl
  exact tail_any hl.typeIs slot_list_getitem.lookup (wpAny_getItem_list hl h0 (by omega) (x := .int (ks.getD k.toNat 0) t) (by rw [e]; simpa using ht) (h t)) hs
theorem item_p {value slice : PySem.Expr} {l : Addr} {vs : List Value} {ks : List Int} {k : Int} {u : Tok} (hl : s.heap.IsList l vs.toArray) (hi : IntsAre vs ks) (h0 : 0 ≤ k) (h1 : k < ks.length) (hz : ks.length < 100) (h : ∀ t, Q (.int (plAt ks k) t) s)
    (hs : subscripted slice false (.ref l) (.int k u) = operate [.ref l, .int k u] (getItem (.ref l) (.int k u)) := by with_unfolding_all rfl) : wpAny (model prog w) A (subscriptTail value slice (.ref l) (.int k u)) Q E s := item_int hl hi h0 h1 hz h hs
theorem sum_pow {l : Addr} {vs : List Value} {pls js : List Int} (F : Fr h₀ L s.heap m) (N : News h₀ L s.heap news) (hh : A.handled = none) (hl : s.heap.IsList l vs.toArray) (hi : IntsAre vs (js.map fun k => (2 : Int) ^ (plAt pls k).toNat))
    (h : ∀ h' tk t', Fr h₀ L h' m → News h₀ L h' news → Q (.int ((powSum (js.map fun k => (plAt pls k).toNat) : Nat) : Int) t') { s with heap := h', toks := tk }) : wpAny (model prog w) A (call (.builtin "sum") [.ref l]) Q E s :=
  LSm.sum_ints F N hh hl hi fun h' tk t' F' N' => by rw [pow_sum]; exact h h' tk t' F' N'
theorem in_held {l : Addr} {vs : List Value} {js : List Int} {k : Int} {t : Tok} (hl : s.heap.IsList l vs.toArray) (hi : IntsAre vs js) (h : Q (.bool (decide (k ∈ js))) s) :
    wpAny (model prog w) A (compareOp .In (.int k t) (.ref l)) Q E s := in_list_ints hl hi (by rw [any_dec]; exact h)
theorem ne_three {a b : Addr} {x y z : Str} {ta tb tc ua ub uc : Tok} (ha : s.heap.IsList a #[.str x ta, .str y tb, .str z tc]) (hb : s.heap.IsList b #[.str x ua, .str y ub, .str z uc]) (hx : PyData.strOk x = true ∧ PyData.strOk y = true ∧ PyData.strOk z = true) (hu : A.units + 64 < cLine) (h : Q (.bool false) s) :
    wpAny (model prog w) A (compareOp .NotEq (.ref a) (.ref b)) Q E s := by
  have e : PyData.eqv (.list [.str x, .str y, .str z]) (.list [.str x, .str y, .str z]) = true := by simp [PyData.eqv, PyData.eqvAll]
  refine ne_dataH (reads_newData (ys := [.str x ta, .str y tb, .str z tc]) ha (.cons (.str _ _) (.cons (.str _ _) (.cons (.str _ _) .nil)))) (reads_newData (ys := [.str x ua, .str y ub, .str z uc]) hb (.cons (.str _ _) (.cons (.str _ _) (.cons (.str _ _) .nil)))) (by simpa [SeqAt.shaped, PyData.canLay0, PyData.canLayAll0, PyData.depth, PyData.depthAll] using hx) (by simpa [SeqAt.shaped, PyData.canLay0, PyData.canLayAll0, PyData.depth, PyData.depthAll] using hx) hu ?_
  rw [e]; exact h
end
theorem ok_iff {x : Str} : PyData.strOk x = true ↔ ∀ c ∈ x.cps.toList, c < 0x110000 := by
  unfold PyData.strOk
  rw [← Array.all_toList, List.all_eq_true]
  exact ⟨fun h c hc => of_decide_eq_true (h c hc), fun h c hc => decide_eq_true (h c hc)⟩
theorem ok_app {x y : Str} (hx : PyData.strOk x = true) (hy : PyData.strOk y = true) : PyData.strOk (x ++ y) = true := by
  rw [ok_iff] at hx hy ⊢
  rw [app3]
  intro c hc
  rcases List.mem_append.mp hc with hc | hc
  · exact hx c hc
  · exact hy c hc
theorem ok_join {x : Str} (hx : PyData.strOk x = true) : ∀ {ys : List Str}, (∀ y ∈ ys, PyData.strOk y = true) → PyData.strOk (Txt.join x ys) = true
  | [], _ => (show PyData.strOk Str.empty = true by decide +kernel)
  | y :: r, h => by
    rw [ok_iff, join_toList]
    intro c hc
    rcases List.mem_append.mp hc with hc | hc
    · exact ok_iff.mp (h y (.head _)) c hc
    · obtain ⟨l, hl, hc⟩ := List.mem_flatten.mp hc
      obtain ⟨p, hp, rfl⟩ := List.mem_map.mp hl
      rcases List.mem_append.mp hc with hc | hc
      · exact ok_iff.mp hx c hc
      · exact ok_iff.mp (h p (.tail _ hp)) c hc
theorem w_ok : ∀ i : Nat, i < 32 → PyData.strOk (wordOf (i : Int)) = true := by decide +kernel
theorem due_ok {pls : List Int} (hp : Pls pls) {js : List Int} {A1 A2 A3 : Str} (h : JsOk js) (hA : DueTxt (pls.map wordOf) valsL speL js A1 A2 A3) : PyData.strOk A1 = true ∧ PyData.strOk A2 = true ∧ PyData.strOk A3 = true := by
  obtain ⟨n9, rows9, p1, s1, p2, s2, rfl, rfl, rfl⟩ := hA
  have hw : ∀ k ∈ js, PyData.strOk (wAt (pls.map wordOf) k) = true := by
    intro k hk
    obtain ⟨h0, h4⟩ := h.bd k hk
    obtain ⟨i, hi, e⟩ := hp.nat h0 h4
    rw [hp.word h0 h4, e]
    exact w_ok i hi
  have hv : ∀ k ∈ js, PyData.strOk (wAt valsL k) = true := fun k hk => by rcases four (h.bd k hk) with rfl | rfl | rfl | rfl <;> decide +kernel
  have hs : ∀ k ∈ js, PyData.strOk (wAt speL k) = true := fun k hk => by rcases four (h.bd k hk) with rfl | rfl | rfl | rfl <;> decide +kernel
  refine ⟨ok_join (by decide +kernel) ?_, ok_app (ok_join (by decide +kernel) ?_) (by decide +kernel), ok_app (ok_app (by decide +kernel) (ok_join (by decide +kernel) ?_)) (by decide +kernel)⟩
  · intro y hy
    obtain ⟨k, hk, rfl⟩ := List.mem_map.mp hy
    exact hw k (p1.mem_iff.mp hk)
  · intro y hy
    obtain ⟨k, hk, rfl⟩ := List.mem_map.mp hy
    exact ok_app (ok_app (ok_app (hw k hk) (by decide +kernel)) (hv k hk)) (by decide +kernel)
  · intro y hy
    obtain ⟨r, hr, rfl⟩ := List.mem_map.mp hy
    obtain ⟨k, hk, rfl⟩ := List.mem_map.mp (p2.mem_iff.mp hr)
    exact ok_app (ok_app (ok_app (ok_app (by decide +kernel) (hw k hk)) (by decide +kernel)) (hs k hk)) (by decide +kernel)
theorem fmod3 (i : Nat) : (i : Int).fmod 3 = 0 ∨ (i : Int).fmod 3 = 1 ∨ (i : Int).fmod 3 = 2 := by
  have : (i : Int).fmod 3 = (i : Int) % 3 := Int.fmod_eq_emod_of_nonneg _ (by decide)
  omega
theorem turn_lev {pls : List Int} (hp : Pls pls) {js : List Int} {k : Int} {A1 A2 A3 B1 B2 B3 : Str} (h : JsOk js) (h1 : 1 ≤ k) (h3 : k ≤ 3) (hA : DueTxt (pls.map wordOf) valsL speL js A1 A2 A3) (hB : DueTxt (pls.map wordOf) valsL speL (toggle js k) B1 B2 B3) (i : Nat) :
    ∃ d : Nat, 0 < d ∧ InsOf ([A1, A2, A3].getD ((i : Int).fmod 3).toNat Str.empty) ([B1, B2, B3].getD ((i : Int).fmod 3).toNat Str.empty) d ∧ [A1, A2, A3].getD ((i : Int).fmod 3).toNat Str.empty ≠ [B1, B2, B3].getD ((i : Int).fmod 3).toNat Str.empty ∧
      ([A1, A2, A3].getD ((i : Int).fmod 3).toNat Str.empty).length < 1000 ∧ ([B1, B2, B3].getD ((i : Int).fmod 3).toNat Str.empty).length < 1000 ∧
      2 * (d : Int) = 2 * ((wAt (pls.map wordOf) k).length : Int) + 2 * [2, 5, 4 + ((wAt speL k).length : Int)].getD ((i : Int).fmod 3).toNat 0 := by
  obtain ⟨l1, l2, l3⟩ := lev_ok h h1 h3 hA hB
  have a9 := due_len hp h hA
  have b9 := due_len hp (h.toggle h1 h3) hB
  rcases fmod3 i with e | e | e <;> rw [e]
  · exact ⟨_, by omega, l1, ins_ne l1 (by omega), a9.1, b9.1, by simp; omega⟩
  · exact ⟨_, by omega, l2, ins_ne l2 (by omega), a9.2.1, b9.2.1, by simp; omega⟩
  · exact ⟨_, by omega, l3, ins_ne l3 (by omega), a9.2.2, b9.2.2, by simp; omega⟩
end Mine
end

section
open PySem PySem.W PyProof.Rows PySem.Calls PySem.Spec
set_option maxHeartbeats 0
namespace Mine
section
variable {prog : Program} {w : World} {A : Around} {E : Value → Shared → Prop} {s : Shared} {h₀ : Heap} {L l : Addr} {m : Str → Option Value} {news : List (Addr × Obj)} {value slice : PySem.Expr} {its : Array Value} {Q : Value → Shared → Prop}
theorem slice_refs (F : Fr h₀ L s.heap m) (N : News h₀ L s.heap news) (hl : s.heap.IsList l its)
    (h : ∀ D h', Fr h₀ L h' m → News h₀ L h' ((D, listOf its 0) :: news) → (∀ p ∈ news, p.1 < D) → Q (.ref D) { s with heap := h' })
    (hs : subscripted slice false (.ref l) (.ref s.heap.objs.size) = operate [.ref s.heap.objs.size, .ref l] (getItem (.ref l) (.ref s.heap.objs.size))) (ht : ∀ r, letTemporaryGo value (.ref l) r = pure ()) (hz : its.size ≤ sizeLine) :
    wpAny (model prog w) A (subscriptTail value slice (.ref l) (.ref s.heap.objs.size)) Q E { s with heap := s.heap.push { cls := .type "slice", data := .fields #[.none, .none, .none] } } := by
  k_with_none
  k_with "chain" => first | with_reducible assumption | exact Nat.lt_succ_self _ | (refine Nat.lt_trans ?_ (by with_reducible assumption); k_extra "chain") | ((fail_if_success (show @LT.lt Nat _ _ 295)); refine Nat.lt_succ_of_lt ?_; k_extra "chain")
  k_with "eval Constant int" => refine Mine.const_intN ?_
  k_with "eval Constant str" => refine Mine.const_strN ?_
  k_with "binaryOp Add int int" => refine Mine.add_intN ?_
  k_with "binaryOp Mod int int" => refine Mine.mod_intN (by decide) ?_
  k_with "ktr_room" => (refine Mine.ltOf (by with_reducible assumption) ?_; (try dsimp only [depth_under_make, depth_under_kw, depth_in1, depth_deeper, depth_caller]); repeat (first | with_reducible exact Nat.le_add_right _ _ | with_reducible refine Mine.leK (Eq.refl (_ + _)) ?_))
  k_with "ktr_units" => (refine Mine.ltOf (by with_reducible assumption) ?_; (try dsimp only [units_in1, units_deeper, Around.mark_units, units_caller]); repeat (first | with_reducible exact Nat.le_add_right _ _ | with_reducible refine Mine.leK (Eq.refl (_ + _)) ?_))
  k_with "size_fits" => first | with_reducible assumption | exact Nat.zero_le _ | exact Mine.fitLt (by with_reducible assumption) (by decide) | exact Mine.fitLe (by with_reducible assumption) (by decide) | exact Mine.catF (by k_extra "cat") | exact Mine.catA (by k_extra "cat")
  k_with "cat" => repeat (first | exact Mine.catB1 (by with_reducible assumption) (by decide) | exact Nat.le_trans (by with_reducible assumption) (by decide) | with_reducible refine Mine.catM (Eq.refl (_ + 10000)) ?_ ?_ | ((with_reducible show (Str.ofString _).length ≤ _); decide) | ((with_reducible show Str.empty.length ≤ _); decide))
  k_with "And" => ((first | (with_reducible show PySem.Str.length (_ ++ _) ≤ sizeLine ∧ _) | ((fail_if_success (with_reducible show _ ∧ _)); dsimp only; (with_reducible show PySem.Str.length (_ ++ _) ≤ sizeLine ∧ _))); refine ⟨Mine.catF (by k_extra "cat"), ?_⟩)
  k_with "andlt" => first | with_reducible assumption | exact (by with_reducible assumption : (@LT.lt Nat _ _ _) ∧ _).1 | exact (by with_reducible assumption : (@LT.lt Nat _ _ _) ∧ (@LT.lt Nat _ _ _) ∧ _).2.1 | exact (by with_reducible assumption : (@LT.lt Nat _ _ _) ∧ (@LT.lt Nat _ _ _) ∧ (@LT.lt Nat _ _ _) ∧ _).2.2.1 | exact (by with_reducible assumption : (@LT.lt Nat _ _ _) ∧ (@LT.lt Nat _ _ _) ∧ (@LT.lt Nat _ _ _) ∧ (@LT.lt Nat _ _ _) ∧ _).2.2.2.1 | exact (by with_reducible assumption : (@LT.lt Nat _ _ _) ∧ (@LT.lt Nat _ _ _) ∧ (@LT.lt Nat _ _ _) ∧ (@LT.lt Nat _ _ _) ∧ (@LT.lt Nat _ _ _) ∧ _).2.2.2.2.1 | exact (by with_reducible assumption : (@LT.lt Nat _ _ _) ∧ (@LT.lt Nat _ _ _) ∧ (@LT.lt Nat _ _ _) ∧ (@LT.lt Nat _ _ _) ∧ (@LT.lt Nat _ _ _) ∧ (@LT.lt Nat _ _ _) ∧ _).2.2.2.2.2.1 | exact (by with_reducible assumption : (@LT.lt Nat _ _ _) ∧ (@LT.lt Nat _ _ _) ∧ (@LT.lt Nat _ _ _) ∧ (@LT.lt Nat _ _ _) ∧ (@LT.lt Nat _ _ _) ∧ (@LT.lt Nat _ _ _) ∧ (@LT.lt Nat _ _ _) ∧ _).2.2.2.2.2.2.1 | exact (by with_reducible assumption : (@LT.lt Nat _ _ _) ∧ (@LT.lt Nat _ _ _) ∧ (@LT.lt Nat _ _ _) ∧ (@LT.lt Nat _ _ _) ∧ (@LT.lt Nat _ _ _) ∧ (@LT.lt Nat _ _ _) ∧ (@LT.lt Nat _ _ _) ∧ (@LT.lt Nat _ _ _) ∧ _).2.2.2.2.2.2.2.1 | exact (by with_reducible assumption : (@LT.lt Nat _ _ _) ∧ (@LT.lt Nat _ _ _) ∧ (@LT.lt Nat _ _ _) ∧ (@LT.lt Nat _ _ _) ∧ (@LT.lt Nat _ _ _) ∧ (@LT.lt Nat _ _ _) ∧ (@LT.lt Nat _ _ _) ∧ (@LT.lt Nat _ _ _) ∧ (@LT.lt Nat _ _ _) ∧ _).2.2.2.2.2.2.2.2.1
  k_with "k_ne" => (refine neN ?_; (try dsimp only); first | with_reducible assumption | exact Ne.symm (by with_reducible assumption) | (refine Mine.neGt ?_; k_extra "andlt") | (refine Nat.ne_of_lt ?_; k_extra "andlt") | omega)
  refine kmk_slice F N hl .none .none (fun D h' F' N' l1 => ?_) hs ht hz
  rw [slicePick_all] at N'
  exact h D h' F' N' l1
end
theorem items_ {w : World} {x d l : Addr} {kt : Tok} {its : Array Value} {n : Nat} {P : Program} {lo : List Str} {mean : ExcName → Option Value} {mg mb : Str → Option Value} {dp un : Nat} {gd : Option (List Code)} {cn : Str} {cs : Scope} {L a : Addr} {ccd : Value} {cl : List (Str × Addr)} {outer : List Env} {A₀ : Around} {base h₀ : Heap} {m : Str → Option Value} {news : List (Addr × Obj)} {s : Shared} {Q E : Value → Shared → Prop}
  (B : Below A₀ base outer h₀) (F : Fr h₀ L s.heap m) (X : (K w.params).In h₀) (N : News h₀ L s.heap ((l, listOf its n) :: (x, instObj 206 d) :: (d, tabD (PyData.keyHash w.params (Str.ofString "_headers")) kt l) :: news)) (T : Top P lo mean mg mb h₀) (hk : cs.kind = .function) (hd : dp + 20 < recursionLimit) (hu : un + 200 < cLine)
  (hz : its.size < 100)
  (hret : ∀ (D : Addr) (h' : Heap) (tk' : Nat), Fr h₀ L h' m → News h₀ L h' ((D, listOf its 0) :: (l, listOf its n) :: (x, instObj 206 d) :: (d, tabD (PyData.keyHash w.params (Str.ofString "_headers")) kt l) :: news) → ((l : Nat) < D ∧ (x : Nat) < D ∧ (d : Nat) < D ∧ AllLt D news) → Q (.ref D) { s with heap := h', toks := tk' }) :
  wpAny (model PySem.Challenge.rw_sw0083_01.row.prog w) (ktrTop dp un gd cn cs L a ccd cl outer) (call (.ref 170) [.ref x]) Q E s := by
  k_with_none
  k_with "chain" => first | with_reducible assumption | exact Nat.lt_succ_self _ | (refine Nat.lt_trans ?_ (by with_reducible assumption); k_extra "chain") | ((fail_if_success (show @LT.lt Nat _ _ 295)); refine Nat.lt_succ_of_lt ?_; k_extra "chain")
  k_with "eval Constant int" => refine Mine.const_intN ?_
  k_with "eval Constant str" => refine Mine.const_strN ?_
  k_with "binaryOp Add int int" => refine Mine.add_intN ?_
  k_with "binaryOp Mod int int" => refine Mine.mod_intN (by decide) ?_
  k_with "ktr_room" => (refine Mine.ltOf (by with_reducible assumption) ?_; (try dsimp only [depth_under_make, depth_under_kw, depth_in1, depth_deeper, depth_caller]); repeat (first | with_reducible exact Nat.le_add_right _ _ | with_reducible refine Mine.leK (Eq.refl (_ + _)) ?_))
  k_with "ktr_units" => (refine Mine.ltOf (by with_reducible assumption) ?_; (try dsimp only [units_in1, units_deeper, Around.mark_units, units_caller]); repeat (first | with_reducible exact Nat.le_add_right _ _ | with_reducible refine Mine.leK (Eq.refl (_ + _)) ?_))
  k_with "size_fits" => first | with_reducible assumption | exact Nat.zero_le _ | exact Mine.fitLt (by with_reducible assumption) (by decide) | exact Mine.fitLe (by with_reducible assumption) (by decide) | exact Mine.catF (by k_extra "cat") | exact Mine.catA (by k_extra "cat")
  k_with "cat" => repeat (first | exact Mine.catB1 (by with_reducible assumption) (by decide) | exact Nat.le_trans (by with_reducible assumption) (by decide) | with_reducible refine Mine.catM (Eq.refl (_ + 10000)) ?_ ?_ | ((with_reducible show (Str.ofString _).length ≤ _); decide) | ((with_reducible show Str.empty.length ≤ _); decide))
  k_with "And" => ((first | (with_reducible show PySem.Str.length (_ ++ _) ≤ sizeLine ∧ _) | ((fail_if_success (with_reducible show _ ∧ _)); dsimp only; (with_reducible show PySem.Str.length (_ ++ _) ≤ sizeLine ∧ _))); refine ⟨Mine.catF (by k_extra "cat"), ?_⟩)
  k_with "andlt" => first | with_reducible assumption | exact (by with_reducible assumption : (@LT.lt Nat _ _ _) ∧ _).1 | exact (by with_reducible assumption : (@LT.lt Nat _ _ _) ∧ (@LT.lt Nat _ _ _) ∧ _).2.1 | exact (by with_reducible assumption : (@LT.lt Nat _ _ _) ∧ (@LT.lt Nat _ _ _) ∧ (@LT.lt Nat _ _ _) ∧ _).2.2.1 | exact (by with_reducible assumption : (@LT.lt Nat _ _ _) ∧ (@LT.lt Nat _ _ _) ∧ (@LT.lt Nat _ _ _) ∧ (@LT.lt Nat _ _ _) ∧ _).2.2.2.1 | exact (by with_reducible assumption : (@LT.lt Nat _ _ _) ∧ (@LT.lt Nat _ _ _) ∧ (@LT.lt Nat _ _ _) ∧ (@LT.lt Nat _ _ _) ∧ (@LT.lt Nat _ _ _) ∧ _).2.2.2.2.1 | exact (by with_reducible assumption : (@LT.lt Nat _ _ _) ∧ (@LT.lt Nat _ _ _) ∧ (@LT.lt Nat _ _ _) ∧ (@LT.lt Nat _ _ _) ∧ (@LT.lt Nat _ _ _) ∧ (@LT.lt Nat _ _ _) ∧ _).2.2.2.2.2.1 | exact (by with_reducible assumption : (@LT.lt Nat _ _ _) ∧ (@LT.lt Nat _ _ _) ∧ (@LT.lt Nat _ _ _) ∧ (@LT.lt Nat _ _ _) ∧ (@LT.lt Nat _ _ _) ∧ (@LT.lt Nat _ _ _) ∧ (@LT.lt Nat _ _ _) ∧ _).2.2.2.2.2.2.1 | exact (by with_reducible assumption : (@LT.lt Nat _ _ _) ∧ (@LT.lt Nat _ _ _) ∧ (@LT.lt Nat _ _ _) ∧ (@LT.lt Nat _ _ _) ∧ (@LT.lt Nat _ _ _) ∧ (@LT.lt Nat _ _ _) ∧ (@LT.lt Nat _ _ _) ∧ (@LT.lt Nat _ _ _) ∧ _).2.2.2.2.2.2.2.1 | exact (by with_reducible assumption : (@LT.lt Nat _ _ _) ∧ (@LT.lt Nat _ _ _) ∧ (@LT.lt Nat _ _ _) ∧ (@LT.lt Nat _ _ _) ∧ (@LT.lt Nat _ _ _) ∧ (@LT.lt Nat _ _ _) ∧ (@LT.lt Nat _ _ _) ∧ (@LT.lt Nat _ _ _) ∧ (@LT.lt Nat _ _ _) ∧ _).2.2.2.2.2.2.2.2.1
  k_with "k_ne" => (refine neN ?_; (try dsimp only); first | with_reducible assumption | exact Ne.symm (by with_reducible assumption) | (refine Mine.neGt ?_; k_extra "andlt") | (refine Nat.ne_of_lt ?_; k_extra "andlt") | omega)
  k_with "subscriptTail Name Slice ref ref" => (k_here; (with_reducible show wpAny _ _ (subscriptTail _ (PySem.Expr.Slice _ _ none _) (Value.ref _) (Value.ref _)) _ _ _); k_dflt (refine' slice_refs ?zaF ?zaN ?zaL ?_ ?zaS ?zaT ?zaZ; (case zaF => k_asm); (case zaN => k_asm); (case zaL => exact News.isList (by k_asm) (by k_mem)); (case zaS => with_unfolding_all rfl); (case zaT => kmk_pure); (case zaZ => (rw [sizeLine_eq]; omega))); intro kw_D kw_h kw_F kw_N kw_l1; (try k_lt kw_l1))
  revert X; k_fill; intro X
  refine wpAny_call ?_
  k_dflt (refine' code_def ?k1 ?k2 ?k3 ?k4 ?k5 ?kA ?kF ?kK ?k6 ?k7 ?k8 ?k9 ?kB ?_ ?c2 ?c3 ?c4 ?c5; (case kA => exact rfl); (case kF => exact rfl); (case kK => first | exact rfl | assumption); (case k1 => k_asm); (case k2 => k_asm); (case k3 => k_asm); (case k4 => k_asm); (case k5 => k_asm); (case k6 => k_is); (case k7 => k_is); (case k8 => ktr_room); (case k9 => first | exact BindsTo.of_eq rfl | (refine' kp_binds ?kx ?ke; (case kx => k_in); (case ke => exact fun _ => rfl))); (case c5 => decide); (case kB => exact locs rfl); (case c2 => exact rfl); (case c3 => exact rfl); (case c4 => exact rfl); k_whole)
  intro g' L' h' FG' F' N' B' X' T'
  try dsimp only
  try k_lift B'
  try k_fold
  k_steps
  rename News _ _ _ _ => N9
  exact hret _ _ _ (by k_asm) N9 (by assumption)
end Mine
end

local macro_rules | `(tactic| k_lt $h:ident) => `(tactic| have kw_lt := Mine.ltHd2 $h)
local macro_rules | `(tactic| k_lt $h:ident) => `(tactic| have kw_lt := Mine.ltHd $h)

section
open PySem PySem.W PyProof.Rows PySem.Calls PySem.Spec
set_option maxHeartbeats 0
namespace Mine
noncomputable abbrev startL (P : Params) (out Bm d x dt T d1 dS nS e1 e2 ps ad nn pm : Addr) (od : Obj) (acc : Array Value) (c0 c1 n0 : Nat) (pz : Array Value) (k1 k2 k3 k4 k5 k6 k7 k8 k9 k10 k11 k12 k13 k14 k15 k16 k17 t0 t1 t2 : Tok) (news : List (Addr × Obj)) : List (Addr × Obj) :=
  (nn, listOf #[] 0) :: (ad, od) :: (ps, listOf #[.bool false] 0) :: (e2, listOf #[] 0) :: (e1, listOf acc c0) :: (nS, listOf #[.ref e1, .ref e2] n0) :: (dS, listOf #[.ref d1, .ref nn] c1) :: (d1, listOf #[.ref T] 0) :: (T, nsT t1 t2) :: (dt, listOf #[] 0) :: (x, instObj 322 d) ::
    (d, tgtD P Bm dt dS nS pm ps k1 k2 k3 k4 k5 k6 k7 k8 k9 k10 k11 k12 k13 k14 k15 k16 k17 t0) :: (Bm, bmObj out) :: (out, listOf #[] 0) :: (295, tabObj pz) :: news
theorem allLt_up {a b : Nat} (hab : a ≤ b) : ∀ {l : List (Addr × Obj)}, AllLt a l → AllLt b l
  | [], _ => trivial
  | _ :: _, h => ⟨Nat.lt_of_lt_of_le h.1 hab, allLt_up hab h.2⟩
theorem betw {c o q b : Nat} (h : c < o ∨ q < c) (h1 : o ≤ b) (h2 : b ≤ q) : c ≠ b := by omega
theorem headAddr {h₀ h : Heap} {L x : Addr} {o : Obj} {l : List (Addr × Obj)} (_ : News h₀ L h ((x, o) :: l)) : ∃ y : Addr, y = x := ⟨x, rfl⟩
theorem nameIt {α : Type} {C : Prop} (a : α) (k : ∀ z : α, z = a → C) : C := k a rfl
theorem exK3 {α β γ : Type} {p q : α → β → γ → Prop} {C : Prop} (h : ∃ a b c, p a b c ∧ q a b c) (k : ∀ a b c, p a b c → q a b c → C) : C := h.elim fun a h => h.elim fun b h => h.elim fun c h => k a b c h.1 h.2
noncomputable def MOk (m0 : Str → Option Value) (i : Nat) (mi : Str → Option Value) : Prop :=
  (i = 0 ∧ mi = m0) ∨ ∃ vk vv vq vn vu : Value, mi = fun y => if y = Str.ofString "uri" then some vu else if y = Str.ofString "attr_name" then some vn else if y = Str.ofString "attr_qname" then some vq else if y = Str.ofString "v" then some vv else if y = Str.ofString "k" then some vk else m0 y
theorem mok_same (m0 : Str → Option Value) (vk vv vq vn vu wk wv wq wn wu : Value) :
    (fun y => if y = Str.ofString "uri" then some wu else if y = Str.ofString "attr_name" then some wn else if y = Str.ofString "attr_qname" then some wq else if y = Str.ofString "v" then some wv else if y = Str.ofString "k" then some wk else if y = Str.ofString "uri" then some vu else if y = Str.ofString "attr_name" then some vn else if y = Str.ofString "attr_qname" then some vq else if y = Str.ofString "v" then some vv else if y = Str.ofString "k" then some vk else m0 y) =
    (fun y => if y = Str.ofString "uri" then some wu else if y = Str.ofString "attr_name" then some wn else if y = Str.ofString "attr_qname" then some wq else if y = Str.ofString "v" then some wv else if y = Str.ofString "k" then some wk else m0 y) := by
  funext y
  by_cases h1 : y = Str.ofString "uri"
  · simp only [if_pos h1]
  by_cases h2 : y = Str.ofString "attr_name"
  · simp only [if_neg h1, if_pos h2]
  by_cases h3 : y = Str.ofString "attr_qname"
  · simp only [if_neg h1, if_neg h2, if_pos h3]
  by_cases h4 : y = Str.ofString "v"
  · simp only [if_neg h1, if_neg h2, if_neg h3, if_pos h4]
  by_cases h5 : y = Str.ofString "k"
  · simp only [if_neg h1, if_neg h2, if_neg h3, if_neg h4, if_pos h5]
  simp only [if_neg h1, if_neg h2, if_neg h3, if_neg h4, if_neg h5]
theorem start_ {w : World} {P : Program} {lo : List Str} {mean : ExcName → Option Value} {mg mb : Str → Option Value} {dp un : Nat} {gd : Option (List Code)} {cn : Str} {cs : Scope} {L a : Addr} {ccd : Value} {cl : List (Str × Addr)} {outer : List Env} {A₀ : Around} {base h₀ : Heap} {m : Str → Option Value} {news : List (Addr × Obj)} {s : Shared} {Q E : Value → Shared → Prop} {out Bm d x dt T₁ d1 dS nS e1 e2 ps ad nn pm : Addr} {od : Obj} {acc : Array Value} {c0 c1 n0 : Nat} {pz : Array Value} {k1 k2 k3 k4 k5 k6 k7 k8 k9 k10 k11 k12 k13 k14 k15 k16 k17 t0 t1 t2 : Tok}
  (B : Below A₀ base outer h₀) (F : Fr h₀ L s.heap m) (X : (K w.params).In h₀) (N : News h₀ L s.heap ((nn, listOf #[] 0) :: (ad, od) :: (ps, listOf #[.bool false] 0) :: (e2, listOf #[] 0) :: (e1, listOf acc c0) :: (nS, listOf #[.ref e1, .ref e2] n0) :: (dS, listOf #[.ref d1, .ref nn] c1) :: (d1, listOf #[.ref T₁] 0) :: (T₁, nsT t1 t2) :: (dt, listOf #[] 0) :: (x, instObj 322 d) ::
    (d, tgtD w.params Bm dt dS nS pm ps k1 k2 k3 k4 k5 k6 k7 k8 k9 k10 k11 k12 k13 k14 k15 k16 k17 t0) :: (Bm, bmObj out) :: (out, listOf #[] 0) :: (295, tabObj pz) :: news)) (T : Top P lo mean mg mb h₀) (hk : cs.kind = .function) (hd : dp + 60 < recursionLimit) (hu : un + 600 < cLine)
  (o1 : (295 : Nat) < out ∧ (out : Nat) < Bm ∧ (Bm : Nat) < d ∧ (d : Nat) < x ∧ (x : Nat) < dt ∧ (dt : Nat) < T₁ ∧ (T₁ : Nat) < d1 ∧ (d1 : Nat) < dS ∧ (dS : Nat) < nS ∧ (nS : Nat) < e1 ∧ (e1 : Nat) < e2 ∧ (e2 : Nat) < ps ∧ (ps : Nat) < ad ∧ (ad : Nat) < nn)
  (o2 : AllLt out news) (o3 : ∀ p ∈ news, p.1 ≠ 295)
  {kvs : List (Str × Value)} {rows : List (Str × Str)} (hod : od.IsDictOf (PySem.strKind PySem.Challenge.rw_sw0083_01.row.prog w) kvs) (hkv : KvOf kvs rows) (lo1 : (ad == sysModules) = false) (hr1 : 1 ≤ rows.length) (hr4 : rows.length ≤ 4) {t : Tok}
  (hz : LamOk news 291 71 (Str.ofString "C14NWriterTarget._start.<locals>.<lambda>") pz)
  (hx : Str.ofString "f" ∉ rows.map (·.1)) (hnd : (rows.map (·.1)).Nodup)
  (hw : ∀ x ∈ Str.ofString "f" :: rows.map (·.1), NoClose x ∧ x.length < 1000 ∧ ¬ Txt.slice x none (some 1) = Str.ofString "{")
  {esc : Str → Str} (hesc : ∀ r ∈ rows, EscOf r.2 (esc r.2)) (hel : ∀ r ∈ rows, (esc r.2).length < 1000)
  (hret : ∀ (pz' : Array Value) (news' : List (Addr × Obj)) (rowsZ : List (Str × Str)) (u1 u2 u3 : Tok) (c9 : Nat) (h' : Heap) (tk' : Nat) (gs' : Array GenState) (dr' : Drawn), Bg s.gens gs' → rowsZ.Perm rows → rowsZ.Pairwise (fun a b => ltW a.1 b.1 = true) → (∀ p ∈ news, p ∈ news') → (∀ p ∈ news', p.1 ≠ 295) → (∀ p ∈ news', p ∈ news ∨ ∀ q ∈ news, (q.1 : Nat) < p.1) →
    LamOk news' 291 71 (Str.ofString "C14NWriterTarget._start.<locals>.<lambda>") pz' → Fr h₀ L h' m →
    News h₀ L h' ((out, listOf #[.str (Str.ofString "<" ++ Str.ofString "f") u1, .str (Txt.join (Str.ofString "") (rowsZ.map fun r => attrText (r.1, esc r.2))) u2, .str (Str.ofString ">") u3] c9) :: (295, tabObj pz') :: news') → Q .none ⟨h', gs', dr', tk', s.os⟩) :
  wpAny (model PySem.Challenge.rw_sw0083_01.row.prog w) (ktrTop dp un gd cn cs L a ccd cl outer) (call (.ref 298) [.ref x, .str (Str.ofString "f") t, .ref ad, .ref nn]) Q E s := by
  k_with_none
  k_with "chain" => first | with_reducible assumption | exact Nat.lt_succ_self _ | (refine Nat.lt_trans ?_ (by with_reducible assumption); k_extra "chain") | ((fail_if_success (show @LT.lt Nat _ _ 295)); refine Nat.lt_succ_of_lt ?_; k_extra "chain")
  k_with "eval Constant int" => refine Mine.const_intN ?_
  k_with "eval Constant str" => refine Mine.const_strN ?_
  k_with "binaryOp Add int int" => refine Mine.add_intN ?_
  k_with "binaryOp Mod int int" => refine Mine.mod_intN (by decide) ?_
  k_with "ktr_room" => (refine Mine.ltOf (by with_reducible assumption) ?_; (try dsimp only [depth_under_make, depth_under_kw, depth_in1, depth_deeper, depth_caller]); repeat (first | with_reducible exact Nat.le_add_right _ _ | with_reducible refine Mine.leK (Eq.refl (_ + _)) ?_))
  k_with "ktr_units" => (refine Mine.ltOf (by with_reducible assumption) ?_; (try dsimp only [units_in1, units_deeper, Around.mark_units, units_caller]); repeat (first | with_reducible exact Nat.le_add_right _ _ | with_reducible refine Mine.leK (Eq.refl (_ + _)) ?_))
  k_with "size_fits" => first | with_reducible assumption | exact Nat.zero_le _ | exact Mine.fitLt (by with_reducible assumption) (by decide) | exact Mine.fitLe (by with_reducible assumption) (by decide) | exact Mine.catF (by k_extra "cat") | exact Mine.catA (by k_extra "cat")
  k_with "cat" => repeat (first | exact Mine.catB1 (by with_reducible assumption) (by decide) | exact Nat.le_trans (by with_reducible assumption) (by decide) | with_reducible refine Mine.catM (Eq.refl (_ + 10000)) ?_ ?_ | ((with_reducible show (Str.ofString _).length ≤ _); decide) | ((with_reducible show Str.empty.length ≤ _); decide))
  k_with "andlt" => first | with_reducible assumption | exact (by with_reducible assumption : (@LT.lt Nat _ _ _) ∧ _).1 | exact (by with_reducible assumption : (@LT.lt Nat _ _ _) ∧ (@LT.lt Nat _ _ _) ∧ _).2.1 | exact (by with_reducible assumption : (@LT.lt Nat _ _ _) ∧ (@LT.lt Nat _ _ _) ∧ (@LT.lt Nat _ _ _) ∧ _).2.2.1 | exact (by with_reducible assumption : (@LT.lt Nat _ _ _) ∧ (@LT.lt Nat _ _ _) ∧ (@LT.lt Nat _ _ _) ∧ (@LT.lt Nat _ _ _) ∧ _).2.2.2.1 | exact (by with_reducible assumption : (@LT.lt Nat _ _ _) ∧ (@LT.lt Nat _ _ _) ∧ (@LT.lt Nat _ _ _) ∧ (@LT.lt Nat _ _ _) ∧ (@LT.lt Nat _ _ _) ∧ _).2.2.2.2.1 | exact (by with_reducible assumption : (@LT.lt Nat _ _ _) ∧ (@LT.lt Nat _ _ _) ∧ (@LT.lt Nat _ _ _) ∧ (@LT.lt Nat _ _ _) ∧ (@LT.lt Nat _ _ _) ∧ (@LT.lt Nat _ _ _) ∧ _).2.2.2.2.2.1 | exact (by with_reducible assumption : (@LT.lt Nat _ _ _) ∧ (@LT.lt Nat _ _ _) ∧ (@LT.lt Nat _ _ _) ∧ (@LT.lt Nat _ _ _) ∧ (@LT.lt Nat _ _ _) ∧ (@LT.lt Nat _ _ _) ∧ (@LT.lt Nat _ _ _) ∧ _).2.2.2.2.2.2.1 | exact (by with_reducible assumption : (@LT.lt Nat _ _ _) ∧ (@LT.lt Nat _ _ _) ∧ (@LT.lt Nat _ _ _) ∧ (@LT.lt Nat _ _ _) ∧ (@LT.lt Nat _ _ _) ∧ (@LT.lt Nat _ _ _) ∧ (@LT.lt Nat _ _ _) ∧ (@LT.lt Nat _ _ _) ∧ _).2.2.2.2.2.2.2.1 | exact (by with_reducible assumption : (@LT.lt Nat _ _ _) ∧ (@LT.lt Nat _ _ _) ∧ (@LT.lt Nat _ _ _) ∧ (@LT.lt Nat _ _ _) ∧ (@LT.lt Nat _ _ _) ∧ (@LT.lt Nat _ _ _) ∧ (@LT.lt Nat _ _ _) ∧ (@LT.lt Nat _ _ _) ∧ (@LT.lt Nat _ _ _) ∧ _).2.2.2.2.2.2.2.2.1
  k_with "k_ne" => (refine neN ?_; (try dsimp only); first | with_reducible assumption | exact Ne.symm (by with_reducible assumption) | (refine Mine.neGt ?_; k_extra "andlt") | (refine Nat.ne_of_lt ?_; k_extra "andlt") | omega)
  k_with "tbn_find" => exact leAll (by assumption) (fun p hp => by repeat (first | exact hp | refine List.Mem.tail _ ?_))
  k_with "k_ne" => (refine neN ?_; (try dsimp only); first | with_reducible assumption | exact Ne.symm (by with_reducible assumption) | ((fail_if_success (refine (neN (a := 987654321) ?_))); (fail_if_success (refine (neN (b := 987654321) ?_))); first | (refine neGt ?_; k_extra "chain") | (refine Nat.ne_of_lt ?_; k_extra "chain") | k_extra "ne") | omega)
  k_with "k_mem" => first | exact List.Mem.head _ | (refine' List.Mem.tail _ ?_; k_mem) | assumption
  k_with "k_all" => first | with_reducible assumption | (tbn_letter; refine tbn_neAll (allLt_up ?_ (by assumption)); (try dsimp only); first | exact Nat.le_refl _ | (refine Nat.le_of_lt ?_; k_extra "chain") | omega)
  k_with "eval Set" => (refine Hold.out ?_)
  k_with "exec Assign cons DictComp" => (refine Hold.out ?_)
  k_with "DSrc" => (refine Hold.out ?_)
  k_with "call builtin:str.split" => (refine Hold.out ?_)
  k_with "call ref" => (refine Hold.out ?_)
  k_with "truthy ref" => (refine Hold.out ?_)
  k_with "exec For Tuple Call" => (refine Hold.out ?_)
  k_with "ForRows" => (refine Hold.out ?_)
  k_with "call builtin:sorted" => (refine Hold.out ?_)
  k_with "subscriptTail Name Name ref str" => (refine Hold.out ?_)
  k_with "subscriptTail Attribute Name UnaryOp ref int" => (refine Hold.out ?_)
  k_with "subscriptTail Subscript Name Name Constant ref int" => (refine Hold.out ?_)
  have p1 := ltN o1.1
  have p2 := ltN o1.2.1
  have p3 := ltN o1.2.2.1
  have p4 := ltN o1.2.2.2.1
  have p5 := ltN o1.2.2.2.2.1
  have p6 := ltN o1.2.2.2.2.2.1
  have p7 := ltN o1.2.2.2.2.2.2.1
  have p8 := ltN o1.2.2.2.2.2.2.2.1
  have p9 := ltN o1.2.2.2.2.2.2.2.2.1
  have p10 := ltN o1.2.2.2.2.2.2.2.2.2.1
  have p11 := ltN o1.2.2.2.2.2.2.2.2.2.2.1
  have p12 := ltN o1.2.2.2.2.2.2.2.2.2.2.2.1
  have p13 := ltN o1.2.2.2.2.2.2.2.2.2.2.2.2.1
  have p14 := ltN o1.2.2.2.2.2.2.2.2.2.2.2.2.2
  revert X; k_fill; intro X
  refine wpAny_call ?_
  k_dflt (refine' code_defC ?k1 ?k2 ?k3 ?k4 ?k5 ?kA ?kF ?kK ?k6 ?k7 ?k8 ?k9 ?kB ?kD ?_ ?c2 ?c3 ?c4; (case kA => exact rfl); (case kF => exact rfl); (case kK => first | exact rfl | assumption); (case k1 => k_asm); (case k2 => k_asm); (case k3 => k_asm); (case k4 => k_asm); (case k5 => k_asm); (case k6 => k_is); (case k7 => k_is); (case k8 => ktr_room); (case k9 => first | exact BindsTo.of_eq rfl | (refine' kp_binds ?kx ?ke; (case kx => k_in); (case ke => exact fun _ => rfl))); (case kB => exact rfl); (case kD => decide +kernel); (case c2 => exact rfl); (case c3 => exact rfl); (case c4 => exact rfl); k_whole)
  intro g' L' h' tk' cells' FG' F' N' Y' B' X' T' l0
  have hl0 : Hold (∀ p ∈ _, _) := l0
  try k_lt l0
  k_cells Y'
  try simp only [List.cons_append, List.nil_append] at N'
  try dsimp only
  try k_lift B'
  try k_fold
  k_steps
  unfold Hold
  refine set_star (K := _) rfl F' N' X' (by kernel_rfl) rfl (by first | rfl | kernel_rfl) (by first | rfl | kernel_rfl) (by decide) (by decide) (by first | rfl | kernel_rfl) (by first | rfl | kernel_rfl) (by k_mem : (ad, od) ∈ _) hod lo1 (by rw [KvOf.keys hkv]; exact hx) (by rw [KvOf.len hkv]; exact hr1) (by rw [KvOf.len hkv]; exact hr4) (by rfl) ?_
  intro Ds oS h1 tk1 F' N' l1 hS
  have NS1 := N'
  try k_lt l1
  k_steps
  unfold Hold
  refine dict_comp (h₀ := g') (by k_asm) (by rfl) (by with_unfolding_all rfl) (by rfl) (by k_asm : Top _ _ _ _ _ g').nolimit (by with_unfolding_all rfl) (by decide) (by with_unfolding_all rfl) (by decide) (by with_unfolding_all rfl) (by with_unfolding_all rfl) (by with_unfolding_all rfl) (by intro _; with_unfolding_all rfl) ?_
  k_steps
  (try unfold Hold)
  refine kla_eval rfl ?_
  rename News _ _ _ _ => N8
  rename Addr => q8
  k_dflt (refine' lam_any (pre := [_, _, _, _, _, _, _, _, _, _, _, _, _, _, _, _, _, _, _]) (c := 297) (P := 295) (pz := pz) (news := news) (line := 291) (col := 71) (qual := Str.ofString "C14NWriterTarget._start.<locals>.<lambda>") ?hq ?hl ?hc ?F N8 ?T ?C ?cd ?h1 o3 hz ?cl ?_)
  case hq => kernel_rfl
  case hl => exact rfl
  case hc => exact rfl
  set_option maxHeartbeats 400000 in
  case F => k_asm
  set_option maxHeartbeats 400000 in
  case T => exact (by k_asm : Top _ _ _ _ _ g')
  set_option maxHeartbeats 400000 in
  case cd => exact rfl
  set_option maxHeartbeats 400000 in
  case C => exact codeHd_of_K (by k_asm) (by kernel_rfl)
  set_option maxHeartbeats 400000 in
  case h1 => k_all
  set_option maxHeartbeats 400000 in
  case cl => exact rfl
  intro f c' oc vs tq ctv h2 tk2 F' N' d1' d2' l1 l2 l3 l4
  simp only [List.cons_append, List.nil_append] at N' l1 l4
  replace l2 := ltN l2
  replace l3 := ltN l3
  k_lt l1
  have l5 : @LT.lt Nat _ c' out ∨ @LT.lt Nat _ q8 c' := by
    rcases l4 with ⟨o, ho⟩ | ⟨_, hq⟩
    · exact .inl (lt_of_all o2 _ ho)
    · exact .inr (hq _ (.head _))
  have l7 : (c', oc) ∈ news ∨ ∀ q ∈ news, (q.1 : Nat) < c' := by
    rcases l4 with ⟨o, ho⟩ | ⟨_, hq⟩
    · left
      have e1 := (N' (c', o) (by repeat (first | exact ho | refine List.Mem.tail _ ?_))).1
      have e2 := (N' (c', oc) (by k_mem)).1
      rw [e1] at e2
      cases e2
      exact ho
    · exact .inr fun q h => hq q (by repeat (first | exact h | refine List.Mem.tail _ ?_))
  have cn1 : @Ne Nat c' out := betw l5 (Nat.le_refl _) (Nat.le_of_lt (by walk_at "chain"))
  have cn2 : @Ne Nat c' d := betw l5 (Nat.le_of_lt (by walk_at "chain")) (Nat.le_of_lt (by walk_at "chain"))
  have cn3 : @Ne Nat c' nS := betw l5 (Nat.le_of_lt (by walk_at "chain")) (Nat.le_of_lt (by walk_at "chain"))
  have cn4 : @Ne Nat c' ps := betw l5 (Nat.le_of_lt (by walk_at "chain")) (Nat.le_of_lt (by walk_at "chain"))
  have l6 : c' ≠ 295 := by
    rcases l4 with ⟨o, ho⟩ | ⟨hq, _⟩
    · exact o3 _ ho
    · exact Nat.ne_of_gt hq
  clear l4
  (try dsimp only)
  walk1
  refine sorted_set (h₀ := g') (l := Str.ofString "f" :: kvs.map (·.1)) (by rfl) ?hu F' N' ?hn ?h2 ?h5 (hS.at fun o e => ?hS) ?hc (by intro _; rfl) ?_
  case hu => ktr_units
  case hn => rw [KvOf.keys hkv]; exact List.nodup_cons.mpr ⟨hx, hnd⟩
  case h2 => simp [KvOf.len hkv]; omega
  case h5 => simp [KvOf.len hkv]; omega
  case hS => rw [(NS1 (Ds, oS) (.head _)).1] at e; cases e; exact (N' (Ds, oS) (by k_mem)).1
  case hc =>
    intro xk tk9 s' nw R hxl F1 N1 hsub hR
    obtain ⟨hp9, gs9, dr9, tks9, os9⟩ := s'
    refine wpAny_call ?_
    refine kla_code (h₀ := g') (binds := [(Str.ofString "n", .str xk tk9)]) B' F1 X' N1 T' rfl rfl rfl (hsub _ (.head _)) (codeRec_news N1 (hsub _ (.tail _ (by k_mem))) d1' d2') ?room ?bind ?loc ?body rfl rfl rfl ?cell
    case room => ktr_room
    case bind => exact rfl
    case loc => exact locs rfl
    case cell => decide
    case body =>
      intro g2 L2 h3 FG2 F2 N2 B2 X2 T2
      try dsimp only
      k_lift B2
      k_fold
      k_steps
      unfold Hold
      refine split_same (s := ⟨_, _, _, _, _⟩) (t := tk9) (hw xk (by rw [KvOf.keys hkv] at hxl; exact hxl)).1 (by k_asm) (by k_asm) ?_
      intro D9 h9 F9 N9 l9
      try dsimp only
      k_steps
      exact hR _ _ _ (by k_asm) (by k_asm) l9
  intro D8 out8 c8 h8 tk8 dr8 F' N' l8 hp8 hst8
  k_lt l8
  refine dsrc_q F' N' (.head _) hst8 ?hn ?hz ?turn ?fin
  case hn => rw [hp8.nodup_iff, KvOf.keys hkv]; exact List.nodup_cons.mpr ⟨hx, hnd⟩
  case hz =>
    have z := hp8.length_eq
    simp [KvOf.len hkv] at z
    omega
  case turn =>
    intro k tt C oC m₂ hT tkT gsT ET full hbT hk hC hxx F' N'
    simp only [List.cons_append, List.nil_append] at N'
    k_steps
    unfold Hold
    refine call_meth N' (by k_mem) ?_
    have hk2 : k ∈ Str.ofString "f" :: rows.map (·.1) := by rw [hp8.mem_iff, KvOf.keys hkv] at hk; exact hk
    refine qname (h₀ := g') B' F' X' N' T' (by rfl) (by ktr_room) (by ktr_units) (by k_mem : (x, instObj 322 d) ∈ _) (by k_mem) (by k_mem) (by k_mem) (by k_mem) (by k_mem) (hw k hk2).2.1 (hw k hk2).2.2 ?_
    intro tp u3 hX tkX gsX hbX FX NX lX
    k_steps
    refine ⟨_, _, _, tp, u3, rfl, hbX, rfl, rfl, FX, fun p hp => NX p ?_, fun p hp => lt_of_all lX p ?_⟩
    · rcases List.mem_cons.mp hp with rfl | hp
      · exact .head _
      · refine List.Mem.tail _ ?_
        repeat (first | exact List.mem_append_right _ hp | refine List.Mem.tail _ ?_)
    · repeat (first | exact List.mem_append_right _ hp | refine List.Mem.tail _ ?_)
  case fin =>
    intro D oD kvq h3 tk3 gs3 tq hb3 hq hgq hod3 lo3 hD3 F' N'
    simp only [List.cons_append, List.nil_append] at N'
    try dsimp only at N' F' ⊢
    refine nameIt (news ++ tq) ?_
    intro news2 hn2
    rw [← hn2] at N'
    k_lt hD3
    k_steps
    unfold Hold
    refine wpAny_truthy_list (items := #[]) (News.isList N' (by k_mem)) (by decide) ?_
    try dsimp only
    k_steps
    unfold Hold
    rename News _ _ _ _ => N7
    obtain ⟨al, eal⟩ := headAddr N7
    subst eal
    have hal2 : AllLt al news2 := leAll (by assumption) fun p hp => by repeat (first | exact hp | refine List.Mem.tail _ ?_)
    have hke : (!kvs.isEmpty) = true := by
      have z := KvOf.len hkv
      cases kvs with
      | nil => simp at z; omega
      | cons _ _ => rfl
    refine wpAny_truthy_dict (knd := PySem.strKind _ _) lo1 (Heap.dictOf_iff.mpr ⟨od, (N7 (ad, od) (by k_mem)).1, hod⟩) (by rw [KvOf.len hkv]; omega) ?_
    rw [hke]
    try dsimp only
    refine ite_pos_ rfl ?_
    k_steps
    unfold Hold
    refine for_rows (h₀ := g') (by rfl) (by with_unfolding_all rfl) (by with_unfolding_all rfl) (by with_unfolding_all rfl) ?_
    k_steps
    unfold Hold
    refine sorted_view (h₀ := g') (by rfl) (by k_asm) (by k_asm) (by k_mem) (by k_mem : (ad, od) ∈ _) hod hkv hr1 hr4 hnd ?_
    intro lo8 B8 o8 c9 tz hZ tkZ rowsZ z1 z2 z3 F' N' hRZ hpZ hwZ
    simp only [List.cons_append] at N'
    refine nameIt (news2 ++ tz) ?_
    intro news3 hn3
    rw [← hn3] at N'
    have lal : (al : Nat) < lo8 := z1 _ (.tail _ (.head _))
    have hal3 : ∀ p ∈ news3, p.1 ≠ al := fun p hp => by
      rw [hn3] at hp
      rcases List.mem_append.mp hp with hp | hp
      · exact Nat.ne_of_lt (lt_of_all hal2 p hp)
      · exact Nat.ne_of_gt (Nat.lt_trans lal (z2 p hp))
    k_lt z1
    have lB : (lo8 : Nat) < B8 := by
      obtain ⟨p, hp⟩ : ∃ p, p ∈ tz := by
        have hz0 : 0 < o8.size := by rw [hRZ.1, hpZ.length_eq]; omega
        obtain ⟨a, _, _, _, _, _, hm⟩ := hRZ.2 0 _ (Array.getElem?_eq_getElem hz0)
        exact ⟨_, hm⟩
      exact Nat.lt_trans (z2 p hp) (z3 p (List.mem_append_left _ hp))
    replace lal := ltN lal
    replace lB := ltN lB
    refine rows_src (s := ⟨_, _, _, _, _⟩) (M := MOk _) (al := al) (tq := tz) F' N' (by k_updF) (.head _) (by k_ne) hRZ ?htq (.inl ⟨rfl, rfl⟩) ?turn ?hz ?fin2
    case htq =>
      intro p hp
      refine ⟨?_, Nat.ne_of_gt (Nat.lt_trans lal (z2 p hp))⟩
      rw [hn3]
      repeat (first | exact List.mem_append_right _ hp | refine List.Mem.tail _ ?_)
    case hz => rw [hpZ.length_eq]; omega
    case turn =>
      intro i r ta tb acc ca' tzz mi I oI h tk gs hbR hr hac hMi hgt F' N' off hlt
      simp only [List.cons_append] at N'
      refine nameIt (news3 ++ tzz) ?_
      intro news4 hn4
      rw [← hn4] at N'
      have hal4 : ∀ p ∈ news4, p.1 ≠ al := fun p hp => by
        rw [hn4] at hp
        rcases List.mem_append.mp hp with hp | hp
        · exact hal3 p hp
        · exact Nat.ne_of_gt (hgt p hp)
      k_lt hlt
      have hrr : r ∈ rows := hpZ.mem_iff.mp (List.mem_of_getElem? hr)
      have hrk : r.1 ∈ out8.toList.map txtOf := by
        rw [hp8.mem_iff, KvOf.keys hkv]
        exact .tail _ (List.mem_map.mpr ⟨r, hrr, rfl⟩)
      refine exK3 (QOf.look hq hrk) ?_
      intro tp tA uA hvA hmA
      have hm4 : (tp, tupO [.str r.1 tA, .str r.1 tA, .str (Str.ofString "") uA]) ∈ news4 := by
        rw [hn4, hn3, hn2]
        exact List.mem_append_left _ (List.mem_append_left _ (List.mem_append_right _ hmA))
      rcases hMi with ⟨_, rfl⟩ | ⟨vk, vv, vq, vn, vu, rfl⟩
      · k_steps
        unfold Hold
        refine kda_item (knd := PySem.strKind _ _) N' (by k_mem : (D, oD) ∈ _) hod3 (strKind_is _ _ _ _) hvA ?_
        try dsimp only
        k_steps
        rename Fr _ _ _ _ => FE
        rename News _ _ _ _ => NE
        rw [hn4] at NE
        refine ⟨rfl, _, _, _, _, _, _, _, _, rfl, hbR, FE, .inr ⟨_, _, _, _, _, rfl⟩, NE, ?_, ?_⟩
        · show @LT.lt Nat _ _ _; first | walk_at "chain" | omega
        · show @LT.lt Nat _ _ _; first | walk_at "chain" | omega
      · k_steps
        unfold Hold
        refine kda_item (knd := PySem.strKind _ _) N' (by k_mem : (D, oD) ∈ _) hod3 (strKind_is _ _ _ _) hvA ?_
        try dsimp only
        k_steps
        rename Fr _ _ _ _ => FE
        rename News _ _ _ _ => NE
        rw [hn4] at NE
        refine ⟨rfl, _, _, _, _, _, _, _, _, rfl, hbR, FE, .inr ⟨_, _, _, _, _, mok_same _ _ _ _ _ _ _ _ _ _ _⟩, NE, ?_, ?_⟩
        · show @LT.lt Nat _ _ _; first | walk_at "chain" | omega
        · show @LT.lt Nat _ _ _; first | walk_at "chain" | omega
    case fin2 =>
      intro mi acc ca' tzz h tk gs hbR hRA hMi hgt F' N'
      simp only [List.cons_append] at N'
      refine nameIt (news3 ++ tzz) ?_
      intro news4 hn4
      rw [← hn4] at N'
      rcases hMi with ⟨h0, _⟩ | ⟨vk, vv, vq, vn, vu, rfl⟩
      · exfalso
        rw [hpZ.length_eq] at h0
        omega
      have hD8al : @LT.lt Nat _ D8 al := by first | walk_at "chain" | omega
      have h4 : ∀ b : Addr, @LE.le Nat _ out b → @LT.lt Nat _ b D8 → ∀ p ∈ news4, p.1 ≠ b := fun b hb1 hb2 p hp => by
        rw [hn4, hn3, hn2] at hp
        rcases List.mem_append.mp hp with hp | hp
        · rcases List.mem_append.mp hp with hp | hp
          · rcases List.mem_append.mp hp with hp | hp
            · exact Nat.ne_of_lt (Nat.lt_of_lt_of_le (lt_of_all o2 p hp) hb1)
            · exact Nat.ne_of_gt (Nat.lt_trans hb2 (hgq p hp))
          · exact Nat.ne_of_gt (Nat.lt_trans (Nat.lt_trans hb2 hD8al) (Nat.lt_trans lal (z2 p hp)))
        · exact Nat.ne_of_gt (Nat.lt_trans (Nat.lt_trans hb2 hD8al) (hgt p hp))
      have h4p := h4 ps (Nat.le_of_lt (by walk_at "chain")) (by walk_at "chain")
      have h4n := h4 nS (Nat.le_of_lt (by walk_at "chain")) (by walk_at "chain")
      have h4d := h4 d (Nat.le_of_lt (by walk_at "chain")) (by walk_at "chain")
      have h4o := h4 out (Nat.le_refl _) (by walk_at "chain")
      have hvn : valueAt kvs (Str.ofString "{http://www.w3.org/XML/1998/namespace}space") = none := by
        unfold valueAt
        rw [Option.map_eq_none_iff, List.find?_eq_none]
        intro e he hc
        have e1 : e.1 = Str.ofString "{http://www.w3.org/XML/1998/namespace}space" := by simpa using hc
        have hm : e.1 ∈ rows.map (·.1) := by rw [← KvOf.keys hkv]; exact List.mem_map.mpr ⟨e, he, rfl⟩
        exact (hw e.1 (.tail _ hm)).2.2 (by rw [e1]; kernel_rfl)
      k_with "callWith ref" => (k_here; (with_reducible show wpAny _ _ (callWith _ (Value.ref Bm) _ (backTo _ (starEach (_ :: _) _)) []) _ _ _); k_dflt (refine' callWith_bmN ?kfbN ?kfbM ?_; (case kfbN => k_asm); (case kfbM => k_mem); k_whole))
      k_with "And" => ((with_reducible show (_ = some (bmObj _)) ∧ _); k_dflt (refine ⟨News.get (by k_asm) (by k_mem), ?_⟩); (try dsimp only [List.nil_append, List.cons_append]))
      k_with "SrcLP" => (k_here; k_dflt (refine LCp.SrcLP.ledger (by rfl) (by k_asm) (by k_asm) (by k_mem) (by first | size_fits | (rw [sizeLine_eq]; omega) | (rw [sizeLine_eq]; simp; omega)) ?_; intro kw_g'); refine Hold.out ?_)
      k_with "eval ListComp" => (k_here; (with_reducible show wpAny _ _ (eval (Expr.ListComp _ [⟨Expr.Tuple _ _ _, _, [], _⟩] _ _) _) _ _ _); k_dflt (refine LCp.ListComp_P (F₀ := by k_asm) (by with_unfolding_all rfl) (by decide) (by rfl) (by decide) (by rfl) (by rfl) (by decide) ?_))
      k_with "call builtin:str.join" => (refine Hold.out ?_)
      k_with "eval Name" => ((with_reducible show wpAny _ _ (eval (Expr.Name (Str.ofString "_escape_attrib_c14n") _) (compEnvC _ _ _ _)) _ _ _); k_dflt (refine LCgL.ld_global (by k_asm) (by k_asm) (by k_asm) (by k_is) ?_))
      k_with "callWith ref" => ((with_reducible show wpAny _ _ (callWith _ (Value.ref 340) [] _ []) _ _ _); (try dsimp only); k_dflt (refine' callWith_K ?k1 ?k2 ?_; (case k1 => k_asm); (case k2 => k_is); k_whole))
      k_with "CompEnd" => (first
        | (refine LCg.CompEnd.intro (by assumption) (by assumption) _ (fun p hp => hp) (by assumption) (by first | lcg_src | exact .inr ⟨_, by k_mem, rfl, _, rfl⟩) ?_)
        | (refine LCg.CompEnd.intro (by assumption) (by assumption) (_ :: _) mem_rot ⟨⟨by first | k_ne | omega, by first | k_ne | omega, by first | k_ne | omega⟩, by assumption⟩ (by first | lcg_src | exact .inr ⟨_, by k_mem, rfl, _, rfl⟩) ?_))
      k_steps
      rename News _ _ _ _ => N6
      refine kdg_get1 (knd := PySem.strKind _ _) N6 (by k_mem : (ad, od) ∈ _) hod lo1 (strKind_is _ _ _ _) none hvn ?_
      dsimp only [Option.getD]
      k_steps
      unfold Hold
      refine item_last1 (News.isList (by k_asm) (by k_mem)) ?_
      try dsimp only
      k_steps
      unfold Hold
      refine exK3 (QOf.look hq (show Str.ofString "f" ∈ out8.toList.map txtOf by rw [hp8.mem_iff]; exact .head _)) ?_
      intro tpF tF uF hvF hmF
      have hmF4 : (tpF, tupO [.str (Str.ofString "f") tF, .str (Str.ofString "f") tF, .str (Str.ofString "") uF]) ∈ news4 := by
        rw [hn4, hn3, hn2]
        exact List.mem_append_left _ (List.mem_append_left _ (List.mem_append_right _ hmF))
      rename News _ _ _ _ => N5
      refine kda_item (knd := PySem.strKind _ _) N5 (by k_mem : (D, oD) ∈ _) hod3 (strKind_is _ _ _ _) hvF ?_
      try dsimp only
      k_steps
      unfold Hold
      k_dflt (refine item_tupleT (News.isTup (by k_asm) (by k_mem)) (by decide) (by decide) (by rfl) (by rfl) ?_)
      try dsimp only
      k_steps
      unfold Hold
      refine bm_write (out := out) (its := #[]) (n := 0) (by k_asm) (by k_asm) (by k_mem) (by k_upd) ?_
      intro hW1 FW1 NW1
      try dsimp only at NW1
      try dsimp only
      k_steps
      unfold Hold
      have hacc : (!acc.isEmpty) = true := by
        have z : acc.size = rowsZ.length := hRA.1
        rw [hpZ.length_eq] at z
        cases hq9 : acc.isEmpty with
        | false => rfl
        | true => rw [Array.isEmpty_iff] at hq9; subst hq9; simp at z; omega
      have hacs : acc.size ≤ 4 := by rw [hRA.1, hpZ.length_eq]; omega
      refine wpAny_truthy_list (items := acc) (News.isList (by k_asm) (by k_mem)) (by rw [hRA.1, hpZ.length_eq]; omega) ?_
      rw [hacc]
      try dsimp only
      refine ite_pos_ rfl ?_
      k_steps
      unfold Hold
      refine compP_each (fun i ys nw => nw = _ ∧ StrsAre ys ((rowsZ.take i).map fun r => attrText (r.1, esc r.2))) ⟨rfl, .nil⟩ ?_ ?_
      · intro i ys nw v hi hI hv
        obtain ⟨rfl, hst⟩ := hI
        obtain ⟨b, r, ta, tb, hr, rfl, hm⟩ := hRA.2 i v hv
        have hm4 : (b, tupO [.str r.1 ta, .str r.2 tb]) ∈ news4 := by rw [hn4]; exact List.mem_append_right _ hm
        refine ⟨b, _, .str r.1 ta, .str r.2 tb, 0, rfl, by k_mem, rfl, rfl, ?_⟩
        intro I oI C oC D₂ m₂ h tk E' R hC hx hx2 F' N' off' ne hR'
        have hrr : r ∈ rows := hpZ.mem_iff.mp (List.mem_of_getElem? hr)
        have q4 : r.1.length < 1000 := (hw r.1 (.tail _ (List.mem_map.mpr ⟨r, hrr, rfl⟩))).2.1
        have q5 := hel r hrr
        have q7 := hesc r hrr
        try dsimp only at F' N' ⊢
        k_steps
        unfold Hold
        refine esc_attr (h₀ := g') (s := ⟨_, _, _, _, _⟩) (by k_asm) (by k_asm) (by k_asm) (by k_asm) (by k_asm) (by rfl) (by ktr_room) (by ktr_units) q7 ?_
        intro u hX tkX FX NX
        try dsimp only at FX NX ⊢
        k_steps
        refine hR' _ _ ⟨rfl, ?_⟩
        rw [List.take_add_one, hr, Option.toList_some, List.map_append]
        exact kct_snoc hst
      · rintro ys nw ⟨rfl, hst⟩
        rw [hRA.1, List.take_length] at hst
        k_steps
        unfold Hold
        rename (@Ne Nat B8 _) ∧ _ => hO
        have dn1 := hO.2.2.2.2.2.2.2.2.2.2.2.2.2.2.2.2.1
        have dn2 := hO.2.2.2.2.2.2.2.2.2.2.2.2.2.2.2.2.2.2.2.2.2.2.1
        have dn3 := hO.2.2.2.2.2.2.2.2.2.2.2.2.2.2.2.2.2.2.2.2.2.2.2.2.1
        clear hO
        refine join_few (s := ⟨_, _, _, _, _⟩) (ys := rowsZ.map fun r => attrText (r.1, esc r.2)) (by is_list) (by simpa using hst) (by decide) (by rw [List.length_map, hpZ.length_eq]; omega) ?_ ?_
        · intro y hy
          obtain ⟨r, hr, rfl⟩ := List.mem_map.mp hy
          have hrr : r ∈ rows := hpZ.mem_iff.mp hr
          exact attr_len (hw r.1 (.tail _ (List.mem_map.mpr ⟨r, hrr, rfl⟩))).2.1 (hel r hrr)
        intro t3 k3
        try dsimp only
        k_steps
        unfold Hold
        refine bm_write (out := out) (its := #[_]) (n := 1) (by k_asm) (by k_asm) (by k_mem) (by k_upd) ?_
        intro hW2 FW2 NW2
        try dsimp only at NW2
        try dsimp only
        k_steps
        unfold Hold
        refine bm_write (out := out) (its := #[_, _]) (n := 2) (by k_asm) (by k_asm) (by k_mem) (by k_upd) ?_
        intro hW3 FW3 NW3
        try dsimp only at NW3
        try dsimp only
        k_with "ne" => exact neGt (ltMem (by with_reducible assumption) (by k_mem))
        k_steps
        rename News h₀ L _ _ => NF
        refine' hret _ ((c', oc) :: news) rowsZ _ _ _ _ _ _ _ _ (hb3.trans hbR) hpZ hwZ (fun p hp => .tail _ hp) ?h9 (List.forall_mem_cons.mpr ⟨l7, fun p hp => .inl hp⟩) (.inr ⟨c', oc, vs, _, rfl, .head _, d1', d2'⟩) (by k_asm) (cb_drop NF ?sub)
        case h9 => exact List.forall_mem_cons.mpr ⟨l6, o3⟩
        case sub =>
          refine List.forall_mem_cons.mpr ⟨by k_mem, List.forall_mem_cons.mpr ⟨by k_mem, List.forall_mem_cons.mpr ⟨by k_mem, fun p hp => ?_⟩⟩⟩
          have hp4 : p ∈ news4 := by rw [hn4, hn3, hn2]; exact List.mem_append_left _ (List.mem_append_left _ (List.mem_append_left _ hp))
          repeat (first | assumption | refine List.Mem.tail _ ?_)
end Mine
end

section
open PySem PySem.W PyProof.Rows PySem.Calls PySem.Spec
set_option maxHeartbeats 0
namespace Mine
theorem start2 {w : World} {P : Program} {lo : List Str} {mean : ExcName → Option Value} {mg mb : Str → Option Value} {dp un : Nat} {gd : Option (List Code)} {cn : Str} {cs : Scope} {L a : Addr} {ccd : Value} {cl : List (Str × Addr)} {outer : List Env} {A₀ : Around} {base h₀ : Heap} {m : Str → Option Value} {news : List (Addr × Obj)} {s : Shared} {Q E : Value → Shared → Prop} {out Bm d x dt T₁ d1 dS nS e1 e2 ps ad pm : Addr} {od : Obj} {acc : Array Value} {c0 n0 : Nat} {pz : Array Value} {k1 k2 k3 k4 k5 k6 k7 k8 k9 k10 k11 k12 k13 k14 k15 k16 k17 t0 t1 t2 : Tok}
  (B : Below A₀ base outer h₀) (F : Fr h₀ L s.heap m) (X : (K w.params).In h₀) (N : News h₀ L s.heap ((ad, od) :: (ps, listOf #[.bool false] 0) :: (e2, listOf #[] 0) :: (e1, listOf acc c0) :: (nS, listOf #[.ref e1, .ref e2] n0) :: (dS, listOf #[.ref d1] 0) :: (d1, listOf #[.ref T₁] 0) :: (T₁, nsT t1 t2) :: (dt, listOf #[] 0) :: (x, instObj 322 d) ::
    (d, tgtD w.params Bm dt dS nS pm ps k1 k2 k3 k4 k5 k6 k7 k8 k9 k10 k11 k12 k13 k14 k15 k16 k17 t0) :: (Bm, bmObj out) :: (out, listOf #[] 0) :: (295, tabObj pz) :: news)) (T : Top P lo mean mg mb h₀) (hk : cs.kind = .function) (hd : dp + 80 < recursionLimit) (hu : un + 900 < cLine)
  (o1 : (295 : Nat) < out ∧ (out : Nat) < Bm ∧ (Bm : Nat) < d ∧ (d : Nat) < x ∧ (x : Nat) < dt ∧ (dt : Nat) < T₁ ∧ (T₁ : Nat) < d1 ∧ (d1 : Nat) < dS ∧ (dS : Nat) < nS ∧ (nS : Nat) < e1 ∧ (e1 : Nat) < e2 ∧ (e2 : Nat) < ps ∧ (ps : Nat) < ad)
  (o2 : AllLt out news) (o3 : ∀ p ∈ news, p.1 ≠ 295)
  {kvs : List (Str × Value)} {rows : List (Str × Str)} (hod : od.IsDictOf (PySem.strKind PySem.Challenge.rw_sw0083_01.row.prog w) kvs) (hkv : KvOf kvs rows) (lo1 : (ad == sysModules) = false) (hr1 : 1 ≤ rows.length) (hr4 : rows.length ≤ 4) {t : Tok}
  (hz : LamOk news 291 71 (Str.ofString "C14NWriterTarget._start.<locals>.<lambda>") pz)
  (hx : Str.ofString "f" ∉ rows.map (·.1)) (hnd : (rows.map (·.1)).Nodup)
  (hw : ∀ x ∈ Str.ofString "f" :: rows.map (·.1), NoClose x ∧ x.length < 1000 ∧ ¬ Txt.slice x none (some 1) = Str.ofString "{")
  {esc : Str → Str} (hesc : ∀ r ∈ rows, EscOf r.2 (esc r.2)) (hel : ∀ r ∈ rows, (esc r.2).length < 1000)
  (hret : ∀ (pz' : Array Value) (news' : List (Addr × Obj)) (rowsZ : List (Str × Str)) (u1 u2 u3 : Tok) (c9 : Nat) (h' : Heap) (tk' : Nat) (gs' : Array GenState) (dr' : Drawn), Bg s.gens gs' → rowsZ.Perm rows → rowsZ.Pairwise (fun a b => ltW a.1 b.1 = true) → (∀ p ∈ news, p ∈ news') → (∀ p ∈ news', p.1 ≠ 295) → (∀ p ∈ news', p ∈ news ∨ ∀ q ∈ news, (q.1 : Nat) < p.1) →
    LamOk news' 291 71 (Str.ofString "C14NWriterTarget._start.<locals>.<lambda>") pz' → Fr h₀ L h' m →
    News h₀ L h' ((out, listOf #[.str (Str.ofString "<" ++ Str.ofString "f") u1, .str (Txt.join (Str.ofString "") (rowsZ.map fun r => attrText (r.1, esc r.2))) u2, .str (Str.ofString ">") u3] c9) :: (295, tabObj pz') :: news') → Q .none ⟨h', gs', dr', tk', s.os⟩) :
  wpAny (model PySem.Challenge.rw_sw0083_01.row.prog w) (ktrTop dp un gd cn cs L a ccd cl outer) (call (.ref 292) [.ref x, .str (Str.ofString "f") t, .ref ad]) Q E s := by
  obtain ⟨p1, p2, p3, p4, p5, p6, p7, p8, p9, p10, p11, p12, p13⟩ := o1
  replace p1 := ltN p1
  replace p2 := ltN p2
  replace p3 := ltN p3
  replace p4 := ltN p4
  replace p5 := ltN p5
  replace p6 := ltN p6
  replace p7 := ltN p7
  replace p8 := ltN p8
  replace p9 := ltN p9
  replace p10 := ltN p10
  replace p11 := ltN p11
  replace p12 := ltN p12
  replace p13 := ltN p13
  k_with_none
  k_with "chain" => first | with_reducible assumption | exact Nat.lt_succ_self _ | (refine Nat.lt_trans ?_ (by with_reducible assumption); k_extra "chain") | ((fail_if_success (show @LT.lt Nat _ _ 295)); refine Nat.lt_succ_of_lt ?_; k_extra "chain")
  k_with "eval Constant int" => refine Mine.const_intN ?_
  k_with "eval Constant str" => refine Mine.const_strN ?_
  k_with "binaryOp Add int int" => refine Mine.add_intN ?_
  k_with "binaryOp Mod int int" => refine Mine.mod_intN (by decide) ?_
  k_with "ktr_room" => (refine Mine.ltOf (by with_reducible assumption) ?_; (try dsimp only [depth_under_make, depth_under_kw, depth_in1, depth_deeper, depth_caller]); repeat (first | with_reducible exact Nat.le_add_right _ _ | with_reducible refine Mine.leK (Eq.refl (_ + _)) ?_))
  k_with "ktr_units" => (refine Mine.ltOf (by with_reducible assumption) ?_; (try dsimp only [units_in1, units_deeper, Around.mark_units, units_caller]); repeat (first | with_reducible exact Nat.le_add_right _ _ | with_reducible refine Mine.leK (Eq.refl (_ + _)) ?_))
  k_with "size_fits" => first | with_reducible assumption | exact Nat.zero_le _ | exact Mine.fitLt (by with_reducible assumption) (by decide) | exact Mine.fitLe (by with_reducible assumption) (by decide) | exact Mine.catF (by k_extra "cat") | exact Mine.catA (by k_extra "cat")
  k_with "cat" => repeat (first | exact Mine.catB1 (by with_reducible assumption) (by decide) | exact Nat.le_trans (by with_reducible assumption) (by decide) | with_reducible refine Mine.catM (Eq.refl (_ + 10000)) ?_ ?_ | ((with_reducible show (Str.ofString _).length ≤ _); decide) | ((with_reducible show Str.empty.length ≤ _); decide))
  k_with "And" => ((first | (with_reducible show PySem.Str.length (_ ++ _) ≤ sizeLine ∧ _) | ((fail_if_success (with_reducible show _ ∧ _)); dsimp only; (with_reducible show PySem.Str.length (_ ++ _) ≤ sizeLine ∧ _))); refine ⟨Mine.catF (by k_extra "cat"), ?_⟩)
  k_with "andlt" => first | with_reducible assumption | exact (by with_reducible assumption : (@LT.lt Nat _ _ _) ∧ _).1 | exact (by with_reducible assumption : (@LT.lt Nat _ _ _) ∧ (@LT.lt Nat _ _ _) ∧ _).2.1 | exact (by with_reducible assumption : (@LT.lt Nat _ _ _) ∧ (@LT.lt Nat _ _ _) ∧ (@LT.lt Nat _ _ _) ∧ _).2.2.1 | exact (by with_reducible assumption : (@LT.lt Nat _ _ _) ∧ (@LT.lt Nat _ _ _) ∧ (@LT.lt Nat _ _ _) ∧ (@LT.lt Nat _ _ _) ∧ _).2.2.2.1 | exact (by with_reducible assumption : (@LT.lt Nat _ _ _) ∧ (@LT.lt Nat _ _ _) ∧ (@LT.lt Nat _ _ _) ∧ (@LT.lt Nat _ _ _) ∧ (@LT.lt Nat _ _ _) ∧ _).2.2.2.2.1 | exact (by with_reducible assumption : (@LT.lt Nat _ _ _) ∧ (@LT.lt Nat _ _ _) ∧ (@LT.lt Nat _ _ _) ∧ (@LT.lt Nat _ _ _) ∧ (@LT.lt Nat _ _ _) ∧ (@LT.lt Nat _ _ _) ∧ _).2.2.2.2.2.1 | exact (by with_reducible assumption : (@LT.lt Nat _ _ _) ∧ (@LT.lt Nat _ _ _) ∧ (@LT.lt Nat _ _ _) ∧ (@LT.lt Nat _ _ _) ∧ (@LT.lt Nat _ _ _) ∧ (@LT.lt Nat _ _ _) ∧ (@LT.lt Nat _ _ _) ∧ _).2.2.2.2.2.2.1 | exact (by with_reducible assumption : (@LT.lt Nat _ _ _) ∧ (@LT.lt Nat _ _ _) ∧ (@LT.lt Nat _ _ _) ∧ (@LT.lt Nat _ _ _) ∧ (@LT.lt Nat _ _ _) ∧ (@LT.lt Nat _ _ _) ∧ (@LT.lt Nat _ _ _) ∧ (@LT.lt Nat _ _ _) ∧ _).2.2.2.2.2.2.2.1 | exact (by with_reducible assumption : (@LT.lt Nat _ _ _) ∧ (@LT.lt Nat _ _ _) ∧ (@LT.lt Nat _ _ _) ∧ (@LT.lt Nat _ _ _) ∧ (@LT.lt Nat _ _ _) ∧ (@LT.lt Nat _ _ _) ∧ (@LT.lt Nat _ _ _) ∧ (@LT.lt Nat _ _ _) ∧ (@LT.lt Nat _ _ _) ∧ _).2.2.2.2.2.2.2.2.1
  k_with "k_ne" => (refine neN ?_; (try dsimp only); first | with_reducible assumption | exact Ne.symm (by with_reducible assumption) | (refine Mine.neGt ?_; k_extra "andlt") | (refine Nat.ne_of_lt ?_; k_extra "andlt") | omega)
  k_with "tbn_find" => exact leAll (by assumption) (fun p hp => by repeat (first | exact hp | refine List.Mem.tail _ ?_))
  k_with "k_ne" => (refine neN ?_; (try dsimp only); first | with_reducible assumption | exact Ne.symm (by with_reducible assumption) | ((fail_if_success (refine (neN (a := 987654321) ?_))); (fail_if_success (refine (neN (b := 987654321) ?_))); first | (refine neGt ?_; k_extra "chain") | (refine Nat.ne_of_lt ?_; k_extra "chain") | k_extra "ne") | omega)
  k_with "k_mem" => first | exact List.Mem.head _ | (refine' List.Mem.tail _ ?_; k_mem) | assumption
  k_with "k_all" => first | with_reducible assumption | (tbn_letter; refine tbn_neAll (allLt_up ?_ (by assumption)); (try dsimp only); first | exact Nat.le_refl _ | (refine Nat.le_of_lt ?_; k_extra "chain") | omega)
  k_with "truthy ref" => (refine Hold.out ?_)
  k_with "call ref" => ((with_reducible show wpAny _ _ (call (Value.ref 298) _) _ _ _); refine Hold.out ?_)
  have hdS : ∀ p ∈ news, p.1 ≠ dS := fun p hp => Nat.ne_of_lt (Nat.lt_trans (lt_of_all o2 p hp) (show @LT.lt Nat _ out dS by omega))
  revert X; k_fill; intro X
  refine wpAny_call ?_
  k_dflt (refine' code_def ?k1 ?k2 ?k3 ?k4 ?k5 ?kA ?kF ?kK ?k6 ?k7 ?k8 ?k9 ?kB ?_ ?c2 ?c3 ?c4 ?c5; (case kA => exact rfl); (case kF => exact rfl); (case kK => first | exact rfl | assumption); (case k1 => k_asm); (case k2 => k_asm); (case k3 => k_asm); (case k4 => k_asm); (case k5 => k_asm); (case k6 => k_is); (case k7 => k_is); (case k8 => ktr_room); (case k9 => first | exact BindsTo.of_eq rfl | (refine' kp_binds ?kx ?ke; (case kx => k_in); (case ke => exact fun _ => rfl))); (case c5 => decide); (case kB => exact locs rfl); (case c2 => exact rfl); (case c3 => exact rfl); (case c4 => exact rfl); k_whole)
  intro g' L' h' FG' F' N' B' X' T'
  try dsimp only
  try k_lift B'
  try k_fold
  k_steps
  unfold Hold
  refine wpAny_truthy_list (items := #[]) (News.isList (by k_asm) (by k_mem)) (by decide) ?_
  try dsimp only
  k_steps
  unfold Hold
  rename Fr _ _ _ _ => FE
  rename News _ _ _ _ => NE
  obtain ⟨nn, enn⟩ := headAddr NE
  subst enn
  have hnn : @LT.lt Nat _ ad nn := by first | assumption | exact (by assumption : _ ∧ _).1
  refine start_ (h₀ := g') B' FE X' NE T' (by rfl) (by ktr_room) (by ktr_units) ⟨p1, p2, p3, p4, p5, p6, p7, p8, p9, p10, p11, p12, p13, hnn⟩ o2 o3 hod hkv lo1 hr1 hr4 hz hx hnd hw hesc hel ?_
  intro pz' news' rowsZ u1 u2 u3 c9 h9 tk9 gs9 dr9 r0 r1 r2 r3 r4 r4' r5 F9 N9
  try dsimp only at F9 N9 ⊢
  k_steps
  rename News _ _ _ _ => NF
  exact hret _ _ _ _ _ _ _ _ _ _ _ r0 r1 r2 r3 r4 r4' r5 (by k_asm) NF
end Mine
end

section
open PySem PySem.W PyProof.Rows PySem.Calls PySem.Spec
set_option maxHeartbeats 0
namespace Mine
theorem target_new {w : World} {P : Program} {lo : List Str} {mean : ExcName → Option Value} {mg mb : Str → Option Value} {dp un : Nat} {gd : Option (List Code)} {cn : Str} {cs : Scope} {L a : Addr} {ccd : Value} {cl : List (Str × Addr)} {outer : List Env} {A₀ : Around} {base h₀ : Heap} {m : Str → Option Value} {news : List (Addr × Obj)} {s : Shared} {Q E : Value → Shared → Prop}
  (B : Below A₀ base outer h₀) (F : Fr h₀ L s.heap m) (X : (K w.params).In h₀) (N : News h₀ L s.heap news) (T : Top P lo mean mg mb h₀) (hk : cs.kind = .function) (hd : dp + 20 < recursionLimit) (hu : un + 200 < cLine) {B : Addr}
  (hret : ∀ x d dt T d1 dS nS e1 e2 pm ps acc c0 n0 k1 k2 k3 k4 k5 k6 k7 k8 k9 k10 k11 k12 k13 k14 k15 k16 k17 t0 t1 t2 h' tk', Fr h₀ L h' m →
    News h₀ L h' ((ps, listOf #[.bool false] 0) :: (e2, listOf #[] 0) :: (e1, listOf acc c0) :: (nS, listOf #[.ref e1, .ref e2] n0) :: (dS, listOf #[.ref d1] 0) :: (d1, listOf #[.ref T] 0) :: (T, nsT t1 t2) :: (dt, listOf #[] 0) :: (x, instObj 322 d) :: (d, tgtD w.params B dt dS nS pm ps k1 k2 k3 k4 k5 k6 k7 k8 k9 k10 k11 k12 k13 k14 k15 k16 k17 t0) :: news) →
    ((d : Nat) < x ∧ (x : Nat) < dt ∧ (dt : Nat) < T ∧ (T : Nat) < d1 ∧ (d1 : Nat) < dS ∧ (dS : Nat) < nS ∧ (nS : Nat) < e1 ∧ (e1 : Nat) < e2 ∧ (e2 : Nat) < ps) → AllLt d news → Q (.ref x) { s with heap := h', toks := tk' }) :
  wpAny (model PySem.Challenge.rw_sw0083_01.row.prog w) (ktrTop dp un gd cn cs L a ccd cl outer) (call (.ref 322) [.ref B]) Q E s := by
  k_with_none
  k_with "chain" => first | with_reducible assumption | exact Nat.lt_succ_self _ | (refine Nat.lt_trans ?_ (by with_reducible assumption); k_extra "chain") | ((fail_if_success (show @LT.lt Nat _ _ 295)); refine Nat.lt_succ_of_lt ?_; k_extra "chain")
  k_with "eval Constant int" => refine Mine.const_intN ?_
  k_with "eval Constant str" => refine Mine.const_strN ?_
  k_with "binaryOp Add int int" => refine Mine.add_intN ?_
  k_with "binaryOp Mod int int" => refine Mine.mod_intN (by decide) ?_
  k_with "ktr_room" => (refine Mine.ltOf (by with_reducible assumption) ?_; (try dsimp only [depth_under_make, depth_under_kw, depth_in1, depth_deeper, depth_caller]); repeat (first | with_reducible exact Nat.le_add_right _ _ | with_reducible refine Mine.leK (Eq.refl (_ + _)) ?_))
  k_with "ktr_units" => (refine Mine.ltOf (by with_reducible assumption) ?_; (try dsimp only [units_in1, units_deeper, Around.mark_units, units_caller]); repeat (first | with_reducible exact Nat.le_add_right _ _ | with_reducible refine Mine.leK (Eq.refl (_ + _)) ?_))
  k_with "size_fits" => first | with_reducible assumption | exact Nat.zero_le _ | exact Mine.fitLt (by with_reducible assumption) (by decide) | exact Mine.fitLe (by with_reducible assumption) (by decide) | exact Mine.catF (by k_extra "cat") | exact Mine.catA (by k_extra "cat")
  k_with "cat" => repeat (first | exact Mine.catB1 (by with_reducible assumption) (by decide) | exact Nat.le_trans (by with_reducible assumption) (by decide) | with_reducible refine Mine.catM (Eq.refl (_ + 10000)) ?_ ?_ | ((with_reducible show (Str.ofString _).length ≤ _); decide) | ((with_reducible show Str.empty.length ≤ _); decide))
  k_with "And" => ((first | (with_reducible show PySem.Str.length (_ ++ _) ≤ sizeLine ∧ _) | ((fail_if_success (with_reducible show _ ∧ _)); dsimp only; (with_reducible show PySem.Str.length (_ ++ _) ≤ sizeLine ∧ _))); refine ⟨Mine.catF (by k_extra "cat"), ?_⟩)
  k_with "andlt" => first | with_reducible assumption | exact (by with_reducible assumption : (@LT.lt Nat _ _ _) ∧ _).1 | exact (by with_reducible assumption : (@LT.lt Nat _ _ _) ∧ (@LT.lt Nat _ _ _) ∧ _).2.1 | exact (by with_reducible assumption : (@LT.lt Nat _ _ _) ∧ (@LT.lt Nat _ _ _) ∧ (@LT.lt Nat _ _ _) ∧ _).2.2.1 | exact (by with_reducible assumption : (@LT.lt Nat _ _ _) ∧ (@LT.lt Nat _ _ _) ∧ (@LT.lt Nat _ _ _) ∧ (@LT.lt Nat _ _ _) ∧ _).2.2.2.1 | exact (by with_reducible assumption : (@LT.lt Nat _ _ _) ∧ (@LT.lt Nat _ _ _) ∧ (@LT.lt Nat _ _ _) ∧ (@LT.lt Nat _ _ _) ∧ (@LT.lt Nat _ _ _) ∧ _).2.2.2.2.1 | exact (by with_reducible assumption : (@LT.lt Nat _ _ _) ∧ (@LT.lt Nat _ _ _) ∧ (@LT.lt Nat _ _ _) ∧ (@LT.lt Nat _ _ _) ∧ (@LT.lt Nat _ _ _) ∧ (@LT.lt Nat _ _ _) ∧ _).2.2.2.2.2.1 | exact (by with_reducible assumption : (@LT.lt Nat _ _ _) ∧ (@LT.lt Nat _ _ _) ∧ (@LT.lt Nat _ _ _) ∧ (@LT.lt Nat _ _ _) ∧ (@LT.lt Nat _ _ _) ∧ (@LT.lt Nat _ _ _) ∧ (@LT.lt Nat _ _ _) ∧ _).2.2.2.2.2.2.1 | exact (by with_reducible assumption : (@LT.lt Nat _ _ _) ∧ (@LT.lt Nat _ _ _) ∧ (@LT.lt Nat _ _ _) ∧ (@LT.lt Nat _ _ _) ∧ (@LT.lt Nat _ _ _) ∧ (@LT.lt Nat _ _ _) ∧ (@LT.lt Nat _ _ _) ∧ (@LT.lt Nat _ _ _) ∧ _).2.2.2.2.2.2.2.1 | exact (by with_reducible assumption : (@LT.lt Nat _ _ _) ∧ (@LT.lt Nat _ _ _) ∧ (@LT.lt Nat _ _ _) ∧ (@LT.lt Nat _ _ _) ∧ (@LT.lt Nat _ _ _) ∧ (@LT.lt Nat _ _ _) ∧ (@LT.lt Nat _ _ _) ∧ (@LT.lt Nat _ _ _) ∧ (@LT.lt Nat _ _ _) ∧ _).2.2.2.2.2.2.2.2.1
  k_with "k_ne" => (refine neN ?_; (try dsimp only); first | with_reducible assumption | exact Ne.symm (by with_reducible assumption) | (refine Mine.neGt ?_; k_extra "andlt") | (refine Nat.ne_of_lt ?_; k_extra "andlt") | omega)
  k_with "tbn_find" => exact leAll (by assumption) (fun p hp => by repeat (first | exact hp | refine List.Mem.tail _ ?_))
  k_with "k_ne" => (refine neN ?_; (try dsimp only); first | with_reducible assumption | exact Ne.symm (by with_reducible assumption) | ((fail_if_success (refine (neN (a := 987654321) ?_))); (fail_if_success (refine (neN (b := 987654321) ?_))); first | (refine neGt ?_; k_extra "chain") | (refine Nat.ne_of_lt ?_; k_extra "chain") | k_extra "ne") | omega)
  k_with "k_mem" => first | exact List.Mem.head _ | (refine' List.Mem.tail _ ?_; k_mem) | assumption
  k_with "eval Name" => (k_here; (with_reducible rename Fr _ _ _ _ => kw_kF); k_dflt (refine' ldK kw_kF ?k2 ?_ ?a ?b ?c; (case k2 => with_reducible assumption); (case a => decide +kernel); (case b => rfl); (case c => decide +kernel); k_whole))
  k_with "eval Name" => (k_here; (with_reducible rename Fr _ _ _ _ => kw_kF); k_dflt (refine' name_K kw_kF ?k1 ?k2 ?k3 ?_ ?a ?b ?c; (case k1 => k_asm); (case k2 => k_asm); (case k3 => k_is); (case a => rfl); (case b => exact kindOf_of_beq (by decide +kernel)); (case c => decide +kernel); k_whole))
  k_with "eval Name" => (k_here; (with_reducible rename Fr _ _ _ _ => kw_kF); k_dflt (refine' name_B kw_kF ?k1 ?k2 ?k3 ?k4 ?k5 ?_ ?a ?b ?c; (case k1 => k_asm); (case k2 => k_asm); (case k3 => k_is); (case k4 => boot_by_name); (case k5 => decide); (case a => rfl); (case b => exact kindOf_of_beq (by decide +kernel)); (case c => decide +kernel); k_whole))
  k_with "getMethod ref" => ((with_reducible show wpAny _ _ (getMethod (Value.ref 216) _ _) _ _ _); refine ns_method (by exact Frag.In.keeps (by k_asm) (Fr.keep (by k_asm))) ?_)
  k_with "call builtin:dict.items" => ((with_reducible show wpAny _ _ (call _ [Value.ref 216]) _ _ _); (refine ns_view (by k_asm) (by k_asm) (by exact Frag.In.keeps (by k_asm) (Fr.keep (by k_asm))) ?_); intro kw_D' kw_h' kw_F' kw_N' kw_l1; (try k_lt kw_l1))
  k_with "call type:list" => ((k_dflt (refine ns_list (by rfl) (by k_asm) (by k_asm) (by exact Frag.In.keeps (by k_asm) (Fr.keep (by k_asm))) (by k_mem) ?_)); intro kw_D' kw_ac' kw_c' kw_h' kw_tk' kw_F' kw_N' kw_l1; (try k_lt kw_l1))
  revert X; k_fill; intro X
  k_dflt (refine' call_cls ?k1 ?k2 ?k3 ?k4 ?k5 ?k6 ?_; (case k1 => k_asm); (case k2 => k_asm); (case k3 => k_asm); (case k4 => k_is); (case k5 => k_is); (case k6 => k_is); k_whole)
  intro x' d' h' F' N' l1 l2
  have hal : Hold (∀ p ∈ news, p.1 < d') := l1
  try k_lt l1
  try k_lt2 l2
  try k_sweep
  k_dflt (refine' code_def ?k1 ?k2 ?k3 ?k4 ?k5 ?kA ?kF ?kK ?k6 ?k7 ?k8 ?k9 ?kB ?_ ?c2 ?c3 ?c4 ?c5; (case kA => exact rfl); (case kF => exact rfl); (case kK => first | exact rfl | assumption); (case k1 => k_asm); (case k2 => k_asm); (case k3 => k_asm); (case k4 => k_asm); (case k5 => k_asm); (case k6 => k_is); (case k7 => k_is); (case k8 => ktr_room); (case k9 => (refine' kp_binds ?kx ?ke; (case kx => k_in); (case ke => exact fun _ => rfl))); (case c5 => decide); (case kB => exact locs rfl); (case c2 => exact rfl); (case c3 => exact rfl); (case c4 => exact rfl); k_whole)
  intro g' L' h' FG' F' N' B' X' T'
  try dsimp only
  try k_lift B'
  try k_fold
  have f1 := mfact F' (Str.ofString "self") (.ref x') (by kernel_rfl)
  have f2 := mfact F' (Str.ofString "write") (.ref B) (by kernel_rfl)
  have f3 := mfact F' (Str.ofString "with_comments") (.bool false) (by kernel_rfl)
  have f4 := mfact F' (Str.ofString "strip_text") (.bool false) (by kernel_rfl)
  have f5 := mfact F' (Str.ofString "rewrite_prefixes") (.bool false) (by kernel_rfl)
  have f6 := mfact F' (Str.ofString "qname_aware_tags") .none (by kernel_rfl)
  have f7 := mfact F' (Str.ofString "qname_aware_attrs") .none (by kernel_rfl)
  have f8 := mfact F' (Str.ofString "exclude_attrs") .none (by kernel_rfl)
  have f9 := mfact F' (Str.ofString "exclude_tags") .none (by kernel_rfl)
  k_steps
  rename News _ _ _ _ => N9
  refine' hret _ _ _ _ _ _ _ _ _ _ _ _ _ _ _ _ _ _ _ _ _ _ _ _ _ _ _ _ _ _ _ _ _ _ _ _ ?F (cb_drop N9 ?sub) ?ord ?all
  case sub =>
    refine' List.forall_mem_cons.mpr ⟨?a1, List.forall_mem_cons.mpr ⟨?a2, List.forall_mem_cons.mpr ⟨?a3, List.forall_mem_cons.mpr ⟨?a4, List.forall_mem_cons.mpr ⟨?a5, List.forall_mem_cons.mpr ⟨?a6, List.forall_mem_cons.mpr ⟨?a7, List.forall_mem_cons.mpr ⟨?a8, List.forall_mem_cons.mpr ⟨?a9, List.forall_mem_cons.mpr ⟨?a10, ?_⟩⟩⟩⟩⟩⟩⟩⟩⟩⟩
    case a9 => k_mem
    case a10 => k_mem
    case a8 => k_mem
    case a5 => k_mem
    case a6 => k_mem
    case a7 => k_mem
    case a4 => k_mem
    case a3 => k_mem
    case a2 => k_mem
    case a1 => k_mem
    intro p hp
    repeat (first | exact hp | refine List.Mem.tail _ ?_)
  case F => k_asm
  case ord => refine ⟨?_, ?_, ?_, ?_, ?_, ?_, ?_, ?_, ?_⟩ <;> first | assumption | (show @LT.lt Nat _ _ _; walk_at "chain") | exact (by assumption : _ ∧ _).1 | exact (by assumption : _ ∧ _ ∧ _).2.1
  case all => exact allLt_of hal.out
end Mine
end

section
open PySem PySem.W PyProof.Rows PySem.Calls PySem.Spec
set_option maxHeartbeats 0
namespace Mine
theorem headAddr2 {h₀ h : Heap} {L x : Addr} {p : Addr × Obj} {o : Obj} {l : List (Addr × Obj)} (_ : News h₀ L h (p :: (x, o) :: l)) : ∃ y : Addr, y = x := ⟨x, rfl⟩
theorem ltB3 {x y a : Addr} {o o' : Obj} {l : List (Addr × Obj)} (h : ∀ p ∈ ((x, o) :: (y, o') :: l : List (Addr × Obj)), p.1 < a) : @LT.lt Nat _ x a ∧ @LT.lt Nat _ y a ∧ AllLt a l := ⟨h _ (.head _), h _ (.tail _ (.head _)), allLt_of fun p hp => h p (.tail _ (.tail _ hp))⟩
theorem ltB2 {y a : Addr} {o' : Obj} {l : List (Addr × Obj)} (h : ∀ p ∈ ((y, o') :: l : List (Addr × Obj)), p.1 < a) : @LT.lt Nat _ y a ∧ AllLt a l := ⟨h _ (.head _), allLt_of fun p hp => h p (.tail _ hp)⟩
theorem canon {w : World} {P : Program} {lo : List Str} {mean : ExcName → Option Value} {mg mb : Str → Option Value} {dp un : Nat} {gd : Option (List Code)} {cn : Str} {cs : Scope} {L a : Addr} {ccd : Value} {cl : List (Str × Addr)} {outer : List Env} {A₀ : Around} {base h₀ : Heap} {m : Str → Option Value} {news : List (Addr × Obj)} {s : Shared} {Q E : Value → Shared → Prop} {pA : Addr} {its : Array Value} {n : Nat} {pz : Array Value}
  (B : Below A₀ base outer h₀) (F : Fr h₀ L s.heap m) (X : (K w.params).In h₀) (N : News h₀ L s.heap ((295, tabObj pz) :: news)) (T : Top P lo mean mg mb h₀) (hk : cs.kind = .function) (hd : dp + 100 < recursionLimit) (hu : un + 1200 < cLine)
  (mp : (pA, listOf its n) ∈ news) (o3 : ∀ p ∈ news, p.1 ≠ 295)
  {rows : List (Str × Str)} (hR : Rows news its rows) (hr1 : 1 ≤ rows.length) (hr4 : rows.length ≤ 4)
  (hz : LamOk news 291 71 (Str.ofString "C14NWriterTarget._start.<locals>.<lambda>") pz)
  (hx : Str.ofString "f" ∉ rows.map (·.1)) (hnd : (rows.map (·.1)).Nodup)
  (hw : ∀ x ∈ Str.ofString "f" :: rows.map (·.1), NoClose x ∧ x.length < 1000 ∧ ¬ Txt.slice x none (some 1) = Str.ofString "{")
  {esc : Str → Str} (hesc : ∀ r ∈ rows, EscOf r.2 (esc r.2)) (hel : ∀ r ∈ rows, (esc r.2).length < 1000)
  (hret : ∀ (pz' : Array Value) (news' : List (Addr × Obj)) (rowsZ : List (Str × Str)) (u : Tok) (h' : Heap) (tk' : Nat) (gs' : Array GenState) (dr' : Drawn), Bg s.gens gs' → rowsZ.Perm rows → rowsZ.Pairwise (fun a b => ltW a.1 b.1 = true) → (∀ p ∈ news, p ∈ news') → (∀ p ∈ news', p.1 ≠ 295) → (∀ p ∈ news', p ∈ news ∨ ∀ q ∈ news, (q.1 : Nat) < p.1) →
    LamOk news' 291 71 (Str.ofString "C14NWriterTarget._start.<locals>.<lambda>") pz' → Fr h₀ L h' m →
    News h₀ L h' ((295, tabObj pz') :: news') → Q (.str (Txt.join (Str.ofString "") [Str.ofString "<" ++ Str.ofString "f", Txt.join (Str.ofString "") (rowsZ.map fun r => attrText (r.1, esc r.2)), Str.ofString ">"]) u) ⟨h', gs', dr', tk', s.os⟩) :
  wpAny (model PySem.Challenge.rw_sw0083_01.row.prog w) (ktrTop dp un gd cn cs L a ccd cl outer) (call (.ref 361) [.ref pA]) Q E s := by
  k_with_none
  k_with "chain" => first | with_reducible assumption | exact Nat.lt_succ_self _ | (refine Nat.lt_trans ?_ (by with_reducible assumption); k_extra "chain") | ((fail_if_success (show @LT.lt Nat _ _ 295)); refine Nat.lt_succ_of_lt ?_; k_extra "chain")
  k_with "eval Constant int" => refine Mine.const_intN ?_
  k_with "eval Constant str" => refine Mine.const_strN ?_
  k_with "binaryOp Add int int" => refine Mine.add_intN ?_
  k_with "binaryOp Mod int int" => refine Mine.mod_intN (by decide) ?_
  k_with "ktr_room" => (refine Mine.ltOf (by with_reducible assumption) ?_; (try dsimp only [depth_under_make, depth_under_kw, depth_in1, depth_deeper, depth_caller]); repeat (first | with_reducible exact Nat.le_add_right _ _ | with_reducible refine Mine.leK (Eq.refl (_ + _)) ?_))
  k_with "ktr_units" => (refine Mine.ltOf (by with_reducible assumption) ?_; (try dsimp only [units_in1, units_deeper, Around.mark_units, units_caller]); repeat (first | with_reducible exact Nat.le_add_right _ _ | with_reducible refine Mine.leK (Eq.refl (_ + _)) ?_))
  k_with "size_fits" => first | with_reducible assumption | exact Nat.zero_le _ | exact Mine.fitLt (by with_reducible assumption) (by decide) | exact Mine.fitLe (by with_reducible assumption) (by decide) | exact Mine.catF (by k_extra "cat") | exact Mine.catA (by k_extra "cat")
  k_with "cat" => repeat (first | exact Mine.catB1 (by with_reducible assumption) (by decide) | exact Nat.le_trans (by with_reducible assumption) (by decide) | with_reducible refine Mine.catM (Eq.refl (_ + 10000)) ?_ ?_ | ((with_reducible show (Str.ofString _).length ≤ _); decide) | ((with_reducible show Str.empty.length ≤ _); decide))
  k_with "And" => ((first | (with_reducible show PySem.Str.length (_ ++ _) ≤ sizeLine ∧ _) | ((fail_if_success (with_reducible show _ ∧ _)); dsimp only; (with_reducible show PySem.Str.length (_ ++ _) ≤ sizeLine ∧ _))); refine ⟨Mine.catF (by k_extra "cat"), ?_⟩)
  k_with "andlt" => first | with_reducible assumption | exact (by with_reducible assumption : (@LT.lt Nat _ _ _) ∧ _).1 | exact (by with_reducible assumption : (@LT.lt Nat _ _ _) ∧ (@LT.lt Nat _ _ _) ∧ _).2.1 | exact (by with_reducible assumption : (@LT.lt Nat _ _ _) ∧ (@LT.lt Nat _ _ _) ∧ (@LT.lt Nat _ _ _) ∧ _).2.2.1 | exact (by with_reducible assumption : (@LT.lt Nat _ _ _) ∧ (@LT.lt Nat _ _ _) ∧ (@LT.lt Nat _ _ _) ∧ (@LT.lt Nat _ _ _) ∧ _).2.2.2.1 | exact (by with_reducible assumption : (@LT.lt Nat _ _ _) ∧ (@LT.lt Nat _ _ _) ∧ (@LT.lt Nat _ _ _) ∧ (@LT.lt Nat _ _ _) ∧ (@LT.lt Nat _ _ _) ∧ _).2.2.2.2.1 | exact (by with_reducible assumption : (@LT.lt Nat _ _ _) ∧ (@LT.lt Nat _ _ _) ∧ (@LT.lt Nat _ _ _) ∧ (@LT.lt Nat _ _ _) ∧ (@LT.lt Nat _ _ _) ∧ (@LT.lt Nat _ _ _) ∧ _).2.2.2.2.2.1 | exact (by with_reducible assumption : (@LT.lt Nat _ _ _) ∧ (@LT.lt Nat _ _ _) ∧ (@LT.lt Nat _ _ _) ∧ (@LT.lt Nat _ _ _) ∧ (@LT.lt Nat _ _ _) ∧ (@LT.lt Nat _ _ _) ∧ (@LT.lt Nat _ _ _) ∧ _).2.2.2.2.2.2.1 | exact (by with_reducible assumption : (@LT.lt Nat _ _ _) ∧ (@LT.lt Nat _ _ _) ∧ (@LT.lt Nat _ _ _) ∧ (@LT.lt Nat _ _ _) ∧ (@LT.lt Nat _ _ _) ∧ (@LT.lt Nat _ _ _) ∧ (@LT.lt Nat _ _ _) ∧ (@LT.lt Nat _ _ _) ∧ _).2.2.2.2.2.2.2.1 | exact (by with_reducible assumption : (@LT.lt Nat _ _ _) ∧ (@LT.lt Nat _ _ _) ∧ (@LT.lt Nat _ _ _) ∧ (@LT.lt Nat _ _ _) ∧ (@LT.lt Nat _ _ _) ∧ (@LT.lt Nat _ _ _) ∧ (@LT.lt Nat _ _ _) ∧ (@LT.lt Nat _ _ _) ∧ (@LT.lt Nat _ _ _) ∧ _).2.2.2.2.2.2.2.2.1
  k_with "k_ne" => (refine neN ?_; (try dsimp only); first | with_reducible assumption | exact Ne.symm (by with_reducible assumption) | (refine Mine.neGt ?_; k_extra "andlt") | (refine Nat.ne_of_lt ?_; k_extra "andlt") | omega)
  k_with "tbn_find" => exact leAll (by assumption) (fun p hp => by repeat (first | exact hp | refine List.Mem.tail _ ?_))
  k_with "k_ne" => (refine neN ?_; (try dsimp only); first | with_reducible assumption | exact Ne.symm (by with_reducible assumption) | ((fail_if_success (refine (neN (a := 987654321) ?_))); (fail_if_success (refine (neN (b := 987654321) ?_))); first | (refine neGt ?_; k_extra "chain") | (refine Nat.ne_of_lt ?_; k_extra "chain") | k_extra "ne") | omega)
  k_with "k_mem" => first | exact List.Mem.head _ | (refine' List.Mem.tail _ ?_; k_mem) | assumption
  k_with "k_all" => first | with_reducible assumption | (tbn_letter; refine tbn_neAll (allLt_up ?_ (by assumption)); (try dsimp only); first | exact Nat.le_refl _ | (refine Nat.le_of_lt ?_; k_extra "chain") | omega)
  k_with "getAttr ref" => (k_here; (with_reducible show wpAny _ _ (getAttr (Value.ref _) (Str.ofString "append") _) _ _ _); k_dflt (refine' bm_attr_K ?F ?N ?m ?_; (case F => k_asm); (case N => k_asm); (case m => k_mem)); intro kw_B kw_h kw_F kw_N kw_l; (try k_lt kw_l))
  k_with "eval Name" => (k_here; k_dflt (refine' ldK ?k1 ?k2 ?_; (case k1 => k_asm); (case k2 => exact rfl); k_whole))
  k_with "call ref" => (refine Hold.out ?_)
  k_with "call type:dict" => (refine Hold.out ?_)
  k_with "call builtin:str.join" => (refine Hold.out ?_)
  revert X; k_fill; intro X
  refine wpAny_call ?_
  k_dflt (refine' code_def ?k1 ?k2 ?k3 ?k4 ?k5 ?kA ?kF ?kK ?k6 ?k7 ?k8 ?k9 ?kB ?_ ?c2 ?c3 ?c4 ?c5; (case kA => exact rfl); (case kF => exact rfl); (case kK => first | exact rfl | assumption); (case k1 => k_asm); (case k2 => k_asm); (case k3 => k_asm); (case k4 => k_asm); (case k5 => k_asm); (case k6 => k_is); (case k7 => k_is); (case k8 => ktr_room); (case k9 => first | exact BindsTo.of_eq rfl | (refine' kp_binds ?kx ?ke; (case kx => k_in); (case ke => exact fun _ => rfl))); (case c5 => decide); (case kB => exact locs rfl); (case c2 => exact rfl); (case c3 => exact rfl); (case c4 => exact rfl); k_whole)
  intro g' L' h' FG' F' N' B' X' T'
  try dsimp only
  try k_lift B'
  try k_fold
  k_steps
  unfold Hold
  rename News _ _ _ _ => NE
  obtain ⟨Bm, eB⟩ := headAddr NE
  obtain ⟨out, eo⟩ := headAddr2 NE
  subst eB eo
  have lB : (out : Nat) < Bm ∧ (295 : Nat) < Bm ∧ AllLt Bm news := by first | assumption | (exact ltB3 (by assumption))
  have lo : (295 : Nat) < out ∧ AllLt out news := by first | assumption | (exact ltB2 (by assumption))
  refine target_new (h₀ := g') B' (by k_asm) X' NE T' (by rfl) (by ktr_room) (by ktr_units) ?_
  intro x d dt T₁ d1 dS nS e1 e2 pm ps acc c0 n0 k1 k2 k3 k4 k5 k6 k7 k8 k9 k10 k11 k12 k13 k14 k15 k16 k17 t0 t1 t2 h9 tk9 F' N' ord hal
  dsimp only [AllLt] at hal
  try dsimp only at F' N' ⊢
  k_steps
  unfold Hold
  rename News _ _ _ _ => N'
  refine dict_pairs (s := ⟨_, _, _, _, _⟩) (by rfl) (by k_asm) N' T'.nolimit (by k_mem : (pA, listOf its n) ∈ _) (hR.sub fun p hp => by repeat (first | exact hp | refine List.Mem.tail _ ?_)) hnd (by omega) ?_
  intro ad h10 tk10 od kvs F' N' la lo1 hod hkv
  have la1 := la (ps, _) (.head _)
  try dsimp only at F' N' la1 ⊢
  k_steps
  unfold Hold
  rename News _ _ _ _ => N'
  obtain ⟨q4, q5, q6, q7, q8, q9, q10, q11, q12⟩ := ord
  refine start2 (h₀ := g') (s := ⟨_, _, _, _, _⟩) B' (by k_asm) X' N' T' (by rfl) (by ktr_room) (by ktr_units) ⟨lo.1, lB.1, hal.1, q4, q5, q6, q7, q8, q9, q10, q11, q12, la1⟩ lo.2 o3 hod hkv lo1 hr1 hr4 hz hx hnd hw hesc hel ?_
  intro pz' news' rowsZ u1 u2 u3 c9 h11 tk11 gs11 dr11 r0 r1 r2 r3 r4 r4' r5 F' N'
  try dsimp only at F' N' ⊢
  k_steps
  unfold Hold
  have hal2 : ∀ r ∈ rowsZ.map fun r => attrText (r.1, esc r.2), r.length ≤ 2004 := by
    intro y hy
    obtain ⟨r, hr, rfl⟩ := List.mem_map.mp hy
    have hrr : r ∈ rows := r1.mem_iff.mp hr
    exact attr_len (hw r.1 (.tail _ (List.mem_map.mpr ⟨r, hrr, rfl⟩))).2.1 (hel r hrr)
  have hjl := join_len (sep := Str.ofString "") hal2
  have e8 : (Str.ofString "").length = 0 := by decide
  have e9 : (Str.ofString "<" ++ Str.ofString "f").length = 2 := by decide
  have e10 : (Str.ofString ">").length = 1 := by decide
  rw [List.length_map, r1.length_eq, e8] at hjl
  have hjl := Nat.le_trans hjl (Nat.mul_le_mul_right (0 + 2004) hr4)
  refine join_list (News.isList N' (.head _)) (.cons _ _ (.cons _ _ (.cons _ _ .nil))) (by simp only [List.map_cons, List.map_nil, List.sum_cons, List.sum_nil, List.length_cons, List.length_nil, e8, e9, e10]; omega) ?_
  intro u k
  try dsimp only
  k_steps
  rename News _ _ _ _ => NF
  exact hret _ _ _ _ _ _ _ _ r0 r1 r2 r3 r4 r4' r5 (by k_asm) (cb_drop NF fun p hp => .tail _ hp)
end Mine
end

section
open PySem PySem.W PyProof.Rows PySem.Calls PySem.Spec
namespace Mine
noncomputable abbrev lawM (mr : Str → Option Value) (tb sA vA wA tA hA : Addr) (i : Int) (tt : Tok) (vp vt vx : Option Value) : Str → Option Value := fun y => if y = Str.ofString "turn" then some (.int i tt) else if y = Str.ofString "texts" then some (.ref tA) else if y = Str.ofString "price" then vp else if y = Str.ofString "told" then vt else if y = Str.ofString "held" then some (.ref hA) else if y = Str.ofString "x" then vx else if y = Str.ofString "table" then some (.ref tb) else if y = Str.ofString "spelled" then some (.ref sA) else if y = Str.ofString "values" then some (.ref vA) else if y = Str.ofString "words" then some (.ref wA) else mr y
theorem lawM_start (mr : Str → Option Value) (tb sA vA wA tA hA : Addr) (i : Int) (tt : Tok) : (fun y => if y = Str.ofString "turn" then some (.int i tt) else if y = Str.ofString "texts" then some (.ref tA) else if y = Str.ofString "held" then some (.ref hA) else if y = Str.ofString "table" then some (.ref tb) else if y = Str.ofString "spelled" then some (.ref sA) else if y = Str.ofString "values" then some (.ref vA) else if y = Str.ofString "words" then some (.ref wA) else mr y) = lawM mr tb sA vA wA tA hA i tt (mr (Str.ofString "price")) (mr (Str.ofString "told")) (mr (Str.ofString "x")) := by
  funext y
  unfold lawM
  by_cases h1 : y = Str.ofString "price"
  · subst h1; simp only [if_true]; rfl
  by_cases h2 : y = Str.ofString "told"
  · subst h2; simp only [if_true]; rfl
  by_cases h3 : y = Str.ofString "x"
  · subst h3; simp only [if_true]; rfl
  simp only [if_neg h1, if_neg h2, if_neg h3]
theorem lawM_turn (mr : Str → Option Value) (tb sA vA wA tA hA tA' hA' : Addr) (i i' : Int) (tt tt' : Tok) (vp vt vx vp' vt' vx' : Option Value) : (fun y => if y = Str.ofString "turn" then some (.int i' tt') else if y = Str.ofString "texts" then some (.ref tA') else if y = Str.ofString "price" then vp' else if y = Str.ofString "told" then vt' else if y = Str.ofString "held" then some (.ref hA') else if y = Str.ofString "x" then vx' else lawM mr tb sA vA wA tA hA i tt vp vt vx y) = lawM mr tb sA vA wA tA' hA' i' tt' vp' vt' vx' := by
  funext y
  unfold lawM
  by_cases h0 : y = Str.ofString "turn"
  · simp only [if_pos h0]
  by_cases h1 : y = Str.ofString "texts"
  · simp only [if_neg h0, if_pos h1]
  by_cases h2 : y = Str.ofString "price"
  · simp only [if_neg h0, if_neg h1, if_pos h2]
  by_cases h3 : y = Str.ofString "told"
  · simp only [if_neg h0, if_neg h1, if_neg h2, if_pos h3]
  by_cases h4 : y = Str.ofString "held"
  · simp only [if_neg h0, if_neg h1, if_neg h2, if_neg h3, if_pos h4]
  by_cases h5 : y = Str.ofString "x"
  · simp only [if_neg h0, if_neg h1, if_neg h2, if_neg h3, if_neg h4, if_pos h5]
  simp only [if_neg h0, if_neg h1, if_neg h2, if_neg h3, if_neg h4, if_neg h5]
noncomputable abbrev lawL (hh : Int) (cK cP lP wA vA sA l td tb ld tA hA : Addr) (oK oP : Obj) (kt : Tok) (pv wv vv sv xv hv : List Value) (wn n hn tn : Nat) (its pz : Array Value) (A1 A2 A3 : Str) (u1 u2 u3 : Tok) (rest : List (Addr × Obj)) : List (Addr × Obj) :=
  (tA, listOf #[.str A1 u1, .str A2 u2, .str A3 u3] tn) :: (hA, listOf hv.toArray hn) :: (l, listOf its n) :: (tb, instObj 206 td) :: (td, tabD hh kt l) :: (cK, oK) :: (cP, oP) :: (lP, listOf pv.toArray 0) :: (wA, listOf wv.toArray wn) :: (vA, listOf vv.toArray 0) :: (sA, listOf sv.toArray 0) :: (ld, listOf xv.toArray 0) :: (295, tabObj pz) :: rest
inductive LInv (hh : Int) (mr : Str → Option Value) (cK cP lP wA vA sA l td tb ld : Addr) (oP : Obj) (kt : Tok) (pv wv vv sv xv : List Value) (wn : Nat) (pls : List Int) (i : Nat) (mi : Str → Option Value) (nw : List (Addr × Obj)) : Prop
  | mk (js : List Int) (its : Array Value) (n : Nat) (tA hA : Addr) (hv : List Value) (hn tn : Nat) (u1 u2 u3 tt : Tok) (A1 A2 A3 : Str) (oK : Obj) (vK : Option Value) (pz : Array Value) (rest : List (Addr × Obj)) (vp vt vx : Option Value)
    (e1 : mi = lawM mr tb sA vA wA tA hA (i : Int) tt vp vt vx) (e2 : nw = lawL hh cK cP lP wA vA sA l td tb ld tA hA oK oP kt pv wv vv sv xv hv wn n hn tn its pz A1 A2 A3 u1 u2 u3 rest) (e3 : IntsAre hv js) (e4 : JsOk js) (e5 : Rows rest its (rowsOf (pls.map wordOf) valsL js))
    (e6 : DueTxt (pls.map wordOf) valsL speL js A1 A2 A3) (e7 : oK.data = .cell vK) (e8 : LamOk rest 291 71 (Str.ofString "C14NWriterTarget._start.<locals>.<lambda>") pz) (e9 : ∀ p ∈ rest, p.1 ≠ 295 ∧ p.1 ≠ l ∧ p.1 ≠ cK) (e10 : @LT.lt Nat _ l tA) (e11 : @Ne Nat hA l ∧ @Ne Nat hA cK ∧ @Ne Nat hA 295) : LInv hh mr cK cP lP wA vA sA l td tb ld oP kt pv wv vv sv xv wn pls i mi nw
theorem gen_post {α : Type} {M : Model} {A : Around} {c : Sem α} {Q : α → Shared → Prop} {E : Value → Shared → Prop} {s : Shared}
    (h : ∀ (Q' : α → Shared → Prop) (E' : Value → Shared → Prop), (∀ v t, Q v t → Q' v t) → (∀ e t, E e t → E' e t) → wpAny M A c Q' E' s) : wpAny M A c Q E s := h Q E (fun _ _ h => h) (fun _ _ h => h)
theorem gen_postQ {α : Type} {M : Model} {A : Around} {c : Sem α} {Q : α → Shared → Prop} {E : Value → Shared → Prop} {s : Shared}
    (h : ∀ (Q' : α → Shared → Prop), (∀ v t, Q v t → Q' v t) → wpAny M A c Q' E s) : wpAny M A c Q E s := h Q (fun _ _ h => h)
theorem frLawK {C : Prop} {h₀ h : Heap} {L : Addr} {mr : Str → Option Value} {tb sA vA wA tA hA : Addr} {tt : Tok} (F : Fr h₀ L h (fun y => if y = Str.ofString "turn" then some (.int 0 tt) else if y = Str.ofString "texts" then some (.ref tA) else if y = Str.ofString "held" then some (.ref hA) else if y = Str.ofString "table" then some (.ref tb) else if y = Str.ofString "spelled" then some (.ref sA) else if y = Str.ofString "values" then some (.ref vA) else if y = Str.ofString "words" then some (.ref wA) else mr y)) (k : ∀ mr' vp vt vx, Fr h₀ L h (lawM mr' tb sA vA wA tA hA 0 tt vp vt vx) → C) : C := k mr _ _ _ (lawM_start mr tb sA vA wA tA hA 0 tt ▸ F)
theorem nmLK {C : Prop} {h₀ h : Heap} {L : Addr} {a1 a2 a3 a4 a5 a6 a7 a8 a9 a10 a11 a12 a13 : Addr} {o1 o2 o3 o4 o5 o6 o7 o8 o9 o12 : Obj} {pv vv sv : List Value} {n10 n11 n13 : Nat} {tl : List (Addr × Obj)} {P : List Int} {V S : List Str} (N : News h₀ L h ((a1, o1) :: (a2, o2) :: (a3, o3) :: (a4, o4) :: (a5, o5) :: (a6, o6) :: (a7, o7) :: (a8, o8) :: (a9, o9) :: (a10, listOf sv.toArray n10) :: (a11, listOf vv.toArray n11) :: (a12, o12) :: (a13, listOf pv.toArray n13) :: tl)) (hp : IntsAre pv P) (hv : StrsAre vv V) (hs : StrsAre sv S) (k : ∀ pv' vv' sv' : List Value, IntsAre pv' P → StrsAre vv' V → StrsAre sv' S → News h₀ L h ((a1, o1) :: (a2, o2) :: (a3, o3) :: (a4, o4) :: (a5, o5) :: (a6, o6) :: (a7, o7) :: (a8, o8) :: (a9, o9) :: (a10, listOf sv'.toArray n10) :: (a11, listOf vv'.toArray n11) :: (a12, o12) :: (a13, listOf pv'.toArray n13) :: tl) → C) : C := k _ _ _ hp hv hs N
theorem turn_news {h₀ h : Heap} {L : Addr} {hh : Int} {p q tA2 it tA' hA' cK cP lP wA vA sA l td tb ld hA I : Addr} {op oq oit oA oH oK oP oI : Obj} {kt : Tok} {pv wv vv sv xv hv : List Value} {wn n hn tn : Nat} {its pz : Array Value} {A1 A2 A3 : Str} {u1 u2 u3 : Tok} {rest : List (Addr × Obj)}
    (N : News h₀ L h ((p, op) :: (q, oq) :: (tA2, listOf #[.str A1 u1, .str A2 u2, .str A3 u3] tn) :: (it, oit) :: (l, listOf its n) :: (tb, instObj 206 td) :: (td, tabD hh kt l) :: (hA, listOf hv.toArray hn) :: (I, oI) :: (tA', oA) :: (hA', oH) :: (cK, oK) :: (cP, oP) :: (lP, listOf pv.toArray 0) :: (wA, listOf wv.toArray wn) :: (vA, listOf vv.toArray 0) :: (sA, listOf sv.toArray 0) :: (ld, listOf xv.toArray 0) :: (295, tabObj pz) :: rest)) :
    News h₀ L h ((I, oI) :: lawL hh cK cP lP wA vA sA l td tb ld tA2 hA oK oP kt pv wv vv sv xv hv wn n hn tn its pz A1 A2 A3 u1 u2 u3 rest) := by
  refine cb_drop N ?_
  unfold lawL
  iterate 14 (refine List.forall_mem_cons.mpr ⟨by repeat (first | exact List.Mem.head _ | refine List.Mem.tail _ ?_), ?_⟩)
  intro p hp
  repeat (first | exact hp | refine List.Mem.tail _ ?_)
theorem lawL_off {hh : Int} {cK cP lP wA vA sA l td tb ld tA hA tA2 hA2 I : Addr} {oK oP oK2 : Obj} {kt : Tok} {pv wv vv sv xv hv hv2 : List Value} {wn n hn tn n2 hn2 tn2 : Nat} {its pz its2 pz2 : Array Value} {A1 A2 A3 B1 B2 B3 : Str} {u1 u2 u3 v1 v2 v3 : Tok} {rest rest2 : List (Addr × Obj)}
    (off : ∀ p ∈ lawL hh cK cP lP wA vA sA l td tb ld tA hA oK oP kt pv wv vv sv xv hv wn n hn tn its pz A1 A2 A3 u1 u2 u3 rest, p.1 ≠ I) (h1 : tA2 ≠ I) (h2 : hA2 ≠ I) (h3 : ∀ p ∈ rest2, p.1 ≠ I) :
    ∀ p ∈ lawL hh cK cP lP wA vA sA l td tb ld tA2 hA2 oK2 oP kt pv wv vv sv xv hv2 wn n2 hn2 tn2 its2 pz2 B1 B2 B3 v1 v2 v3 rest2, p.1 ≠ I := by
  simp only [lawL, List.mem_cons, forall_eq_or_imp] at off ⊢
  obtain ⟨_, _, a1, a2, a3, a4, a5, a6, a7, a8, a9, a10, a11, _⟩ := off
  exact ⟨h1, h2, a1, a2, a3, a4, a5, a6, a7, a8, a9, a10, a11, h3⟩
end Mine
end

section
open PySem PySem.W PyProof.Rows PySem.Calls PySem.Spec
set_option maxHeartbeats 0
namespace Mine
theorem places_ints {few : List Int} {t0 t1 t2 t3 : Tok} : IntsAre [.int 0 t0, .int (1 + (few.getD 0 0).fmod 9) t1, .int (10 + (few.getD 1 0).fmod 10) t2, .int (20 + (few.getD 2 0).fmod 12) t3] (placesOf few) := .cons _ _ (.cons _ _ (.cons _ _ (.cons _ _ .nil)))
theorem rows_one {few pls : List Int} {tp : Addr} {a b : Tok} (e : pls = placesOf few) : Rows [(tp, tupO [.str (Str.ofString "OPTIMIZED") a, .str (Str.ofString "<") b])] #[.ref tp] (rowsOf (pls.map wordOf) valsL [0]) := by
  subst e
  have w0 : wAt ((placesOf few).map wordOf) 0 = Str.ofString "OPTIMIZED" := by show wordOf 0 = _; decide +kernel
  have v0 : wAt valsL 0 = Str.ofString "<" := by decide +kernel
  refine ⟨rfl, fun i v hv => ?_⟩
  obtain ⟨hi, ev⟩ := Array.getElem?_eq_some_iff.mp hv
  have : i = 0 := by simp at hi; exact hi
  subst this
  refine ⟨tp, (Str.ofString "OPTIMIZED", Str.ofString "<"), a, b, ?_, ev.symm, .head _⟩
  unfold rowsOf
  rw [List.map_cons, w0, v0]; rfl
theorem frM {h₀ h : Heap} {L : Addr} {m m' : Str → Option Value} (F : Fr h₀ L h m) (e : m = m') : Fr h₀ L h m' := e ▸ F
theorem vals_len : ∀ x ∈ valsL, x.length < 1000 := by decide +kernel
theorem spes_len : ∀ x ∈ speL, x.length < 1000 := by decide +kernel
theorem words_len {pls : List Int} (h : Pls pls) : ∀ x ∈ pls.map wordOf, x.length < 1000 := by
  intro x hx
  obtain ⟨p, hp, rfl⟩ := List.mem_map.mp hx
  obtain ⟨h0, h1⟩ := h.bd p hp
  have := word_len p.toNat (by omega)
  rw [Int.toNat_of_nonneg h0] at this
  omega
theorem one_ne {pls : List Int} (h : Pls pls) {sp : List Str} : (([0] : List Int).map fun k => (wAt (pls.map wordOf) k, wAt sp k)).Pairwise fun a b => a.1 ≠ b.1 := by simp
theorem lawT : PySem.Challenge.rw_sw0083_01.Holds := by
  k_with_none
  k_with "chain" => first | with_reducible assumption | exact Nat.lt_succ_self _ | (refine Nat.lt_trans ?_ (by with_reducible assumption); k_extra "chain") | ((fail_if_success (show @LT.lt Nat _ _ 295)); refine Nat.lt_succ_of_lt ?_; k_extra "chain")
  k_with "eval Constant int" => refine Mine.const_intN ?_
  k_with "eval Constant str" => refine Mine.const_strN ?_
  k_with "binaryOp Add int int" => refine Mine.add_intN ?_
  k_with "binaryOp Mod int int" => refine Mine.mod_intN (by decide) ?_
  k_with "cat" => repeat (first | exact Mine.catB1 (by with_reducible assumption) (by decide) | exact Nat.le_trans (by with_reducible assumption) (by decide) | with_reducible refine Mine.catM (Eq.refl (_ + 10000)) ?_ ?_ | ((with_reducible show (Str.ofString _).length ≤ _); decide) | ((with_reducible show Str.empty.length ≤ _); decide))
  k_with "andlt" => first | with_reducible assumption | exact (by with_reducible assumption : (@LT.lt Nat _ _ _) ∧ _).1 | exact (by with_reducible assumption : (@LT.lt Nat _ _ _) ∧ (@LT.lt Nat _ _ _) ∧ _).2.1 | exact (by with_reducible assumption : (@LT.lt Nat _ _ _) ∧ (@LT.lt Nat _ _ _) ∧ (@LT.lt Nat _ _ _) ∧ _).2.2.1 | exact (by with_reducible assumption : (@LT.lt Nat _ _ _) ∧ (@LT.lt Nat _ _ _) ∧ (@LT.lt Nat _ _ _) ∧ (@LT.lt Nat _ _ _) ∧ _).2.2.2.1 | exact (by with_reducible assumption : (@LT.lt Nat _ _ _) ∧ (@LT.lt Nat _ _ _) ∧ (@LT.lt Nat _ _ _) ∧ (@LT.lt Nat _ _ _) ∧ (@LT.lt Nat _ _ _) ∧ _).2.2.2.2.1 | exact (by with_reducible assumption : (@LT.lt Nat _ _ _) ∧ (@LT.lt Nat _ _ _) ∧ (@LT.lt Nat _ _ _) ∧ (@LT.lt Nat _ _ _) ∧ (@LT.lt Nat _ _ _) ∧ (@LT.lt Nat _ _ _) ∧ _).2.2.2.2.2.1 | exact (by with_reducible assumption : (@LT.lt Nat _ _ _) ∧ (@LT.lt Nat _ _ _) ∧ (@LT.lt Nat _ _ _) ∧ (@LT.lt Nat _ _ _) ∧ (@LT.lt Nat _ _ _) ∧ (@LT.lt Nat _ _ _) ∧ (@LT.lt Nat _ _ _) ∧ _).2.2.2.2.2.2.1 | exact (by with_reducible assumption : (@LT.lt Nat _ _ _) ∧ (@LT.lt Nat _ _ _) ∧ (@LT.lt Nat _ _ _) ∧ (@LT.lt Nat _ _ _) ∧ (@LT.lt Nat _ _ _) ∧ (@LT.lt Nat _ _ _) ∧ (@LT.lt Nat _ _ _) ∧ (@LT.lt Nat _ _ _) ∧ _).2.2.2.2.2.2.2.1 | exact (by with_reducible assumption : (@LT.lt Nat _ _ _) ∧ (@LT.lt Nat _ _ _) ∧ (@LT.lt Nat _ _ _) ∧ (@LT.lt Nat _ _ _) ∧ (@LT.lt Nat _ _ _) ∧ (@LT.lt Nat _ _ _) ∧ (@LT.lt Nat _ _ _) ∧ (@LT.lt Nat _ _ _) ∧ (@LT.lt Nat _ _ _) ∧ _).2.2.2.2.2.2.2.2.1
  k_with "tbn_find" => exact leAll (by assumption) (fun p hp => by repeat (first | exact hp | refine List.Mem.tail _ ?_))
  k_with "k_ne" => (refine neN ?_; (try dsimp only); first | with_reducible assumption | exact Ne.symm (by with_reducible assumption) | ((fail_if_success (refine (neN (a := 987654321) ?_))); (fail_if_success (refine (neN (b := 987654321) ?_))); first | (refine neGt ?_; k_extra "chain") | (refine Nat.ne_of_lt ?_; k_extra "chain") | k_extra "ne") | omega)
  k_with "k_mem" => first | exact List.Mem.head _ | (refine' List.Mem.tail _ ?_; k_mem) | assumption
  k_with "k_all" => first | with_reducible assumption | (tbn_letter; refine tbn_neAll (allLt_up ?_ (by assumption)); (try dsimp only); first | exact Nat.le_refl _ | (refine Nat.le_of_lt ?_; k_extra "chain") | omega)
  k_with "k_steps" => repeat' (first | (k_unfold; (try dsimp only)) | (k_end; wrow_close) | (walk1; (try k_extra "norm")) | (dsimp only; walk1) | (leave1; (try dsimp only)) | fail "no step")
  k_with "eval ListComp" => (k_here; (with_reducible show wpAny _ _ (eval (Expr.ListComp _ [⟨Expr.Name _ _, _, [], _⟩] _ _) _) _ _ _); k_dflt (refine LCg.ListComp_U (F₀ := by k_asm) (by with_unfolding_all rfl) (by decide) (by rfl) (by decide) (by rfl) ?_))
  k_with "CompSrc" => (k_here; k_dflt (refine LCg.CompSrc.ledger (by rfl) (by k_asm) (by k_asm) (by k_mem) (by first | size_fits | (rw [sizeLine_eq]; omega) | (rw [sizeLine_eq]; simp; omega)) ?_; intro kw_g); refine Hold.out ?_)
  k_with "CompEnd" => (first
    | (refine LCg.CompEnd.intro (by assumption) (by assumption) _ (fun p hp => hp) (by assumption) (by first | lcg_src | exact .inr ⟨_, by k_mem, rfl, _, rfl⟩) ?_)
    | (refine LCg.CompEnd.intro (by assumption) (by assumption) (_ :: _) mem_rot ⟨⟨by first | k_ne | omega, by first | k_ne | omega, by first | k_ne | omega⟩, by assumption⟩ (by first | lcg_src | exact .inr ⟨_, by k_mem, rfl, _, rfl⟩) ?_))
  k_with "call ref" => first | ((with_reducible show wpAny _ _ (call (Value.ref 347) _) _ _ _); refine Hold.out ?_) | ((with_reducible show wpAny _ _ (call (Value.ref 366) _) _ _ _); refine Hold.out ?_) | ((with_reducible show wpAny _ _ (call (Value.ref 206) _) _ _ _); refine Hold.out ?_)
  k_with "callWith ref" => ((with_reducible show wpAny _ _ (callWith _ (Value.ref _) [] _ []) _ _ _); (try dsimp only); k_dflt (refine' callWith_K ?k1 ?k2 ?_; (case k1 => k_asm); (case k2 => k_is); k_whole))
  k_with "exec For Name BinOp" => (refine Hold.out ?_)
  k_with "exec For Name" => (refine Hold.out ?_)
  k_with "ForInts" => (refine Hold.out ?_)
  refine Mine.hd rfl rfl rfl ?_
  unfold hook
  k_fill
  intro zw zs₀ zs₁ zmg zmb zG zY zfa zo zpm zcd zdoc zdV zkV zho zhd zhcd zhD zhmg zhg zargs zvals zas zhpre zhlay zhrd zhwl zhlo
  have KX := km_in_of zY
  km_tabs zY
  have zX := (Ground.X zG).1
  have zV := (Ground.X zG).2
  refine Ground.open zG ?_
  intro zT zB zD zTE zTW
  try (refine guard_noD zD (by decide +kernel) ?_; clear zD)
  km_lay zT zhmg zho zhd zcd
  clear zhmg
  wrow_args zhpre zhlay zhrd zhwl zhlo
  all_goals (
    first | refine callC_kw (enter_call ?_) | refine enter_call ?_
    w_top on
    refine law_post hT9 (fun _ => rfl) (post_true _) ?_
    w_call any zho zhd zhcd zhD zT zF
    clear zhd
    kn_ghosts zF zT
    k_drop
    skip)
  all_goals try k_fold
  refine gen_postQ ?_
  intro Qa hQa
  k_steps
  unfold Hold
  rename Below _ _ _ _ => BB
  rename List Int => ns
  have hpi : ∀ {t0 t1 t2 t3 : Tok}, IntsAre _ (placesOf (List.take 3 ns ++ [0, 0, 0])) := fun {t0 t1 t2 t3} => places_ints (few := List.take 3 ns ++ [0, 0, 0]) (t0 := t0) (t1 := t1) (t2 := t2) (t3 := t3)
  obtain ⟨pls, epl⟩ : ∃ l, l = placesOf (List.take 3 ns ++ [0, 0, 0]) := ⟨_, rfl⟩
  have hpl : Pls pls := by rw [epl]; exact places_ok
  have hpb := hpl.bd
  refine compU_each (fun i ys nw => nw = _ ∧ StrsAre ys ((List.take i pls).map wordOf)) ⟨rfl, .nil⟩ ?_ ?_
  · intro i ys nw v I oI C oC D m₂ h tk E' R hi hI hv hC hx F' N' off' ne hR'
    obtain ⟨rfl, hst⟩ := hI
    obtain ⟨k, tk, hk, rfl⟩ := int_at hpi hv
    rw [← epl] at hk
    obtain ⟨hk0, hk4⟩ := hpb k (List.mem_of_getElem? hk)
    k_steps
    unfold Hold
    refine law_word (by k_asm) F' (by k_asm) N' (by k_asm) (by rfl) (by ktr_room) (by ktr_units) hk0 hk4 ?_
    intro u h9 tk9 F9 N9
    try dsimp only at F9 N9 ⊢
    k_steps
    refine hR' _ _ ⟨rfl, ?_⟩
    rw [List.take_add_one, hk, Option.toList_some, List.map_append]
    exact kct_snoc hst
  · rintro ys nw ⟨rfl, hst⟩
    rw [List.size_toArray] at hst
    k_steps
    unfold Hold
    refine headers_new BB (by k_asm) (by k_asm) (by k_asm) (by k_asm) (by rfl) (by ktr_room) (by ktr_units) ?_
    intro tb td kt h9 tk9 gs9 hb9 F9 N9 l1 l2
    have l2a := l2.1
    have l2b := l2.2.1
    have l2c := ltHd2 l2.2.2
    try dsimp only at F9 N9 ⊢
    k_steps
    unfold Hold
    have ehs : StrsAre ys (pls.map wordOf) := by
      have e : List.take 4 pls = pls := List.take_of_length_le (by rw [hpl.len]; decide)
      rw [← e]; exact hst
    refine law_due (js := [0]) (ws := pls.map wordOf) (vs := valsL) (sp := speL) BB (by k_asm) (by k_asm) (by k_asm) (by k_asm) (by rfl) (by ktr_room) (by ktr_units) (by k_mem) (by k_mem) (by k_mem) (by k_mem) (.cons _ _ .nil) ehs (.cons _ _ (.cons _ _ (.cons _ _ (.cons _ _ .nil)))) (.cons _ _ (.cons _ _ (.cons _ _ (.cons _ _ .nil)))) (by rw [List.length_map, hpl.len]) rfl rfl (by decide) (by decide) (by decide) (one_ne hpl) ?_ (words_len hpl) vals_len spes_len
    intro tA tn n9 rows9 t1 t2 t3 h9 tk9 p9 s9 p9' s9' F9 N9 l9
    have l9a := ltHd2 l9
    try dsimp only at F9 N9 ⊢
    have hdue : DueTxt (pls.map wordOf) valsL speL [0] _ _ _ := ⟨n9, rows9, p9, s9, p9', s9', rfl, rfl, rfl⟩
    k_steps
    unfold Hold
    rename Shared => s1
    refine for_ints (h₀ := ghostOf s1.heap [(297, 295)]) (by rfl) (by with_unfolding_all rfl) (by with_unfolding_all rfl) ?_
    k_with "subscriptTail Name Slice ref ref" => (k_here; k_dflt (refine' kmk_slice_ints ?zaF ?zaN ?zaL ?zaP ?zaQ ?zaI ?zaM ?zaC ?_ ?zaS ?zaT ?zaZ; (case zaF => k_asm); (case zaN => k_asm); (case zaL => exact Fr.lst (by k_asm) (by k_asm)); (case zaP => kmk_part); (case zaQ => kmk_part); (case zaI => l_ints); (case zaM => kmk_nums); (case zaC => kmk_len); (case zaS => with_unfolding_all rfl); (case zaT => kmk_pure); (case zaZ => kmk_size)); intro kw_D kw_ws kw_h kw_F kw_N kw_l1 kw_hI kw_hC kw_hL; (try k_lt kw_l1))
    k_steps
    unfold Hold
    rename Fr _ _ _ _ => FE
    rename News _ _ _ _ => NE
    rename_i lP _ _ _ _ _ _ wA _ _ _ vA _ _ _ _ sA _ _ _ _ tp0 _ _ _ l _ _ _ _ _ _ _ hA _ _ _ _ _ _ l0 _ _ _ _ ld _ _ _ _ _
    have S01 : @LT.lt Nat _ 295 s1.heap.objs.size := by first | assumption | walk_at "chain" | exact ltMem (by assumption) (by k_mem)
    have S02 : @LT.lt Nat _ (s1.heap.objs.size + 1 + 1) lP := by first | assumption | walk_at "chain" | exact ltMem (by assumption) (by k_mem)
    have S03 : @LT.lt Nat _ lP vA := by first | assumption | walk_at "chain" | exact ltMem (by assumption) (by k_mem)
    have S04 : @LT.lt Nat _ wA vA := by first | assumption | walk_at "chain" | exact ltMem (by assumption) (by k_mem)
    have S05 : @LT.lt Nat _ vA sA := by first | assumption | walk_at "chain" | exact ltMem (by assumption) (by k_mem)
    have S06 : @LT.lt Nat _ sA tp0 := by first | assumption | walk_at "chain" | exact ltMem (by assumption) (by k_mem)
    have S07 : @LT.lt Nat _ tp0 l := by first | assumption | walk_at "chain" | exact ltMem (by assumption) (by k_mem)
    have S08 : @LT.lt Nat _ l td := by first | assumption | walk_at "chain" | exact ltMem (by assumption) (by k_mem)
    have S09 : @LT.lt Nat _ td tb := by first | assumption | walk_at "chain" | exact ltMem (by assumption) (by k_mem)
    have S10 : @LT.lt Nat _ tb hA := by first | assumption | walk_at "chain" | exact ltMem (by assumption) (by k_mem)
    have S11 : @LT.lt Nat _ hA tA := by first | assumption | walk_at "chain" | exact ltMem (by assumption) (by k_mem)
    have S12 : @LT.lt Nat _ tA ld := by first | assumption | walk_at "chain" | exact ltMem (by assumption) (by k_mem)
    rename (@Ne Nat lP wA) ∧ _ => WO
    have W1 : @Ne Nat wA 295 := by first | exact Ne.symm WO.1 | exact Ne.symm WO.2.1 | exact Ne.symm WO.2.2.1 | exact Ne.symm WO.2.2.2.1 | exact Ne.symm WO.2.2.2.2.1 | (intro hh; omega)
    have W2 : @Ne Nat wA (s1.heap.objs.size + 1) := by first | exact Ne.symm WO.1 | exact Ne.symm WO.2.1 | exact Ne.symm WO.2.2.1 | exact Ne.symm WO.2.2.2.1 | exact Ne.symm WO.2.2.2.2.1 | (intro hh; omega)
    have W3 : @Ne Nat wA (s1.heap.objs.size + 1 + 1) := by first | exact Ne.symm WO.1 | exact Ne.symm WO.2.1 | exact Ne.symm WO.2.2.1 | exact Ne.symm WO.2.2.2.1 | exact Ne.symm WO.2.2.2.2.1 | (intro hh; omega)
    have W4 : @Ne Nat wA lP := Ne.symm WO.1
    have S03b := S03
    rename IntsAre _ _ => hxs
    refine frLawK FE ?_
    intro mr vp0 vt0 vx0 FE2
    refine nmLK (P := pls) NE (by rw [epl]; exact hpi) vals_are spes_are ?_
    intro pv vv sv hpv hvv hsv NE2
    clear FE NE
    rename News _ _ _ _ => NE
    refine' ⟨ld, _, 0, _, _, lawL _ (s1.heap.objs.size + 1 + 1) (s1.heap.objs.size + 1) lP wA vA sA l td tb ld tA hA _ _ kt _ ys _ _ _ _ ys.length 0 0 tn _ #[] _ _ _ t1 t2 t3 [(tp0, _)], LInv (PyData.keyHash _ (Str.ofString "_headers")) _ (s1.heap.objs.size + 1 + 1) (s1.heap.objs.size + 1) lP wA vA sA l td tb ld _ kt _ ys _ _ _ ys.length pls, rfl, hxs, FE2, cb_drop NE ?sub, ?hI, ⟨[0], #[.ref tp0], 0, tA, hA, _, 0, tn, t1, t2, t3, _, _, _, _, _, _, #[], [(tp0, _)], _, _, _, rfl, rfl, .cons _ _ .nil, ⟨by decide, by decide, by decide⟩, ?rows, hdue, ?cell, .inl rfl, ?rest, ?q1, ?q2⟩, ?turn, ?fin⟩
    case sub => exact (List.forall_mem_cons.mpr ⟨by k_mem, (List.forall_mem_cons.mpr ⟨by k_mem, (List.forall_mem_cons.mpr ⟨by k_mem, (List.forall_mem_cons.mpr ⟨by k_mem, (List.forall_mem_cons.mpr ⟨by k_mem, (List.forall_mem_cons.mpr ⟨by k_mem, (List.forall_mem_cons.mpr ⟨by k_mem, (List.forall_mem_cons.mpr ⟨by k_mem, (List.forall_mem_cons.mpr ⟨by k_mem, (List.forall_mem_cons.mpr ⟨by k_mem, (List.forall_mem_cons.mpr ⟨by k_mem, (List.forall_mem_cons.mpr ⟨by k_mem, (List.forall_mem_cons.mpr ⟨by k_mem, (List.forall_mem_cons.mpr ⟨by k_mem, (fun _ h => nomatch h)⟩)⟩)⟩)⟩)⟩)⟩)⟩)⟩)⟩)⟩)⟩)⟩)⟩)⟩)
    case rows => exact rows_one epl
    case cell => assumption
    case rest =>
      refine List.forall_mem_cons.mpr ⟨⟨?_, ?_, ?_⟩, fun _ h => nomatch h⟩
      · show @Ne Nat tp0 295; k_ne
      · show @Ne Nat tp0 l; k_ne
      · show @Ne Nat tp0 (s1.heap.objs.size + 1 + 1); k_ne
    case q1 => show @LT.lt Nat _ l tA; first | walk_at "chain" | omega
    case q2 => refine ⟨?_, ?_, ?_⟩ <;> first | k_ne | (intro hh; omega)
    case hI =>
      rintro i mi nw ⟨js, its, n, tA, hA, hv, hn, tn, u1, u2, u3, tt, A1, A2, A3, oK, vK, pz, rest, vp, vt, vx, rfl, rfl, _⟩
      k_mem
    case fin =>
      rintro mi nw h tk gs dr hbg ⟨js, its, n, tA, hA, hv, hn, tn, u1, u2, u3, tt, A1, A2, A3, oK, vK, pz, rest, vp, vt, vx, rfl, rfl, _⟩ F' N'
      k_steps
      refine hQa _ _ ?_
      try dsimp only
      k_steps
      exact ⟨rfl, Fr.keep (by k_asm), rfl, hbg (hb9 (AllBare.of_eq zhg))⟩
    case turn =>
      intro i mi nw r ta I oI h tk gs dr hbg hr hI F' N' off hlt hgI
      obtain ⟨zI, hgI⟩ := hgI
      obtain ⟨js, its, n, tA', hA', hv, hn, tn', u1, u2, u3, tt, A1, A2, A3, oK, vK, pz, rest, vp, vt, vx, rfl, rfl, hjs, hok, hrows, hdueA, hoK, hlam, hrest, hlA, hlH, hlK, hlZ⟩ := hI
      have hr4 : ∀ p ∈ rest, p.1 ≠ I := fun p hp => off p (by repeat (first | exact hp | refine List.Mem.tail _ ?_))
      have hr1 : ∀ p ∈ rest, p.1 ≠ 295 := fun p hp => (hrest p hp).1
      have hr2 : ∀ p ∈ rest, p.1 ≠ l := fun p hp => (hrest p hp).2.1
      have hr3 : ∀ p ∈ rest, p.1 ≠ s1.heap.objs.size + 1 + 1 := fun p hp => (hrest p hp).2.2
      have hIlt : @LT.lt Nat _ ld I := hlt (ld, _) (by k_mem)
      have q0 : 0 ≤ r.fmod 3 := Int.fmod_nonneg_of_pos r (by decide)
      have q3 : r.fmod 3 < 3 := Int.fmod_lt_of_pos r (by decide)
      have wl : (pls.map wordOf).length = 4 := by rw [List.length_map, hpl.len]
      have vl : valsL.length = 4 := rfl
      have sl : speL.length = 4 := rfl
      have hvz : hv.toArray.size ≤ 4 := by rw [List.size_toArray, hjs.length]; exact hok.len.2
      have hjl : js.length ≤ 4 := hok.len.2
      k_with "norm" => ((with_reducible show wpAny _ _ _ _ _ _); dsimp only)
      refine gen_post ?_
      intro Qz Ez hQz hEz
      have hvz2 : hv.length ≤ 4 := by rw [hjs.length]; exact hok.len.2
      k_with "subscriptTail Name Name ref int" => (k_here; k_dflt (refine' item_w ?swl ?sws ?swa ?swb ?swc ?_; (case swl => exact News.isList (by k_asm) (by k_mem)); (case sws => first | assumption | fail "no"); (case swa => omega); (case swb => omega); (case swc => omega)); intro _)
      k_with "compareOp In int ref" => (k_here; k_dflt (refine' in_held ?ihl ?ihi ?_; (case ihl => exact News.isList (by k_asm) (by k_mem)); (case ihi => assumption)))
      k_with "call ref" => first | ((with_reducible show wpAny _ _ (call (Value.ref 354) _) _ _ _); refine Hold.out ?_) | ((with_reducible show wpAny _ _ (call (Value.ref 170) _) _ _ _); refine Hold.out ?_) | ((with_reducible show wpAny _ _ (call (Value.ref 46) _) _ _ _); refine Hold.out ?_) | ((with_reducible show wpAny _ _ (call (Value.ref 361) _) _ _ _); refine Hold.out ?_) | ((with_reducible show wpAny _ _ (call (Value.ref 60) _) _ _ _); refine Hold.out ?_) | ((with_reducible show wpAny _ _ (call (Value.ref 182) _) _ _ _); refine Hold.out ?_) | ((with_reducible show wpAny _ _ (call (Value.ref 366) _) _ _ _); refine Hold.out ?_)
      k_with "eval IfExp" => ((fail_if_success (with_reducible show wpAny _ _ (eval _ _) (MidList _ _ _ _ _ _) _ _)); refine Hold.out ?_)
      k_with "ite" => first | (refine ite_dec_t (by with_reducible assumption) ?_) | (refine ite_dec_f (by with_reducible assumption) ?_)
      k_with "eval ListComp" => (k_here; (with_reducible show wpAny _ _ (eval (Expr.ListComp _ [⟨Expr.Name _ _, _, [_], _⟩] _ _) _) _ _ _); k_dflt (refine LCt.ListComp_T (F₀ := by k_asm) (by with_unfolding_all rfl) (by decide) (by rfl) (by decide) (by rfl) ?_))
      k_with "binaryOp Add ref ref" => (k_here; k_dflt (refine' kmk_add_ints ?zbF ?zbN ?zbA ?zbB ?zbI ?zbJ ?_ ?zbZ; (case zbF => k_asm); (case zbN => k_asm); (case zbA => exact News.isList (by k_asm) (by k_mem)); (case zbB => exact News.isList (by k_asm) (by k_mem)); (case zbI => assumption); (case zbJ => exact .cons _ _ .nil); (case zbZ => (rw [sizeLine_eq]; simp only [List.length_cons, List.length_nil]; omega))); intro kw_D kw_ws kw_h kw_F kw_N kw_l1 kw_hI; (try k_lt kw_l1))
      k_with "CompSrcT" => (k_here; k_dflt (refine LCt.CompSrcT.ledger (by rfl) (by k_asm) (by k_asm) (by k_mem) (by first | size_fits | (rw [sizeLine_eq]; omega) | (rw [sizeLine_eq]; simp; omega)) ?_; intro kw_g); refine Hold.out ?_)
      k_steps
      unfold Hold
      rename News _ _ _ _ => N1
      refine step_mid (k := 1 + r.fmod 3) (js := js) (rest := rest) BB (by k_asm) (by k_asm) (News.rot3 N1) (by k_asm) (by rfl) (by ktr_room) (by ktr_units) (by show @Ne Nat tb l; k_ne) (by show @Ne Nat td l; k_ne) ?off hpl hok (by omega) (by omega) rfl ?sub hrows ?_
      case off =>
        intro p hp b hb
        rw [List.mem_singleton] at hb
        subst hb
        revert p
        refine List.forall_mem_cons.mpr ⟨?_, List.forall_mem_cons.mpr ⟨?_, List.forall_mem_cons.mpr ⟨?_, List.forall_mem_cons.mpr ⟨?_, List.forall_mem_cons.mpr ⟨?_, List.forall_mem_cons.mpr ⟨?_, List.forall_mem_cons.mpr ⟨?_, List.forall_mem_cons.mpr ⟨?_, List.forall_mem_cons.mpr ⟨?_, List.forall_mem_cons.mpr ⟨?_, List.forall_mem_cons.mpr ⟨?_, hr2⟩⟩⟩⟩⟩⟩⟩⟩⟩⟩⟩
        · show @Ne Nat I b; k_ne
        · show @Ne Nat tA' b; k_ne
        · show @Ne Nat hA' b; k_ne
        · show @Ne Nat (s1.heap.objs.size + 1 + 1) b; k_ne
        · show @Ne Nat (s1.heap.objs.size + 1) b; k_ne
        · show @Ne Nat lP b; k_ne
        · show @Ne Nat wA b; k_ne
        · show @Ne Nat vA b; k_ne
        · show @Ne Nat sA b; k_ne
        · show @Ne Nat ld b; k_ne
        · show @Ne Nat 295 b; k_ne
      case sub =>
        intro p hp
        exact List.Mem.tail _ (List.Mem.tail _ (List.Mem.tail _ (List.Mem.tail _ (List.Mem.tail _ (List.Mem.tail _ (List.Mem.tail _ (List.Mem.tail _ (List.Mem.tail _ (List.Mem.tail _ (List.Mem.tail _ hp))))))))))
      intro ex its2 n2 h2 tk2 hex hrows2 F2 N2
      have N3 := News.ex3 (T := [_, _, _, _, _, _, _, _, _, _, _]) N2
      simp only [List.cons_append, List.nil_append] at N3
      clear N2 N1
      have hjs2 : JsOk (toggle js (1 + r.fmod 3)) := hok.toggle (by omega) (by omega)
      have hlam2 := hlam.sub (news' := ex ++ rest) fun p hp => List.mem_append_right _ hp
      have hre1 : ∀ p ∈ ex ++ rest, p.1 ≠ 295 := fun p hp => by
        rcases List.mem_append.mp hp with hp | hp
        · have q : @LT.lt Nat _ l p.1 := (hex p hp).1
          exact Nat.ne_of_gt (Nat.lt_trans (show @LT.lt Nat _ 295 l by walk_at "chain") q)
        · exact hr1 p hp
      have hre2 : ∀ p ∈ ex ++ rest, p.1 ≠ l := fun p hp => by
        rcases List.mem_append.mp hp with hp | hp
        · have q : @LT.lt Nat _ l p.1 := (hex p hp).1
          exact Nat.ne_of_gt q
        · exact hr2 p hp
      have hre3 : ∀ p ∈ ex ++ rest, p.1 ≠ s1.heap.objs.size + 1 + 1 := fun p hp => by
        rcases List.mem_append.mp hp with hp | hp
        · have q : @LT.lt Nat _ l p.1 := (hex p hp).1
          exact Nat.ne_of_gt (Nat.lt_trans (show @LT.lt Nat _ (s1.heap.objs.size + 1 + 1) l by walk_at "chain") q)
        · exact hr3 p hp
      have hre4 : ∀ p ∈ ex ++ rest, p.1 ≠ I := fun p hp => by
        rcases List.mem_append.mp hp with hp | hp
        · have q : @LT.lt Nat _ I p.1 := (hex p hp).2.1
          exact Nat.ne_of_gt q
        · exact hr4 p hp
      clear hex
      generalize ex ++ rest = rest2 at hrows2 N3 hlam2 hre1 hre2 hre3 hre4
      try dsimp only at F2 N3 ⊢
      k_steps
      unfold Hold
      rename News _ _ _ _ => N4
      refine mid_list (js := toggle js (1 + r.fmod 3)) (by k_asm) N4 ?_ ?_
      · by_cases hkm : 1 + r.fmod 3 ∈ js
        · k_steps
          unfold Hold
          refine compT_each (keepInv hv.toArray (keepI (1 + r.fmod 3)) _) ⟨rfl, rfl⟩ ?_ ?_
          · intro i ys nw v I oI C oC D m₂ h tk E' R R' hi hI hv hC hx F' N' off' ne hR hR'
            obtain ⟨rfl, rfl⟩ := id hI
            obtain ⟨j, tj, hj, rfl⟩ := int_at hjs hv
            k_steps
            · exact hR _ _ (keepInv.yes ⟨rfl, rfl⟩ hv (keepI_yes (by assumption)))
            · exact hR' _ (keepInv.no ⟨rfl, rfl⟩ hv (keepI_no (by assumption)))
          · rintro ys nw ⟨rfl, hys⟩
            have hys : ys = hv.filter (keepI (1 + r.fmod 3)) := by rw [hys, ← Array.length_toList, List.take_length]
            subst hys
            k_steps
            rename News _ _ _ _ => NX
            exact ⟨_, _, _, _, _, rfl, rfl, by rw [toggle_in hkm]; exact ints_filter hjs, by k_asm, NX, by assumption⟩
        · k_steps
          rename News _ _ _ _ => NX
          rename IntsAre _ (_ ++ _) => hiX
          exact ⟨_, _, _, _, _, rfl, rfl, by rw [toggle_out hkm]; exact hiX, by k_asm, cb_drop NX (List.forall_mem_cons.mpr ⟨.head _, fun p hp => .tail _ (.tail _ hp)⟩), off1_of (leAll (by assumption) fun p hp => .tail _ hp)⟩
      intro hA2 hv2 hc2 h5 tk5 hjs3 F5 N5 l5
      clear N4
      obtain ⟨l5a, l5z⟩ : @Ne Nat hA2 l ∧ @Ne Nat hA2 (s1.heap.objs.size + 1 + 1) ∧ @Ne Nat hA2 295 := ⟨Ne.symm l5.1, Ne.symm l5.2.2.2.2.2.2.1, Ne.symm l5.2.2.2.2.2.2.2.2.2.2.2.2.2.1⟩
      have l5i : @Ne Nat hA2 I := Ne.symm l5.2.2.2.1
      have l5y : @Ne Nat hA2 295 := l5z.2
      have l5x : @Ne Nat hA2 (s1.heap.objs.size + 1 + 1) := l5z.1
      clear l5
      try dsimp only at F5 N5 ⊢
      have hjl2 : (toggle js (1 + r.fmod 3)).length ≤ 4 := hjs2.len.2
      have hvz3 : hv2.toArray.size ≤ 4 := by rw [List.size_toArray, hjs3.length]; exact hjl2
      have hvz4 : hv2.length ≤ 4 := by rw [hjs3.length]; exact hjl2
      have pl4 : pls.length = 4 := hpl.len
      k_with "subscriptTail Name Name ref int" => (k_here; k_dflt (refine' item_p ?piL ?piI ?pia ?pib ?pic ?_; (case piL => exact News.isList (by k_asm) (by k_mem)); (case piI => exact hpv); (case pia => omega); (case pib => omega); (case pic => omega)); intro _)
      k_with "binaryOp Pow int int" => (k_here; k_dflt (refine' pow_int_small ?pwa ?pwb ?pwc ?_; (case pwa => omega); (case pwb => omega); (case pwc => decide)))
      k_with "call builtin:sum" => (k_here; k_dflt (refine' sum_pow ?suF ?suN ?suH ?suL ?suI ?_; (case suF => k_asm); (case suN => k_asm); (case suH => rfl); (case suL => exact News.isList (by k_asm) (by k_mem)); (case suI => assumption)); intro _ _ _ _ _; (try dsimp only))
      k_steps
      unfold Hold
      refine compU_each (fun i ys nw => nw = _ ∧ IntsAre ys (((toggle js (1 + r.fmod 3)).take i).map fun k => (2 : Int) ^ (plAt pls k).toNat)) ⟨rfl, .nil⟩ ?_ ?_
      · intro i ys nw v I oI C oC D m₂ h tk E' R hi hI hv hC hx F' N' off' ne hR'
        obtain ⟨rfl, hst⟩ := hI
        obtain ⟨j, tj, hj, rfl⟩ := int_at hjs3 hv
        obtain ⟨hj0, hj4⟩ := hjs2.bd j (List.mem_of_getElem? hj)
        obtain ⟨hq0, hq1⟩ := hpb _ (hpl.mem hj0 hj4)
        k_steps
        refine hR' _ _ ⟨rfl, ?_⟩
        rw [List.take_add_one, hj, Option.toList_some, List.map_append]
        exact ints_snoc hst
      · rintro ys nw ⟨rfl, hst⟩
        rw [List.size_toArray, hjs3.length, List.take_length] at hst
        have hpw := pow_bounds hpl hjs2
        k_steps
        unfold Hold
        refine pretty BB (by k_asm) (by k_asm) (by k_asm) (by k_asm) (by rfl) (by ktr_room) (by ktr_units) hpw.1 hpw.2 ?_
        intro u6 h6 tk6 F6 N6
        have N7 := News.rot1 (News.tl N6)
        try dsimp only at F6 N7 ⊢
        clear N6
        k_with "callWith ref" => ((with_reducible show wpAny _ _ (callWith _ _ _ (backTo _ (starEach [] _)) []) _ _ _); (try dsimp only); k_dflt (refine' callWith_K0 ?c0a ?c0b ?_; (case c0a => exact Frag.In.keeps (by k_asm) (Fr.keep (by k_asm))); (case c0b => k_is)))
        k_with "getMethod ref" => (k_here; k_dflt (refine' method_inst ?mi1 ?mi2 ?mi3 ?mi4 ?mi5 ?mi6 ?mi7 ?_; (case mi1 => k_asm); (case mi2 => k_asm); (case mi3 => k_inst); (case mi4 => k_is); (case mi5 => k_is); (case mi6 => k_is); (case mi7 => k_get)))
        k_with "call type:str" => (k_here; (with_reducible show wpAny _ _ (call (Value.type "str") [Value.ref _]) _ _ _); k_dflt (refine' kso_call ?ksa ?ksb ?ksc ?ksd ?kse ?_; (case ksa => k_units); (case ksb => exact Frag.In.keeps (by k_asm) (Fr.keep (by k_asm))); (case ksc => k_inst); (case ksd => k_is); (case kse => k_is)))
        obtain ⟨⟨cr1, cr4⟩, cfx, cnd, chw, cesc, cel, crl⟩ := canon_pre hpl hjs2
        k_steps
        unfold Hold
        refine' tab_str (rows := rowsOf (pls.map wordOf) valsL (toggle js (1 + r.fmod 3))) (its := its2) (n := n2) ?tB ?tF ?tX N7 ?tT ?tk ?td ?tu ?tz ?tR crl ?_
        case tB => exact BB
        case tF => exact F6
        case tX => k_asm
        case tT => k_asm
        case tk => rfl
        case td => ktr_room
        case tu => ktr_units
        case tz => omega
        case tR => exact rows_mono hrows2 fun p hp => by repeat (first | exact hp | refine List.Mem.tail _ ?_)
        intro u7 h7 tk7 F7 N8
        refine (show wpAny _ _ _ _ _ _ from ?_)
        clear N7 F6
        try dsimp only at F7 N8 ⊢
        k_steps
        unfold Hold
        rename Fr _ _ _ _ => F8
        rename News _ _ _ _ => N8
        refine' items_ (its := its2) (n := n2) ?iB F8 ?iX N8 ?iT ?ik ?id ?iu ?iz ?_
        case iB => exact BB
        case iX => k_asm
        case iT => k_asm
        case ik => rfl
        case id => ktr_room
        case iu => ktr_units
        case iz => rw [hrows2.1]; omega
        intro itD h9 tk9 F9 N9 l9
        clear N8 F8
        have l9c := l9.1
        have l9b := ltHd2 l9.2.2.2
        have l9d : @LT.lt Nat _ I itD := l9.2.2.2.2.1
        have l9a := l9.2.1
        try dsimp only at F9 N9 ⊢
        k_steps
        unfold Hold
        rename Fr _ _ _ _ => F10
        rename News _ _ _ _ => N10
        have N11 := News.pull (T := [_, _, _, _, _, _, _, _, _, _, _, _, _, _, _]) N10
        simp only [List.cons_append, List.nil_append] at N11
        clear N10
        have hc3 : ∀ p ∈ rest2, p.1 ≠ 295 := hre1
        refine' canon (rows := rowsOf (pls.map wordOf) valsL (toggle js (1 + r.fmod 3))) (esc := escF) (its := its2) (n := 0) ?cB F10 ?cX N11 ?cT ?ck ?cd ?cu (List.Mem.head _) ?c3 ?cR cr1 cr4 ?cz cfx cnd chw cesc cel ?_
        case cB => exact BB
        case cX => k_asm
        case cT => k_asm
        case ck => rfl
        case cd => ktr_room
        case cu => ktr_units
        case cR => exact rows_mono hrows2 fun p hp => by repeat (first | exact hp | refine List.Mem.tail _ ?_)
        case cz => exact hlam2.sub fun p hp => by repeat (first | exact hp | refine List.Mem.tail _ ?_)
        case c3 =>
          refine List.forall_mem_cons.mpr ⟨?_, List.forall_mem_cons.mpr ⟨?_, List.forall_mem_cons.mpr ⟨?_, List.forall_mem_cons.mpr ⟨?_, List.forall_mem_cons.mpr ⟨?_, List.forall_mem_cons.mpr ⟨?_, List.forall_mem_cons.mpr ⟨?_, List.forall_mem_cons.mpr ⟨?_, List.forall_mem_cons.mpr ⟨?_, List.forall_mem_cons.mpr ⟨?_, List.forall_mem_cons.mpr ⟨?_, List.forall_mem_cons.mpr ⟨?_, List.forall_mem_cons.mpr ⟨?_, List.forall_mem_cons.mpr ⟨?_, List.forall_mem_cons.mpr ⟨?_, hc3⟩⟩⟩⟩⟩⟩⟩⟩⟩⟩⟩⟩⟩⟩⟩
          all_goals (show @Ne Nat _ 295; k_ne)
        intro pz' nw' rowsZ u8 h11 tk11 gs11 dr11 cb cperm cpw csub c295 cnew clam F11 N12
        obtain ⟨rest3, hs3, hn3, hlam3, hr30⟩ := after_canon (l := l) (cK := s1.heap.objs.size + 1 + 1) (rest := rest2) (News.tl N12) (fun p hp => csub p (by repeat (first | exact hp | refine List.Mem.tail _ ?_))) c295 (csub _ (by k_mem)) rfl (csub _ (by k_mem)) (by assumption) (csub (I, oI) (by k_mem)) hgI clam fun p hp => ⟨hre1 p hp, hre2 p hp, hre3 p hp, hre4 p hp⟩
        have N13 := News.back (T := [_, _, _, _, _, _, _, _, _, _, _, _, _, _, _]) (rest := rest2) N12 csub hn3
        simp only [List.cons_append, List.nil_append] at N13
        have hrows3 := rows_mono hrows2 hs3
        clear N12 N11 csub cnew c295 hn3 clam hs3 F10
        have hB := told_due hpl hjs2 cperm cpw
        clear cperm cpw
        generalize prettyOf _ = B1 at hB ⊢
        generalize Txt.join (Str.ofString "\r\n") _ = B2 at hB ⊢
        generalize Txt.join (Str.ofString "") [_, _, _] = B3 at hB ⊢
        have hr31 : ∀ p ∈ rest3, p.1 ≠ 295 := fun p hp => (hr30 p hp).1
        have hr32 : ∀ p ∈ rest3, p.1 ≠ l := fun p hp => (hr30 p hp).2.1
        have hr33 : ∀ p ∈ rest3, p.1 ≠ s1.heap.objs.size + 1 + 1 := fun p hp => (hr30 p hp).2.2.1
        try dsimp only at F11 N13 ⊢
        k_steps
        unfold Hold
        refine law_due (js := toggle js (1 + r.fmod 3)) (ws := pls.map wordOf) (vs := valsL) (sp := speL) BB (by k_asm) (by k_asm) (by k_asm) (by k_asm) (by rfl) (by ktr_room) (by ktr_units) (by k_mem) (by k_mem) (by k_mem) (by k_mem) hjs3 ehs hvv hsv wl vl sl hjs2.len.1 hjs2.len.2 hjs2.bd (words_ne hpl hjs2.nd hjs2.bd) ?_ (words_len hpl) vals_len spes_len
        intro tB tnB n9 rows9 v1 v2 v3 h13 tk13 p9 s9 p9' s9' F13 N14 l14
        obtain ⟨e1, e2, e3⟩ := due_eq hB ⟨n9, rows9, p9, s9, p9', s9', rfl, rfl, rfl⟩
        rw [← e1, ← e2, ← e3] at N14
        clear e1 e2 e3 p9 s9 p9' s9'
        have l14a := ltHd2 l14
        try dsimp only at F13 N14 ⊢
        have hBok := due_ok hpl hjs2 hB
        have fi0 : 0 ≤ (i : Int).fmod 3 := Int.fmod_nonneg_of_pos _ (by decide)
        have fi3 : (i : Int).fmod 3 < 3 := Int.fmod_lt_of_pos _ (by decide)
        obtain ⟨d, d0, dI, dN, dx, dy, dE⟩ := turn_lev hpl hok (by omega) (by omega) hdueA hB i
        have hwlen : (wAt (pls.map wordOf) (1 + r.fmod 3)).length < 1000 := (word_clean hpl ⟨by omega, by omega⟩).1.2
        have hslen : (wAt speL (1 + r.fmod 3)).length < 1000 := (escF_val ⟨by omega, by omega⟩).2.2.1
        k_with "call builtin:len" => (k_here; (with_reducible show wpAny _ _ (call (Value.builtin "len") [Value.str _ _]) _ _ _); refine SBL.len (by omega) ?_; (try dsimp only))
        k_with "compareOp NotEq ref ref" => (k_here; k_dflt (refine' ne_three ?neA ?neB ?neX ?neU ?_; (case neA => exact News.isList (by k_asm) (by k_mem)); (case neB => exact News.isList (by k_asm) (by k_mem)); (case neX => exact hBok); (case neU => ktr_units)))
        k_with "subscriptTail List cons BinOp ref int" => (refine Hold.out ?_)
        k_with "subscriptTail Name BinOp ref int" => (refine Hold.out ?_)
        k_steps
        unfold Hold
        try dsimp only
        refine (show wpAny _ _ _ _ _ _ from ?_)
        refine' (item_int (h0 := ?f0) (h1 := ?ljb) (hz := ?lz) (hl := ?ljL) (hi := ?ljI) (h := ?nxt) (hs := ?hs) : wpAny _ _ _ _ _ _)
        case ljL => exact News.isList (items := [_, _, _].toArray) (by k_asm) (by k_mem)
        case ljI => exact .cons _ _ (.cons _ _ (.cons _ _ .nil))
        case ljb => exact fi3
        case f0 => exact fi0
        case lz => show (3 : Nat) < 100; decide
        case hs => with_unfolding_all rfl
        case nxt =>
        intro tI
        k_steps
        unfold Hold
        try dsimp only
        refine (show wpAny _ _ _ _ _ _ from ?_)
        refine' (item_sv (h0 := ?f0) (h1 := ?ljb) (hz := ?lz) (hl := ?ljL) (hst := ?ljI) (h := ?nxt) (hs := ?hs) : wpAny _ _ _ _ _ _)
        case ljL => exact News.isList (items := [_, _, _].toArray) (by k_asm) (by k_mem)
        case ljI => exact .cons _ _ (.cons _ _ (.cons _ _ .nil))
        case ljb => exact fi3
        case f0 => exact fi0
        case lz => show (3 : Nat) < 100; decide
        case hs => with_unfolding_all rfl
        case nxt =>
        intro tJ
        k_steps
        unfold Hold
        try dsimp only
        refine (show wpAny _ _ _ _ _ _ from ?_)
        refine' (item_sv (h0 := ?f0) (h1 := ?ljb) (hz := ?lz) (hl := ?ljL) (hst := ?ljI) (h := ?nxt) (hs := ?hs) : wpAny _ _ _ _ _ _)
        case ljL => exact News.isList (items := [_, _, _].toArray) (by k_asm) (by k_mem)
        case ljI => exact .cons _ _ (.cons _ _ (.cons _ _ .nil))
        case ljb => exact fi3
        case f0 => exact fi0
        case lz => show (3 : Nat) < 100; decide
        case hs => with_unfolding_all rfl
        case nxt =>
        intro tK
        k_steps
        unfold Hold
        refine (show wpAny _ _ _ _ _ _ from ?_)
        refine' lev (d := d) ?vB ?vF ?vX ?vN ?vT ?vk ?vd ?vu d0 dI dN dx dy ?_
        case vB => exact BB
        case vF => k_asm
        case vX => k_asm
        case vN => k_asm
        case vT => k_asm
        case vk => rfl
        case vd => ktr_room
        case vu => ktr_units
        intro u15 h15 tk15 F15 N15
        try dsimp only at F15 N15 ⊢
        k_steps
        · exact absurd dE (by assumption)
        rename Fr _ _ _ _ => FZ
        rename News _ _ _ _ => NZ
        refine hQz _ _ ?_
        refine' ⟨rfl, _, _, _, _, _, _, rfl, hbg.trans cb, frM FZ (lawM_turn _ _ _ _ _ _ _ _ _ _ _ _ _ _ _ _ _ _ _), turn_news NZ, lawL_off off ?za ?zb (fun p hp => (hr30 p hp).2.2.2), ⟨_, _, _, _, _, _, _, _, _, _, _, _, _, _, _, _, _, _, _, _, _, _, rfl, rfl, hjs3, hjs2, hrows3, hB, ?zc, hlam3, (fun p hp => ⟨(hr30 p hp).1, (hr30 p hp).2.1, (hr30 p hp).2.2.1⟩), ?zd, l5a, l5z⟩⟩
        case za => show @Ne Nat _ _; k_ne
        case zb => exact l5i
        case zc => assumption
        case zd => show @LT.lt Nat _ _ _; first | walk_at "chain" | omega
end Mine
end

set_option maxHeartbeats 0 in
theorem PySem.Challenge.cw_sw0083_01_holds : PySem.Challenge.rw_sw0083_01.Holds := by
  exact Mine.lawT
