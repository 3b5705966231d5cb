import PyProof.Rows.All
import Wide.All
import OpenK.AllK
import Wide.FinOn
import KE.KItem
import PyProof.StrLawsReplace
import PySem.Challenge.RW_ij0015_01
set_option Elab.async false
namespace Mine
section
open PySem PySem.W PyProof.Rows
abbrev PR := PySem.Challenge.pw_ij0015_01
def fpar : Option Stmt → Arguments
  | some (.FunctionDef _ a ..) => a
  | _ => default
def fbod : Option Stmt → List Stmt
  | some (.FunctionDef _ _ b ..) => b
  | _ => []
def fsco : Option Stmt → Scope
  | some (.FunctionDef _ _ _ _ _ _ s ..) => s
  | _ => default
set_option maxRecDepth 100000 in
set_option maxHeartbeats 8000000 in
noncomputable def heapL : Params → Frag := (fun (p4 : Arguments) (_ : fpar PR.main.body[4]? = p4) (b4 : List Stmt) (_ : fbod PR.main.body[4]? = b4) (s4 : Scope) (_ : fsco PR.main.body[4]? = s4) (p6 : Arguments) (_ : fpar PR.main.body[6]? = p6) (b6 : List Stmt) (_ : fbod PR.main.body[6]? = b6) (s6 : Scope) (_ : fsco PR.main.body[6]? = s6) (p8 : Arguments) (_ : fpar PR.main.body[8]? = p8) (b8 : List Stmt) (_ : fbod PR.main.body[8]? = b8) (s8 : Scope) (_ : fsco PR.main.body[8]? = s8) (p9 : Arguments) (_ : fpar PR.main.body[9]? = p9) (b9 : List Stmt) (_ : fbod PR.main.body[9]? = b9) (s9 : Scope) (_ : fsco PR.main.body[9]? = s9) (p11 : Arguments) (_ : fpar PR.main.body[11]? = p11) (b11 : List Stmt) (_ : fbod PR.main.body[11]? = b11) (s11 : Scope) (_ : fsco PR.main.body[11]? = s11) (p12 : Arguments) (_ : fpar PR.main.body[12]? = p12) (b12 : List Stmt) (_ : fbod PR.main.body[12]? = b12) (s12 : Scope) (_ : fsco PR.main.body[12]? = s12) (p13 : Arguments) (_ : fpar PR.main.body[13]? = p13) (b13 : List Stmt) (_ : fbod PR.main.body[13]? = b13) (s13 : Scope) (_ : fsco PR.main.body[13]? = s13) (p14 : Arguments) (_ : fpar PR.main.body[14]? = p14) (b14 : List Stmt) (_ : fbod PR.main.body[14]? = b14) (s14 : Scope) (_ : fsco PR.main.body[14]? = s14) (p15 : Arguments) (_ : fpar PR.main.body[15]? = p15) (b15 : List Stmt) (_ : fbod PR.main.body[15]? = b15) (s15 : Scope) (_ : fsco PR.main.body[15]? = s15) (p16 : Arguments) (_ : fpar PR.main.body[16]? = p16) (b16 : List Stmt) (_ : fbod PR.main.body[16]? = b16) (s16 : Scope) (_ : fsco PR.main.body[16]? = s16) (p17 : Arguments) (_ : fpar PR.main.body[17]? = p17) (b17 : List Stmt) (_ : fbod PR.main.body[17]? = b17) (s17 : Scope) (_ : fsco PR.main.body[17]? = s17) (p18 : Arguments) (_ : fpar PR.main.body[18]? = p18) (b18 : List Stmt) (_ : fbod PR.main.body[18]? = b18) (s18 : Scope) (_ : fsco PR.main.body[18]? = s18) (p19 : Arguments) (_ : fpar PR.main.body[19]? = p19) (b19 : List Stmt) (_ : fbod PR.main.body[19]? = b19) (s19 : Scope) (_ : fsco PR.main.body[19]? = s19) (p20 : Arguments) (_ : fpar PR.main.body[20]? = p20) (b20 : List Stmt) (_ : fbod PR.main.body[20]? = b20) (s20 : Scope) (_ : fsco PR.main.body[20]? = s20) =>
  fun (P : Params) =>
  List.cons (α := Nat × Obj) (nat_lit 3,
      { cls := PySem.Value.type "dict",
        data :=
          PySem.Data.dict
            #[{ hash := PySem.PyData.keyHash P (Str.ofString "__name__"), key := PySem.Value.str (Str.ofString "__name__") (165 : Nat), val := PySem.Value.str (Str.ofString "law_ij0015_01") (513 : Nat) },
              { hash := PySem.PyData.keyHash P (Str.ofString "__doc__"), key := PySem.Value.str (Str.ofString "__doc__") (166 : Nat), val := PySem.Value.none },
              { hash := PySem.PyData.keyHash P (Str.ofString "__package__"), key := PySem.Value.str (Str.ofString "__package__") (167 : Nat), val := PySem.Value.none },
              { hash := PySem.PyData.keyHash P (Str.ofString "__loader__"), key := PySem.Value.str (Str.ofString "__loader__") (168 : Nat), val := PySem.Value.builtin "__main__.__loader__#opaque" },
              { hash := PySem.PyData.keyHash P (Str.ofString "__spec__"), key := PySem.Value.str (Str.ofString "__spec__") (169 : Nat), val := PySem.Value.none },
              { hash := PySem.PyData.keyHash P (Str.ofString "__annotations__"), key := PySem.Value.str (Str.ofString "__annotations__") (170 : Nat), val := PySem.Value.ref (6 : Nat) },
              { hash := PySem.PyData.keyHash P (Str.ofString "__builtins__"), key := PySem.Value.str (Str.ofString "__builtins__") (171 : Nat), val := PySem.Value.ref (4 : Nat) },
              { hash := PySem.PyData.keyHash P (Str.ofString "__file__"), key := PySem.Value.str (Str.ofString "__file__") (173 : Nat), val := PySem.Value.str (Str.ofString "/claim/cut.py") (172 : Nat) },
              { hash := PySem.PyData.keyHash P (Str.ofString "__cached__"), key := PySem.Value.str (Str.ofString "__cached__") (174 : Nat), val := PySem.Value.none },
              { hash := PySem.PyData.keyHash P (Str.ofString "_sre"), key := PySem.Value.str (Str.ofString "_sre") (275 : Nat), val := PySem.Value.ref (12 : Nat) },
              { hash := PySem.PyData.keyHash P (Str.ofString "_twin_re_1"), key := PySem.Value.str (Str.ofString "_twin_re_1") (319 : Nat), val := PySem.Value.ref (36 : Nat) },
              { hash := PySem.PyData.keyHash P (Str.ofString "_special_chars_map"), key := PySem.Value.str (Str.ofString "_special_chars_map") (467 : Nat), val := PySem.Value.ref (38 : Nat) },
              { hash := PySem.PyData.keyHash P (Str.ofString "escape"), key := PySem.Value.str (Str.ofString "escape") (474 : Nat), val := PySem.Value.ref (48 : Nat) },
              { hash := PySem.PyData.keyHash P (Str.ofString "_translate"), key := PySem.Value.str (Str.ofString "_translate") (495 : Nat), val := PySem.Value.ref (55 : Nat) },
              { hash := PySem.PyData.keyHash P (Str.ofString "_strcoll"), key := PySem.Value.str (Str.ofString "_strcoll") (505 : Nat), val := PySem.Value.ref (62 : Nat) },
              { hash := PySem.PyData.keyHash P (Str.ofString "_strxfrm"), key := PySem.Value.str (Str.ofString "_strxfrm") (512 : Nat), val := PySem.Value.ref (69 : Nat) },
              { hash := PySem.PyData.keyHash P (Str.ofString "_law_sign"), key := PySem.Value.str (Str.ofString "_law_sign") (522 : Nat), val := PySem.Value.ref (76 : Nat) },
              { hash := PySem.PyData.keyHash P (Str.ofString "_law_texts"), key := PySem.Value.str (Str.ofString "_law_texts") (528 : Nat), val := PySem.Value.ref (81 : Nat) },
              { hash := PySem.PyData.keyHash P (Str.ofString "_law_row"), key := PySem.Value.str (Str.ofString "_law_row") (534 : Nat), val := PySem.Value.ref (86 : Nat) },
              { hash := PySem.PyData.keyHash P (Str.ofString "_law_plain"), key := PySem.Value.str (Str.ofString "_law_plain") (542 : Nat), val := PySem.Value.ref (93 : Nat) },
              { hash := PySem.PyData.keyHash P (Str.ofString "_law_set"), key := PySem.Value.str (Str.ofString "_law_set") (552 : Nat), val := PySem.Value.ref (100 : Nat) },
              { hash := PySem.PyData.keyHash P (Str.ofString "_law_told"), key := PySem.Value.str (Str.ofString "_law_told") (558 : Nat), val := PySem.Value.ref (105 : Nat) },
              { hash := PySem.PyData.keyHash P (Str.ofString "_law_order"), key := PySem.Value.str (Str.ofString "_law_order") (569 : Nat), val := PySem.Value.ref (112 : Nat) },
              { hash := PySem.PyData.keyHash P (Str.ofString "_law_same"), key := PySem.Value.str (Str.ofString "_law_same") (577 : Nat), val := PySem.Value.ref (119 : Nat) },
              { hash := PySem.PyData.keyHash P (Str.ofString "_law_pair"), key := PySem.Value.str (Str.ofString "_law_pair") (589 : Nat), val := PySem.Value.ref (126 : Nat) },
              { hash := PySem.PyData.keyHash P (Str.ofString "law"), key := PySem.Value.str (Str.ofString "law") (601 : Nat), val := PySem.Value.ref (133 : Nat) }]
            (26 : Nat) }) <|
    List.cons (nat_lit 6, { cls := PySem.Value.type "dict", data := PySem.Data.dict #[] }) <|
    List.cons (nat_lit 11,
      { cls := PySem.Value.type "dict",
        data :=
          PySem.Data.dict
            #[{ hash := PySem.PyData.keyHash P (Str.ofString "__name__"), key := PySem.Value.str (Str.ofString "__name__") (247 : Nat), val := PySem.Value.str (Str.ofString "_sre") (246 : Nat) },
              { hash := PySem.PyData.keyHash P (Str.ofString "__doc__"), key := PySem.Value.str (Str.ofString "__doc__") (248 : Nat), val := PySem.Value.none },
              { hash := PySem.PyData.keyHash P (Str.ofString "__package__"), key := PySem.Value.str (Str.ofString "__package__") (250 : Nat), val := PySem.Value.str (Str.ofString "") (249 : Nat) },
              { hash := PySem.PyData.keyHash P (Str.ofString "__loader__"), key := PySem.Value.str (Str.ofString "__loader__") (251 : Nat), val := PySem.Value.builtin "off-the-table:_sre.__loader__:shared#opaque" },
              { hash := PySem.PyData.keyHash P (Str.ofString "__spec__"), key := PySem.Value.str (Str.ofString "__spec__") (252 : Nat), val := PySem.Value.builtin "off-the-table:_sre.__spec__:shared#opaque" },
              { hash := PySem.PyData.keyHash P (Str.ofString "compile"), key := PySem.Value.str (Str.ofString "compile") (253 : Nat), val := PySem.Value.builtin "_sre.compile" },
              { hash := PySem.PyData.keyHash P (Str.ofString "template"), key := PySem.Value.str (Str.ofString "template") (254 : Nat), val := PySem.Value.builtin "off-the-table:_sre.template:shared#opaque" },
              { hash := PySem.PyData.keyHash P (Str.ofString "getcodesize"), key := PySem.Value.str (Str.ofString "getcodesize") (255 : Nat), val := PySem.Value.builtin "off-the-table:_sre.getcodesize:shared#opaque" },
              { hash := PySem.PyData.keyHash P (Str.ofString "ascii_iscased"), key := PySem.Value.str (Str.ofString "ascii_iscased") (256 : Nat), val := PySem.Value.builtin "off-the-table:_sre.ascii_iscased:shared#opaque" },
              { hash := PySem.PyData.keyHash P (Str.ofString "unicode_iscased"), key := PySem.Value.str (Str.ofString "unicode_iscased") (257 : Nat),
                val := PySem.Value.builtin "off-the-table:_sre.unicode_iscased:shared#opaque" },
              { hash := PySem.PyData.keyHash P (Str.ofString "ascii_tolower"), key := PySem.Value.str (Str.ofString "ascii_tolower") (258 : Nat), val := PySem.Value.builtin "off-the-table:_sre.ascii_tolower:shared#opaque" },
              { hash := PySem.PyData.keyHash P (Str.ofString "unicode_tolower"), key := PySem.Value.str (Str.ofString "unicode_tolower") (259 : Nat),
                val := PySem.Value.builtin "off-the-table:_sre.unicode_tolower:shared#opaque" },
              { hash := PySem.PyData.keyHash P (Str.ofString "MAGIC"), key := PySem.Value.str (Str.ofString "MAGIC") (261 : Nat), val := PySem.Value.int (20230612 : Int) (260 : Nat) },
              { hash := PySem.PyData.keyHash P (Str.ofString "CODESIZE"), key := PySem.Value.str (Str.ofString "CODESIZE") (263 : Nat), val := PySem.Value.int (4 : Int) (262 : Nat) },
              { hash := PySem.PyData.keyHash P (Str.ofString "MAXREPEAT"), key := PySem.Value.str (Str.ofString "MAXREPEAT") (265 : Nat), val := PySem.Value.int (4294967295 : Int) (264 : Nat) },
              { hash := PySem.PyData.keyHash P (Str.ofString "MAXGROUPS"), key := PySem.Value.str (Str.ofString "MAXGROUPS") (267 : Nat), val := PySem.Value.int (1073741823 : Int) (266 : Nat) },
              { hash := PySem.PyData.keyHash P (Str.ofString "copyright"), key := PySem.Value.str (Str.ofString "copyright") (269 : Nat),
                val := PySem.Value.str (Str.ofString " SRE 2.2.2 Copyright (c) 1997-2002 by Secret Labs AB ") (268 : Nat) }]
            (17 : Nat) }) <|
    List.cons (nat_lit 12, { cls := PySem.Value.type "module", dict := Option.some (11 : Nat) }) <|
    List.cons (nat_lit 35,
      { cls := PySem.Value.type "tuple",
        data :=
          PySem.Data.seq
            #[PySem.Value.int (14 : Int) (0 : Nat), PySem.Value.int (14 : Int) (0 : Nat), PySem.Value.int (4 : Int) (0 : Nat), PySem.Value.int (1 : Int) (0 : Nat), PySem.Value.int (1 : Int) (0 : Nat), PySem.Value.int (9 : Int) (0 : Nat),
              PySem.Value.int (0 : Int) (0 : Nat), PySem.Value.int (64 : Int) (0 : Nat), PySem.Value.int (0 : Int) (0 : Nat), PySem.Value.int (1342177280 : Int) (0 : Nat), PySem.Value.int (0 : Int) (0 : Nat),
              PySem.Value.int (0 : Int) (0 : Nat), PySem.Value.int (0 : Int) (0 : Nat), PySem.Value.int (0 : Int) (0 : Nat), PySem.Value.int (0 : Int) (0 : Nat), PySem.Value.int (17 : Int) (0 : Nat), PySem.Value.int (0 : Int) (0 : Nat),
              PySem.Value.int (13 : Int) (0 : Nat), PySem.Value.int (11 : Int) (0 : Nat), PySem.Value.int (9 : Int) (0 : Nat), PySem.Value.int (0 : Int) (0 : Nat), PySem.Value.int (64 : Int) (0 : Nat), PySem.Value.int (0 : Int) (0 : Nat),
              PySem.Value.int (1342177280 : Int) (0 : Nat), PySem.Value.int (0 : Int) (0 : Nat), PySem.Value.int (0 : Int) (0 : Nat), PySem.Value.int (0 : Int) (0 : Nat), PySem.Value.int (0 : Int) (0 : Nat),
              PySem.Value.int (0 : Int) (0 : Nat), PySem.Value.int (17 : Int) (0 : Nat), PySem.Value.int (1 : Int) (0 : Nat), PySem.Value.int (1 : Int) (0 : Nat)] }) <|
    List.cons (nat_lit 36,
      { cls := PySem.Value.type "re.Pattern",
        data :=
          PySem.Data.fields
            #[PySem.Value.str (Str.ofString "([&~|])") (283 : Nat), PySem.Value.int (32 : Int) (318 : Nat), PySem.Value.int (1 : Int) (0 : Nat), PySem.Value.none, PySem.Value.none, PySem.Value.ref (35 : Nat),
              PySem.Value.int (0 : Int) (0 : Nat)] }) <|
    List.cons (nat_lit 38,
      { cls := PySem.Value.type "dict",
        data :=
          PySem.Data.dict
            #[{ hash := (40 : Int), key := PySem.Value.int (40 : Int) (323 : Nat), val := PySem.Value.str (Str.ofString "\\(") (327 : Nat) },
              { hash := (41 : Int), key := PySem.Value.int (41 : Int) (329 : Nat), val := PySem.Value.str (Str.ofString "\\)") (333 : Nat) },
              { hash := (91 : Int), key := PySem.Value.int (91 : Int) (335 : Nat), val := PySem.Value.str (Str.ofString "\\[") (339 : Nat) },
              { hash := (93 : Int), key := PySem.Value.int (93 : Int) (341 : Nat), val := PySem.Value.str (Str.ofString "\\]") (345 : Nat) },
              { hash := (123 : Int), key := PySem.Value.int (123 : Int) (347 : Nat), val := PySem.Value.str (Str.ofString "\\{") (351 : Nat) },
              { hash := (125 : Int), key := PySem.Value.int (125 : Int) (353 : Nat), val := PySem.Value.str (Str.ofString "\\}") (357 : Nat) },
              { hash := (63 : Int), key := PySem.Value.int (63 : Int) (359 : Nat), val := PySem.Value.str (Str.ofString "\\?") (363 : Nat) },
              { hash := (42 : Int), key := PySem.Value.int (42 : Int) (365 : Nat), val := PySem.Value.str (Str.ofString "\\*") (369 : Nat) },
              { hash := (43 : Int), key := PySem.Value.int (43 : Int) (371 : Nat), val := PySem.Value.str (Str.ofString "\\+") (375 : Nat) },
              { hash := (45 : Int), key := PySem.Value.int (45 : Int) (377 : Nat), val := PySem.Value.str (Str.ofString "\\-") (381 : Nat) },
              { hash := (124 : Int), key := PySem.Value.int (124 : Int) (383 : Nat), val := PySem.Value.str (Str.ofString "\\|") (387 : Nat) },
              { hash := (94 : Int), key := PySem.Value.int (94 : Int) (389 : Nat), val := PySem.Value.str (Str.ofString "\\^") (393 : Nat) },
              { hash := (36 : Int), key := PySem.Value.int (36 : Int) (395 : Nat), val := PySem.Value.str (Str.ofString "\\$") (399 : Nat) },
              { hash := (92 : Int), key := PySem.Value.int (92 : Int) (401 : Nat), val := PySem.Value.str (Str.ofString "\\\\") (405 : Nat) },
              { hash := (46 : Int), key := PySem.Value.int (46 : Int) (407 : Nat), val := PySem.Value.str (Str.ofString "\\.") (411 : Nat) },
              { hash := (38 : Int), key := PySem.Value.int (38 : Int) (413 : Nat), val := PySem.Value.str (Str.ofString "\\&") (417 : Nat) },
              { hash := (126 : Int), key := PySem.Value.int (126 : Int) (419 : Nat), val := PySem.Value.str (Str.ofString "\\~") (423 : Nat) },
              { hash := (35 : Int), key := PySem.Value.int (35 : Int) (425 : Nat), val := PySem.Value.str (Str.ofString "\\#") (429 : Nat) },
              { hash := (32 : Int), key := PySem.Value.int (32 : Int) (431 : Nat), val := PySem.Value.str (Str.ofString "\\ ") (435 : Nat) },
              { hash := (9 : Int), key := PySem.Value.int (9 : Int) (437 : Nat), val := PySem.Value.str (Str.ofString "\\\t") (441 : Nat) },
              { hash := (10 : Int), key := PySem.Value.int (10 : Int) (443 : Nat), val := PySem.Value.str (Str.ofString "\\\n") (447 : Nat) },
              { hash := (13 : Int), key := PySem.Value.int (13 : Int) (449 : Nat), val := PySem.Value.str (Str.ofString "\\\x0d") (453 : Nat) },
              { hash := (11 : Int), key := PySem.Value.int (11 : Int) (455 : Nat), val := PySem.Value.str (Str.ofString "\\\x0b") (459 : Nat) },
              { hash := (12 : Int), key := PySem.Value.int (12 : Int) (461 : Nat), val := PySem.Value.str (Str.ofString "\\\x0c") (465 : Nat) }]
            (24 : Nat) }) <|
    List.cons (nat_lit 42, { cls := PySem.Value.type "tuple", data := PySem.Data.seq #[] }) <|
    List.cons (nat_lit 44, { cls := PySem.Value.type "tuple", data := PySem.Data.seq #[PySem.Value.str (Str.ofString "pattern") (471 : Nat)] }) <|
    List.cons (nat_lit 45, { cls := PySem.Value.type "tuple", data := PySem.Data.seq #[] }) <|
    List.cons (nat_lit 47,
      { cls := PySem.Value.type "code",
        data :=
          PySem.Data.fields
            #[PySem.Value.str (Str.ofString "escape") (468 : Nat), PySem.Value.str (Str.ofString "escape") (469 : Nat), PySem.Value.str (Str.ofString "/claim/cut.py") (470 : Nat), PySem.Value.int (5 : Int) (0 : Nat),
              PySem.Value.int (1 : Int) (0 : Nat), PySem.Value.int (0 : Int) (0 : Nat), PySem.Value.int (0 : Int) (0 : Nat), PySem.Value.int (3 : Int) (0 : Nat), PySem.Value.ref (42 : Nat), PySem.Value.bool Bool.true,
              PySem.Value.int (276 : Int) (0 : Nat), PySem.Value.ref (43 : Nat), PySem.Value.none, PySem.Value.ref (44 : Nat), PySem.Value.ref (45 : Nat), PySem.Value.ref (46 : Nat), PySem.Value.int (472 : Int) (0 : Nat),
              PySem.Value.int (5 : Int) (0 : Nat), PySem.Value.str (Str.ofString "/claim/cut.py") (473 : Nat)] }) <|
    List.cons (nat_lit 48,
      { cls := PySem.Value.type "function",
        data :=
          PySem.Data.func
            { name := Str.ofString "escape", qualname := Str.ofString "escape", params := p4, body := PySem.FuncBody.stmts b4, scope := s4, globals := (3 : Nat), closure := [], defaults := PySem.Value.none,
              kwdefaults := PySem.Value.none, pyModule := PySem.Value.str (Str.ofString "re") (320 : Nat), code := PySem.Value.ref (47 : Nat) } }) <|
    List.cons (nat_lit 49, { cls := PySem.Value.type "tuple", data := PySem.Data.seq #[] }) <|
    List.cons (nat_lit 51,
      { cls := PySem.Value.type "tuple",
        data :=
          PySem.Data.seq
            #[PySem.Value.str (Str.ofString "pat") (480 : Nat), PySem.Value.str (Str.ofString "STAR") (481 : Nat), PySem.Value.str (Str.ofString "QUESTION_MARK") (482 : Nat),
              PySem.Value.str (Str.ofString "res") (483 : Nat), PySem.Value.str (Str.ofString "add") (484 : Nat), PySem.Value.str (Str.ofString "i") (485 : Nat), PySem.Value.str (Str.ofString "n") (486 : Nat),
              PySem.Value.str (Str.ofString "c") (487 : Nat), PySem.Value.str (Str.ofString "j") (488 : Nat), PySem.Value.str (Str.ofString "stuff") (489 : Nat), PySem.Value.str (Str.ofString "chunks") (490 : Nat),
              PySem.Value.str (Str.ofString "k") (491 : Nat), PySem.Value.str (Str.ofString "chunk") (492 : Nat)] }) <|
    List.cons (nat_lit 52, { cls := PySem.Value.type "tuple", data := PySem.Data.seq #[] }) <|
    List.cons (nat_lit 54,
      { cls := PySem.Value.type "code",
        data :=
          PySem.Data.fields
            #[PySem.Value.str (Str.ofString "_translate") (477 : Nat), PySem.Value.str (Str.ofString "_translate") (478 : Nat), PySem.Value.str (Str.ofString "/claim/cut.py") (479 : Nat),
              PySem.Value.int (12 : Int) (0 : Nat), PySem.Value.int (3 : Int) (0 : Nat), PySem.Value.int (0 : Int) (0 : Nat), PySem.Value.int (0 : Int) (0 : Nat), PySem.Value.int (3 : Int) (0 : Nat), PySem.Value.ref (49 : Nat),
              PySem.Value.bool Bool.true, PySem.Value.int (276 : Int) (0 : Nat), PySem.Value.ref (50 : Nat), PySem.Value.none, PySem.Value.ref (51 : Nat), PySem.Value.ref (52 : Nat), PySem.Value.ref (53 : Nat),
              PySem.Value.int (493 : Int) (0 : Nat), PySem.Value.int (12 : Int) (0 : Nat), PySem.Value.str (Str.ofString "/claim/cut.py") (494 : Nat)] }) <|
    List.cons (nat_lit 55,
      { cls := PySem.Value.type "function",
        data :=
          PySem.Data.func
            { name := Str.ofString "_translate", qualname := Str.ofString "_translate", params := p6, body := PySem.FuncBody.stmts b6, scope := s6, globals := (3 : Nat), closure := [], defaults := PySem.Value.none,
              kwdefaults := PySem.Value.none, pyModule := PySem.Value.str (Str.ofString "cpy313.fnmatch") (475 : Nat), code := PySem.Value.ref (54 : Nat) } }) <|
    List.cons (nat_lit 56, { cls := PySem.Value.type "tuple", data := PySem.Data.seq #[] }) <|
    List.cons (nat_lit 58, { cls := PySem.Value.type "tuple", data := PySem.Data.seq #[PySem.Value.str (Str.ofString "a") (501 : Nat), PySem.Value.str (Str.ofString "b") (502 : Nat)] }) <|
    List.cons (nat_lit 59, { cls := PySem.Value.type "tuple", data := PySem.Data.seq #[] }) <|
    List.cons (nat_lit 61,
      { cls := PySem.Value.type "code",
        data :=
          PySem.Data.fields
            #[PySem.Value.str (Str.ofString "_strcoll") (498 : Nat), PySem.Value.str (Str.ofString "_strcoll") (499 : Nat), PySem.Value.str (Str.ofString "/claim/cut.py") (500 : Nat), PySem.Value.int (75 : Int) (0 : Nat),
              PySem.Value.int (2 : Int) (0 : Nat), PySem.Value.int (0 : Int) (0 : Nat), PySem.Value.int (0 : Int) (0 : Nat), PySem.Value.int (3 : Int) (0 : Nat), PySem.Value.ref (56 : Nat), PySem.Value.bool Bool.true,
              PySem.Value.int (276 : Int) (0 : Nat), PySem.Value.ref (57 : Nat), PySem.Value.none, PySem.Value.ref (58 : Nat), PySem.Value.ref (59 : Nat), PySem.Value.ref (60 : Nat), PySem.Value.int (503 : Int) (0 : Nat),
              PySem.Value.int (75 : Int) (0 : Nat), PySem.Value.str (Str.ofString "/claim/cut.py") (504 : Nat)] }) <|
    List.cons (nat_lit 62,
      { cls := PySem.Value.type "function",
        data :=
          PySem.Data.func
            { name := Str.ofString "_strcoll", qualname := Str.ofString "_strcoll", params := p8, body := PySem.FuncBody.stmts b8, scope := s8, globals := (3 : Nat), closure := [], defaults := PySem.Value.none,
              kwdefaults := PySem.Value.none, pyModule := PySem.Value.str (Str.ofString "cpy313.locale") (496 : Nat), code := PySem.Value.ref (61 : Nat) } }) <|
    List.cons (nat_lit 63, { cls := PySem.Value.type "tuple", data := PySem.Data.seq #[] }) <|
    List.cons (nat_lit 65, { cls := PySem.Value.type "tuple", data := PySem.Data.seq #[PySem.Value.str (Str.ofString "s") (509 : Nat)] }) <|
    List.cons (nat_lit 66, { cls := PySem.Value.type "tuple", data := PySem.Data.seq #[] }) <|
    List.cons (nat_lit 68,
      { cls := PySem.Value.type "code",
        data :=
          PySem.Data.fields
            #[PySem.Value.str (Str.ofString "_strxfrm") (506 : Nat), PySem.Value.str (Str.ofString "_strxfrm") (507 : Nat), PySem.Value.str (Str.ofString "/claim/cut.py") (508 : Nat), PySem.Value.int (77 : Int) (0 : Nat),
              PySem.Value.int (1 : Int) (0 : Nat), PySem.Value.int (0 : Int) (0 : Nat), PySem.Value.int (0 : Int) (0 : Nat), PySem.Value.int (3 : Int) (0 : Nat), PySem.Value.ref (63 : Nat), PySem.Value.bool Bool.true,
              PySem.Value.int (276 : Int) (0 : Nat), PySem.Value.ref (64 : Nat), PySem.Value.none, PySem.Value.ref (65 : Nat), PySem.Value.ref (66 : Nat), PySem.Value.ref (67 : Nat), PySem.Value.int (510 : Int) (0 : Nat),
              PySem.Value.int (77 : Int) (0 : Nat), PySem.Value.str (Str.ofString "/claim/cut.py") (511 : Nat)] }) <|
    List.cons (nat_lit 69,
      { cls := PySem.Value.type "function",
        data :=
          PySem.Data.func
            { name := Str.ofString "_strxfrm", qualname := Str.ofString "_strxfrm", params := p9, body := PySem.FuncBody.stmts b9, scope := s9, globals := (3 : Nat), closure := [], defaults := PySem.Value.none,
              kwdefaults := PySem.Value.none, pyModule := PySem.Value.str (Str.ofString "cpy313.locale") (496 : Nat), code := PySem.Value.ref (68 : Nat) } }) <|
    List.cons (nat_lit 70, { cls := PySem.Value.type "tuple", data := PySem.Data.seq #[] }) <|
    List.cons (nat_lit 72, { cls := PySem.Value.type "tuple", data := PySem.Data.seq #[PySem.Value.str (Str.ofString "number") (518 : Nat), PySem.Value.str (Str.ofString "place") (519 : Nat)] }) <|
    List.cons (nat_lit 73, { cls := PySem.Value.type "tuple", data := PySem.Data.seq #[] }) <|
    List.cons (nat_lit 75,
      { cls := PySem.Value.type "code",
        data :=
          PySem.Data.fields
            #[PySem.Value.str (Str.ofString "_law_sign") (515 : Nat), PySem.Value.str (Str.ofString "_law_sign") (516 : Nat), PySem.Value.str (Str.ofString "/claim/cut.py") (517 : Nat),
              PySem.Value.int (80 : Int) (0 : Nat), PySem.Value.int (1 : Int) (0 : Nat), PySem.Value.int (0 : Int) (0 : Nat), PySem.Value.int (0 : Int) (0 : Nat), PySem.Value.int (3 : Int) (0 : Nat), PySem.Value.ref (70 : Nat),
              PySem.Value.bool Bool.true, PySem.Value.int (276 : Int) (0 : Nat), PySem.Value.ref (71 : Nat), PySem.Value.none, PySem.Value.ref (72 : Nat), PySem.Value.ref (73 : Nat), PySem.Value.ref (74 : Nat),
              PySem.Value.int (520 : Int) (0 : Nat), PySem.Value.int (80 : Int) (0 : Nat), PySem.Value.str (Str.ofString "/claim/cut.py") (521 : Nat)] }) <|
    List.cons (nat_lit 76,
      { cls := PySem.Value.type "function",
        data :=
          PySem.Data.func
            { name := Str.ofString "_law_sign", qualname := Str.ofString "_law_sign", params := p11, body := PySem.FuncBody.stmts b11, scope := s11, globals := (3 : Nat), closure := [], defaults := PySem.Value.none,
              kwdefaults := PySem.Value.none, pyModule := PySem.Value.str (Str.ofString "law_ij0015_01") (513 : Nat), code := PySem.Value.ref (75 : Nat) } }) <|
    List.cons (nat_lit 77, { cls := PySem.Value.type "tuple", data := PySem.Data.seq #[] }) <|
    List.cons (nat_lit 80,
      { cls := PySem.Value.type "code",
        data :=
          PySem.Data.fields
            #[PySem.Value.str (Str.ofString "_law_texts") (523 : Nat), PySem.Value.str (Str.ofString "_law_texts") (524 : Nat), PySem.Value.str (Str.ofString "/claim/cut.py") (525 : Nat),
              PySem.Value.int (91 : Int) (0 : Nat), PySem.Value.int (1 : Int) (0 : Nat), PySem.Value.int (0 : Int) (0 : Nat), PySem.Value.int (0 : Int) (0 : Nat), PySem.Value.int (3 : Int) (0 : Nat), PySem.Value.ref (77 : Nat),
              PySem.Value.bool Bool.true, PySem.Value.int (276 : Int) (0 : Nat), PySem.Value.ref (78 : Nat), PySem.Value.none, PySem.Value.none, PySem.Value.none, PySem.Value.ref (79 : Nat), PySem.Value.int (526 : Int) (0 : Nat),
              PySem.Value.int (91 : Int) (0 : Nat), PySem.Value.str (Str.ofString "/claim/cut.py") (527 : Nat)] }) <|
    List.cons (nat_lit 81,
      { cls := PySem.Value.type "function",
        data :=
          PySem.Data.func
            { name := Str.ofString "_law_texts", qualname := Str.ofString "_law_texts", params := p12, body := PySem.FuncBody.stmts b12, scope := s12, globals := (3 : Nat), closure := [], defaults := PySem.Value.none,
              kwdefaults := PySem.Value.none, pyModule := PySem.Value.str (Str.ofString "law_ij0015_01") (513 : Nat), code := PySem.Value.ref (80 : Nat) } }) <|
    List.cons (nat_lit 82, { cls := PySem.Value.type "tuple", data := PySem.Data.seq #[] }) <|
    List.cons (nat_lit 85,
      { cls := PySem.Value.type "code",
        data :=
          PySem.Data.fields
            #[PySem.Value.str (Str.ofString "_law_row") (529 : Nat), PySem.Value.str (Str.ofString "_law_row") (530 : Nat), PySem.Value.str (Str.ofString "/claim/cut.py") (531 : Nat), PySem.Value.int (103 : Int) (0 : Nat),
              PySem.Value.int (2 : Int) (0 : Nat), PySem.Value.int (0 : Int) (0 : Nat), PySem.Value.int (0 : Int) (0 : Nat), PySem.Value.int (3 : Int) (0 : Nat), PySem.Value.ref (82 : Nat), PySem.Value.bool Bool.true,
              PySem.Value.int (276 : Int) (0 : Nat), PySem.Value.ref (83 : Nat), PySem.Value.none, PySem.Value.none, PySem.Value.none, PySem.Value.ref (84 : Nat), PySem.Value.int (532 : Int) (0 : Nat), PySem.Value.int (103 : Int) (0 : Nat),
              PySem.Value.str (Str.ofString "/claim/cut.py") (533 : Nat)] }) <|
    List.cons (nat_lit 86,
      { cls := PySem.Value.type "function",
        data :=
          PySem.Data.func
            { name := Str.ofString "_law_row", qualname := Str.ofString "_law_row", params := p13, body := PySem.FuncBody.stmts b13, scope := s13, globals := (3 : Nat), closure := [], defaults := PySem.Value.none,
              kwdefaults := PySem.Value.none, pyModule := PySem.Value.str (Str.ofString "law_ij0015_01") (513 : Nat), code := PySem.Value.ref (85 : Nat) } }) <|
    List.cons (nat_lit 87, { cls := PySem.Value.type "tuple", data := PySem.Data.seq #[] }) <|
    List.cons (nat_lit 89, { cls := PySem.Value.type "tuple", data := PySem.Data.seq #[PySem.Value.str (Str.ofString "sign") (538 : Nat), PySem.Value.str (Str.ofString "front") (539 : Nat)] }) <|
    List.cons (nat_lit 90, { cls := PySem.Value.type "tuple", data := PySem.Data.seq #[] }) <|
    List.cons (nat_lit 92,
      { cls := PySem.Value.type "code",
        data :=
          PySem.Data.fields
            #[PySem.Value.str (Str.ofString "_law_plain") (535 : Nat), PySem.Value.str (Str.ofString "_law_plain") (536 : Nat), PySem.Value.str (Str.ofString "/claim/cut.py") (537 : Nat),
              PySem.Value.int (106 : Int) (0 : Nat), PySem.Value.int (2 : Int) (0 : Nat), PySem.Value.int (0 : Int) (0 : Nat), PySem.Value.int (0 : Int) (0 : Nat), PySem.Value.int (3 : Int) (0 : Nat), PySem.Value.ref (87 : Nat),
              PySem.Value.bool Bool.true, PySem.Value.int (276 : Int) (0 : Nat), PySem.Value.ref (88 : Nat), PySem.Value.none, PySem.Value.ref (89 : Nat), PySem.Value.ref (90 : Nat), PySem.Value.ref (91 : Nat),
              PySem.Value.int (540 : Int) (0 : Nat), PySem.Value.int (106 : Int) (0 : Nat), PySem.Value.str (Str.ofString "/claim/cut.py") (541 : Nat)] }) <|
    List.cons (nat_lit 93,
      { cls := PySem.Value.type "function",
        data :=
          PySem.Data.func
            { name := Str.ofString "_law_plain", qualname := Str.ofString "_law_plain", params := p14, body := PySem.FuncBody.stmts b14, scope := s14, globals := (3 : Nat), closure := [], defaults := PySem.Value.none,
              kwdefaults := PySem.Value.none, pyModule := PySem.Value.str (Str.ofString "law_ij0015_01") (513 : Nat), code := PySem.Value.ref (92 : Nat) } }) <|
    List.cons (nat_lit 94, { cls := PySem.Value.type "tuple", data := PySem.Data.seq #[] }) <|
    List.cons (nat_lit 96,
      { cls := PySem.Value.type "tuple",
        data :=
          PySem.Data.seq
            #[PySem.Value.str (Str.ofString "pairs") (546 : Nat), PySem.Value.str (Str.ofString "text") (547 : Nat), PySem.Value.str (Str.ofString "a") (548 : Nat), PySem.Value.str (Str.ofString "b") (549 : Nat)] }) <|
    List.cons (nat_lit 97, { cls := PySem.Value.type "tuple", data := PySem.Data.seq #[] }) <|
    List.cons (nat_lit 99,
      { cls := PySem.Value.type "code",
        data :=
          PySem.Data.fields
            #[PySem.Value.str (Str.ofString "_law_set") (543 : Nat), PySem.Value.str (Str.ofString "_law_set") (544 : Nat), PySem.Value.str (Str.ofString "/claim/cut.py") (545 : Nat), PySem.Value.int (110 : Int) (0 : Nat),
              PySem.Value.int (1 : Int) (0 : Nat), PySem.Value.int (0 : Int) (0 : Nat), PySem.Value.int (0 : Int) (0 : Nat), PySem.Value.int (3 : Int) (0 : Nat), PySem.Value.ref (94 : Nat), PySem.Value.bool Bool.true,
              PySem.Value.int (276 : Int) (0 : Nat), PySem.Value.ref (95 : Nat), PySem.Value.none, PySem.Value.ref (96 : Nat), PySem.Value.ref (97 : Nat), PySem.Value.ref (98 : Nat), PySem.Value.int (550 : Int) (0 : Nat),
              PySem.Value.int (110 : Int) (0 : Nat), PySem.Value.str (Str.ofString "/claim/cut.py") (551 : Nat)] }) <|
    List.cons (nat_lit 100,
      { cls := PySem.Value.type "function",
        data :=
          PySem.Data.func
            { name := Str.ofString "_law_set", qualname := Str.ofString "_law_set", params := p15, body := PySem.FuncBody.stmts b15, scope := s15, globals := (3 : Nat), closure := [], defaults := PySem.Value.none,
              kwdefaults := PySem.Value.none, pyModule := PySem.Value.str (Str.ofString "law_ij0015_01") (513 : Nat), code := PySem.Value.ref (99 : Nat) } }) <|
    List.cons (nat_lit 101, { cls := PySem.Value.type "tuple", data := PySem.Data.seq #[] }) <|
    List.cons (nat_lit 104,
      { cls := PySem.Value.type "code",
        data :=
          PySem.Data.fields
            #[PySem.Value.str (Str.ofString "_law_told") (553 : Nat), PySem.Value.str (Str.ofString "_law_told") (554 : Nat), PySem.Value.str (Str.ofString "/claim/cut.py") (555 : Nat),
              PySem.Value.int (118 : Int) (0 : Nat), PySem.Value.int (2 : Int) (0 : Nat), PySem.Value.int (0 : Int) (0 : Nat), PySem.Value.int (0 : Int) (0 : Nat), PySem.Value.int (3 : Int) (0 : Nat), PySem.Value.ref (101 : Nat),
              PySem.Value.bool Bool.true, PySem.Value.int (276 : Int) (0 : Nat), PySem.Value.ref (102 : Nat), PySem.Value.none, PySem.Value.none, PySem.Value.none, PySem.Value.ref (103 : Nat), PySem.Value.int (556 : Int) (0 : Nat),
              PySem.Value.int (118 : Int) (0 : Nat), PySem.Value.str (Str.ofString "/claim/cut.py") (557 : Nat)] }) <|
    List.cons (nat_lit 105,
      { cls := PySem.Value.type "function",
        data :=
          PySem.Data.func
            { name := Str.ofString "_law_told", qualname := Str.ofString "_law_told", params := p16, body := PySem.FuncBody.stmts b16, scope := s16, globals := (3 : Nat), closure := [], defaults := PySem.Value.none,
              kwdefaults := PySem.Value.none, pyModule := PySem.Value.str (Str.ofString "law_ij0015_01") (513 : Nat), code := PySem.Value.ref (104 : Nat) } }) <|
    List.cons (nat_lit 106, { cls := PySem.Value.type "tuple", data := PySem.Data.seq #[] }) <|
    List.cons (nat_lit 108,
      { cls := PySem.Value.type "tuple",
        data :=
          PySem.Data.seq
            #[PySem.Value.str (Str.ofString "one") (562 : Nat), PySem.Value.str (Str.ofString "other") (563 : Nat), PySem.Value.str (Str.ofString "there") (564 : Nat),
              PySem.Value.str (Str.ofString "back") (565 : Nat), PySem.Value.str (Str.ofString "k") (566 : Nat)] }) <|
    List.cons (nat_lit 109, { cls := PySem.Value.type "tuple", data := PySem.Data.seq #[] }) <|
    List.cons (nat_lit 111,
      { cls := PySem.Value.type "code",
        data :=
          PySem.Data.fields
            #[PySem.Value.str (Str.ofString "_law_order") (559 : Nat), PySem.Value.str (Str.ofString "_law_order") (560 : Nat), PySem.Value.str (Str.ofString "/claim/cut.py") (561 : Nat),
              PySem.Value.int (121 : Int) (0 : Nat), PySem.Value.int (4 : Int) (0 : Nat), PySem.Value.int (0 : Int) (0 : Nat), PySem.Value.int (0 : Int) (0 : Nat), PySem.Value.int (3 : Int) (0 : Nat), PySem.Value.ref (106 : Nat),
              PySem.Value.bool Bool.true, PySem.Value.int (276 : Int) (0 : Nat), PySem.Value.ref (107 : Nat), PySem.Value.none, PySem.Value.ref (108 : Nat), PySem.Value.ref (109 : Nat), PySem.Value.ref (110 : Nat),
              PySem.Value.int (567 : Int) (0 : Nat), PySem.Value.int (121 : Int) (0 : Nat), PySem.Value.str (Str.ofString "/claim/cut.py") (568 : Nat)] }) <|
    List.cons (nat_lit 112,
      { cls := PySem.Value.type "function",
        data :=
          PySem.Data.func
            { name := Str.ofString "_law_order", qualname := Str.ofString "_law_order", params := p17, body := PySem.FuncBody.stmts b17, scope := s17, globals := (3 : Nat), closure := [], defaults := PySem.Value.none,
              kwdefaults := PySem.Value.none, pyModule := PySem.Value.str (Str.ofString "law_ij0015_01") (513 : Nat), code := PySem.Value.ref (111 : Nat) } }) <|
    List.cons (nat_lit 113, { cls := PySem.Value.type "tuple", data := PySem.Data.seq #[] }) <|
    List.cons (nat_lit 115, { cls := PySem.Value.type "tuple", data := PySem.Data.seq #[PySem.Value.str (Str.ofString "answer") (573 : Nat), PySem.Value.str (Str.ofString "told") (574 : Nat)] }) <|
    List.cons (nat_lit 116, { cls := PySem.Value.type "tuple", data := PySem.Data.seq #[] }) <|
    List.cons (nat_lit 118,
      { cls := PySem.Value.type "code",
        data :=
          PySem.Data.fields
            #[PySem.Value.str (Str.ofString "_law_same") (570 : Nat), PySem.Value.str (Str.ofString "_law_same") (571 : Nat), PySem.Value.str (Str.ofString "/claim/cut.py") (572 : Nat),
              PySem.Value.int (132 : Int) (0 : Nat), PySem.Value.int (2 : Int) (0 : Nat), PySem.Value.int (0 : Int) (0 : Nat), PySem.Value.int (0 : Int) (0 : Nat), PySem.Value.int (3 : Int) (0 : Nat), PySem.Value.ref (113 : Nat),
              PySem.Value.bool Bool.true, PySem.Value.int (276 : Int) (0 : Nat), PySem.Value.ref (114 : Nat), PySem.Value.none, PySem.Value.ref (115 : Nat), PySem.Value.ref (116 : Nat), PySem.Value.ref (117 : Nat),
              PySem.Value.int (575 : Int) (0 : Nat), PySem.Value.int (132 : Int) (0 : Nat), PySem.Value.str (Str.ofString "/claim/cut.py") (576 : Nat)] }) <|
    List.cons (nat_lit 119,
      { cls := PySem.Value.type "function",
        data :=
          PySem.Data.func
            { name := Str.ofString "_law_same", qualname := Str.ofString "_law_same", params := p18, body := PySem.FuncBody.stmts b18, scope := s18, globals := (3 : Nat), closure := [], defaults := PySem.Value.none,
              kwdefaults := PySem.Value.none, pyModule := PySem.Value.str (Str.ofString "law_ij0015_01") (513 : Nat), code := PySem.Value.ref (118 : Nat) } }) <|
    List.cons (nat_lit 120, { cls := PySem.Value.type "tuple", data := PySem.Data.seq #[] }) <|
    List.cons (nat_lit 122,
      { cls := PySem.Value.type "tuple",
        data :=
          PySem.Data.seq
            #[PySem.Value.str (Str.ofString "one") (581 : Nat), PySem.Value.str (Str.ofString "other") (582 : Nat), PySem.Value.str (Str.ofString "left") (583 : Nat),
              PySem.Value.str (Str.ofString "right") (584 : Nat), PySem.Value.str (Str.ofString "there") (585 : Nat), PySem.Value.str (Str.ofString "back") (586 : Nat)] }) <|
    List.cons (nat_lit 123, { cls := PySem.Value.type "tuple", data := PySem.Data.seq #[] }) <|
    List.cons (nat_lit 125,
      { cls := PySem.Value.type "code",
        data :=
          PySem.Data.fields
            #[PySem.Value.str (Str.ofString "_law_pair") (578 : Nat), PySem.Value.str (Str.ofString "_law_pair") (579 : Nat), PySem.Value.str (Str.ofString "/claim/cut.py") (580 : Nat),
              PySem.Value.int (134 : Int) (0 : Nat), PySem.Value.int (2 : Int) (0 : Nat), PySem.Value.int (0 : Int) (0 : Nat), PySem.Value.int (0 : Int) (0 : Nat), PySem.Value.int (3 : Int) (0 : Nat), PySem.Value.ref (120 : Nat),
              PySem.Value.bool Bool.true, PySem.Value.int (276 : Int) (0 : Nat), PySem.Value.ref (121 : Nat), PySem.Value.none, PySem.Value.ref (122 : Nat), PySem.Value.ref (123 : Nat), PySem.Value.ref (124 : Nat),
              PySem.Value.int (587 : Int) (0 : Nat), PySem.Value.int (134 : Int) (0 : Nat), PySem.Value.str (Str.ofString "/claim/cut.py") (588 : Nat)] }) <|
    List.cons (nat_lit 126,
      { cls := PySem.Value.type "function",
        data :=
          PySem.Data.func
            { name := Str.ofString "_law_pair", qualname := Str.ofString "_law_pair", params := p19, body := PySem.FuncBody.stmts b19, scope := s19, globals := (3 : Nat), closure := [], defaults := PySem.Value.none,
              kwdefaults := PySem.Value.none, pyModule := PySem.Value.str (Str.ofString "law_ij0015_01") (513 : Nat), code := PySem.Value.ref (125 : Nat) } }) <|
    List.cons (nat_lit 127, { cls := PySem.Value.type "tuple", data := PySem.Data.seq #[] }) <|
    List.cons (nat_lit 129,
      { cls := PySem.Value.type "tuple",
        data :=
          PySem.Data.seq
            #[PySem.Value.str (Str.ofString "script") (593 : Nat), PySem.Value.str (Str.ofString "first") (594 : Nat), PySem.Value.str (Str.ofString "second") (595 : Nat),
              PySem.Value.str (Str.ofString "third") (596 : Nat), PySem.Value.str (Str.ofString "one") (597 : Nat), PySem.Value.str (Str.ofString "other") (598 : Nat)] }) <|
    List.cons (nat_lit 130, { cls := PySem.Value.type "tuple", data := PySem.Data.seq #[] }) <|
    List.cons (nat_lit 132,
      { cls := PySem.Value.type "code",
        data :=
          PySem.Data.fields
            #[PySem.Value.str (Str.ofString "law") (590 : Nat), PySem.Value.str (Str.ofString "law") (591 : Nat), PySem.Value.str (Str.ofString "/claim/cut.py") (592 : Nat), PySem.Value.int (146 : Int) (0 : Nat),
              PySem.Value.int (1 : Int) (0 : Nat), PySem.Value.int (0 : Int) (0 : Nat), PySem.Value.int (0 : Int) (0 : Nat), PySem.Value.int (3 : Int) (0 : Nat), PySem.Value.ref (127 : Nat), PySem.Value.bool Bool.true,
              PySem.Value.int (276 : Int) (0 : Nat), PySem.Value.ref (128 : Nat), PySem.Value.none, PySem.Value.ref (129 : Nat), PySem.Value.ref (130 : Nat), PySem.Value.ref (131 : Nat), PySem.Value.int (599 : Int) (0 : Nat),
              PySem.Value.int (146 : Int) (0 : Nat), PySem.Value.str (Str.ofString "/claim/cut.py") (600 : Nat)] }) <|
    List.cons (nat_lit 133,
      { cls := PySem.Value.type "function",
        data :=
          PySem.Data.func
            { name := Str.ofString "law", qualname := Str.ofString "law", params := p20, body := PySem.FuncBody.stmts b20, scope := s20, globals := (3 : Nat), closure := [], defaults := PySem.Value.none,
              kwdefaults := PySem.Value.none, pyModule := PySem.Value.str (Str.ofString "law_ij0015_01") (513 : Nat), code := PySem.Value.ref (132 : Nat) } }) <| []) ⟨_, _, _, _, _, _, _⟩ rfl (_ :: _) rfl ⟨_, _, _, _, _⟩ rfl ⟨_, _, _, _, _, _, _⟩ rfl (_ :: _) rfl ⟨_, _, _, _, _⟩ rfl ⟨_, _, _, _, _, _, _⟩ rfl (_ :: _) rfl ⟨_, _, _, _, _⟩ rfl ⟨_, _, _, _, _, _, _⟩ rfl (_ :: _) rfl ⟨_, _, _, _, _⟩ rfl ⟨_, _, _, _, _, _, _⟩ rfl (_ :: _) rfl ⟨_, _, _, _, _⟩ rfl ⟨_, _, _, _, _, _, _⟩ rfl (_ :: _) rfl ⟨_, _, _, _, _⟩ rfl ⟨_, _, _, _, _, _, _⟩ rfl (_ :: _) rfl ⟨_, _, _, _, _⟩ rfl ⟨_, _, _, _, _, _, _⟩ rfl (_ :: _) rfl ⟨_, _, _, _, _⟩ rfl ⟨_, _, _, _, _, _, _⟩ rfl (_ :: _) rfl ⟨_, _, _, _, _⟩ rfl ⟨_, _, _, _, _, _, _⟩ rfl (_ :: _) rfl ⟨_, _, _, _, _⟩ rfl ⟨_, _, _, _, _, _, _⟩ rfl (_ :: _) rfl ⟨_, _, _, _, _⟩ rfl ⟨_, _, _, _, _, _, _⟩ rfl (_ :: _) rfl ⟨_, _, _, _, _⟩ rfl ⟨_, _, _, _, _, _, _⟩ rfl (_ :: _) rfl ⟨_, _, _, _, _⟩ rfl ⟨_, _, _, _, _, _, _⟩ rfl (_ :: _) rfl ⟨_, _, _, _, _⟩ rfl
noncomputable def viewL : Program := (fun (b : List Stmt) (_ : [0, 1, 3, 4, 6, 8, 9, 11, 12, 13, 14, 15, 16, 17, 18, 19, 20].filterMap (fun i => PR.main.body[i]?) = b) => ({ PR with main := { PR.main with body := b } } : Program)) [_, _, _, _, _, _, _, _, _, _, _, _, _, _, _, _, _] rfl
abbrev asL : List Nat := [nat_lit 3, nat_lit 6, nat_lit 11, nat_lit 12, nat_lit 35, nat_lit 36, nat_lit 38, nat_lit 42, nat_lit 44, nat_lit 45, nat_lit 47, nat_lit 48, nat_lit 49, nat_lit 51, nat_lit 52, nat_lit 54, nat_lit 55, nat_lit 56, nat_lit 58, nat_lit 59, nat_lit 61, nat_lit 62, nat_lit 63, nat_lit 65, nat_lit 66, nat_lit 68, nat_lit 69, nat_lit 70, nat_lit 72, nat_lit 73, nat_lit 75, nat_lit 76, nat_lit 77, nat_lit 80, nat_lit 81, nat_lit 82, nat_lit 85, nat_lit 86, nat_lit 87, nat_lit 89, nat_lit 90, nat_lit 92, nat_lit 93, nat_lit 94, nat_lit 96, nat_lit 97, nat_lit 99, nat_lit 100, nat_lit 101, nat_lit 104, nat_lit 105, nat_lit 106, nat_lit 108, nat_lit 109, nat_lit 111, nat_lit 112, nat_lit 113, nat_lit 115, nat_lit 116, nat_lit 118, nat_lit 119, nat_lit 120, nat_lit 122, nat_lit 123, nat_lit 125, nat_lit 126, nat_lit 127, nat_lit 129, nat_lit 130, nat_lit 132, nat_lit 133]
theorem asL_ok : ∀ P, asL = (heapL P).map (·.1) := fun _ => by kernel_rfl
def LeafAt (p q : Program) (loose : List Str) (Xt : Shared → Bool) {α : Type} (Yf : Shared → α) (Ya : World → α) (N : Nat) (w : World) : Prop :=
  (openEnds treeTable p w N).map (fun s => (openSeen q loose (importedModules p.main.body) Xt true s, Yf s)) = some (openGood q loose, Ya w)
theorem left_rows {p q : Program} {loose : List Str} {Xt : Shared → Bool} {α : Type} {Yf : Shared → α} {Ya : World → α} {N : Nat} (r1 r2 : String)
    (h : ∀ (a b : Bool) (w : World), LeafAt p q loose Xt Yf Ya N ((w.withFollow r1 a).withFollow r2 b)) : LeftO p q loose Xt Yf Ya N := fun w => by
  have e := h (w.params.followText r1) (w.params.followText r2) w
  rw [World.withFollow_self, World.withFollow_self] at e
  exact e
abbrev prog1 : Program := RowW.prog (OpenRow.toRowW PySem.Challenge.rw_ij0015_01.row)
abbrev loose1 : List Str := [Str.ofString "_twin_re_1", Str.ofString "_special_chars_map"]
noncomputable abbrev Xt1 : Shared → Bool := fun s => xlAt viewL [] s && recOk (RowW.records (OpenRow.toRowW PySem.Challenge.rw_ij0015_01.row)) s
abbrev Leaf1 (a b : Bool) : Prop := ∀ w : World, LeafAt prog1 viewL loose1 Xt1 (Hook.obs (kmHook heapL asL asL_ok [50])) (Hook.val (kmHook heapL asL asL_ok [50])) 3724 ((w.withFollow "comprehension-iter-twice" a).withFollow "special-get-raises" b)
theorem leaf_ff : Leaf1 false false := fun w => by unfold LeafAt; kernel_rfl
theorem leaf_ft : Leaf1 false true := fun w => by unfold LeafAt; kernel_rfl
theorem leaf_tf : Leaf1 true false := fun w => by unfold LeafAt; kernel_rfl
theorem leaf_tt : Leaf1 true true := fun w => by unfold LeafAt; kernel_rfl
theorem left0 : LeftO prog1 viewL loose1 Xt1 (Hook.obs (kmHook heapL asL asL_ok [50])) (Hook.val (kmHook heapL asL asL_ok [50])) 3724 :=
  left_rows "comprehension-iter-twice" "special-get-raises" fun a b w => match a, b with
    | false, false => leaf_ff w
    | false, true => leaf_ft w
    | true, false => leaf_tf w
    | true, true => leaf_tt w
end
theorem calm1 : True := by
  w_top off
  k_with_none
  trivial
section
open PySem PySem.W PyProof.Rows PySem.Calls PySem.Spec
abbrev S (l : List Nat) : Str := ⟨l.toArray⟩

/-- What a call of the def at address f hands back, from any frame of ours: R says the answer and the ledger behind. -/
def Ct (w : World) (p : Program) (loose : List Str) (mean : ExcName → Option Value) (mg mb : Str → Option Value) (f : Addr) (vs : List Value) (dn un' : Nat)
   (Pre : List (Addr × Obj) → Prop)
   (R : List (Addr × Obj) → Value → List (Addr × Obj) → Prop) : Prop :=
  ∀ (dp un : Nat) (gd : Option (List Code)) (cn : Str) (cs : Scope) (a : Addr) (ccd : Value) (cl : List (Str × Addr)) (outer : List Env) (A₀ : Around) (base h₀ : Heap) (L : Addr) (m : Str → Option Value) (news : List (Addr × Obj)) (s : Shared)
    (Q E : Value → Shared → Prop),
    Below A₀ base outer h₀ → Fr h₀ L s.heap m → (heapL w.params).In h₀ → News h₀ L s.heap news → Top p loose mean mg mb h₀ → cs.kind = .function → Pre news →
    dp + dn < recursionLimit → un + un' < cLine →
    (∀ r news' s', Fr h₀ L s'.heap m → News h₀ L s'.heap news' → s'.os = s.os → (AllBare s.gens → AllBare s'.gens) → R news r news' → Q r s') →
    wpAny (model PR w) (ktrTop dp un gd cn cs L a ccd cl outer) (call (.ref f) vs) Q E s
/-- The same where nothing but the heap and the count of tokens moves. What a call of the def at address f hands back, from any frame of ours: R says the answer and the ledger behind. -/
def CtP (w : World) (p : Program) (loose : List Str) (mean : ExcName → Option Value) (mg mb : Str → Option Value) (f : Addr) (vs : List Value) (dn un' : Nat)
   (Pre : List (Addr × Obj) → Prop)
   (R : List (Addr × Obj) → Value → List (Addr × Obj) → Prop) : Prop :=
  ∀ (dp un : Nat) (gd : Option (List Code)) (cn : Str) (cs : Scope) (a : Addr) (ccd : Value) (cl : List (Str × Addr)) (outer : List Env) (A₀ : Around) (base h₀ : Heap) (L : Addr) (m : Str → Option Value) (news : List (Addr × Obj)) (s : Shared)
    (Q E : Value → Shared → Prop),
    Below A₀ base outer h₀ → Fr h₀ L s.heap m → (heapL w.params).In h₀ → News h₀ L s.heap news → Top p loose mean mg mb h₀ → cs.kind = .function → Pre news →
    dp + dn < recursionLimit → un + un' < cLine →
    (∀ r news' h' tk', Fr h₀ L h' m → News h₀ L h' news' → R news r news' → Q r { s with heap := h', toks := tk' }) →
    wpAny (model PR w) (ktrTop dp un gd cn cs L a ccd cl outer) (call (.ref f) vs) Q E s
end
section
open PySem PySem.W PyProof.Rows PySem.Calls PySem.Spec
abbrev RStr (x : Str) : List (Addr × Obj) → Value → List (Addr × Obj) → Prop := fun news r news' => news' = news ∧ ∃ t, r = .str x t
abbrev RInt (x : Int) : List (Addr × Obj) → Value → List (Addr × Obj) → Prop := fun news r news' => news' = news ∧ ∃ t, r = .int x t
abbrev RBool (x : Bool) : List (Addr × Obj) → Value → List (Addr × Obj) → Prop := fun news r news' => news' = news ∧ r = .bool x
def collL (a b : List Nat) : Int := b2i (decide (b < a)) - b2i (decide (a < b))
def plainL (c : Nat) (front : Bool) : List Nat := if c = 92 ∨ c = 45 ∨ c = 38 ∨ c = 126 ∨ c = 124 ∨ (front = true ∧ (c = 94 ∨ c = 91)) then [92, c] else [c]
def okSign (c : Nat) : Prop := c ≠ 33 ∧ c ≠ 93 ∧ c < 1114112
theorem item_ok (k : Int) (h0 : 0 ≤ k) (h1 : k < 16) : ∃ c, Txt.item (Str.ofString "abBz-^[\\&~|*?. \n") k = ⟨#[c]⟩ ∧ okSign c := by
  obtain ⟨n, rfl⟩ := Int.eq_ofNat_of_zero_le h0
  have hn : n < 16 := by omega
  have key : ∀ n : Fin 16, (Txt.item (Str.ofString "abBz-^[\\&~|*?. \n") ((n.val : Nat) : Int)).cps.size = 1 ∧ (Txt.item (Str.ofString "abBz-^[\\&~|*?. \n") ((n.val : Nat) : Int)).cps.getD 0 0 ≠ 33 ∧ (Txt.item (Str.ofString "abBz-^[\\&~|*?. \n") ((n.val : Nat) : Int)).cps.getD 0 0 ≠ 93 ∧ (Txt.item (Str.ofString "abBz-^[\\&~|*?. \n") ((n.val : Nat) : Int)).cps.getD 0 0 < 1114112 := by decide +kernel
  obtain ⟨h1, h2, h3, h4⟩ := key ⟨n, hn⟩
  refine ⟨_, ?_, h2, h3, h4⟩
  generalize Txt.item (Str.ofString "abBz-^[\\&~|*?. \n") ((n : Nat) : Int) = x at *
  obtain ⟨⟨l⟩⟩ := x
  match l, h1 with
  | [c], _ => rfl
theorem occ_is (x : Str) (c : Nat) (b : Bool) (h : (Builtin.Str.occurrences x ⟨#[c]⟩ 0 x.length 1).isEmpty = b) : decide (c ∈ x.cps.toList) = !b := by
  rw [← StrLaws.found_one, h]
theorem plain_bs (a : Nat) : Str.ofString "\\" ++ (⟨#[a]⟩ : Str) = S [92, a] := by
  rw [show Str.ofString "\\" = ⟨#[92]⟩ from by decide +kernel]; rfl
theorem mem_plain (a : Nat) : a ∈ (Str.ofString "\\-&~|").cps.toList ↔ (a = 92 ∨ a = 45 ∨ a = 38 ∨ a = 126 ∨ a = 124) := by
  rw [show Str.ofString "\\-&~|" = ⟨#[92, 45, 38, 126, 124]⟩ from by decide +kernel]; simp
theorem mem_front (a : Nat) : a ∈ (Str.ofString "^[").cps.toList ↔ (a = 94 ∨ a = 91) := by
  rw [show Str.ofString "^[" = ⟨#[94, 91]⟩ from by decide +kernel]; simp
theorem fmod16 (i : Int) : 0 ≤ (i.fdiv 4).fmod 16 ∧ (i.fdiv 4).fmod 16 < 16 := ⟨Int.fmod_nonneg_of_pos _ (by decide), Int.fmod_lt_of_pos _ (by decide)⟩
theorem rstr_of {x y : Str} {t : Tok} {news : List (Addr × Obj)} (h : y = x) : RStr x news (.str y t) news := ⟨rfl, t, by rw [h]⟩
theorem rint_of {x y : Int} {t : Tok} {news : List (Addr × Obj)} (h : y = x) : RInt x news (.int y t) news := ⟨rfl, t, by rw [h]⟩
theorem rbool_of {x y : Bool} {news : List (Addr × Obj)} (h : y = x) : RBool x news (.bool y) news := ⟨rfl, by rw [h]⟩
variable {w : World} {p : Program} {loose : List Str} {mean : ExcName → Option Value} {mg mb : Str → Option Value}

set_option maxRecDepth 100000 in
set_option maxHeartbeats 8000000 in
theorem strcoll_ct (a b : Str) (ta tb : Tok) : CtP w p loose mean mg mb 62 [.str a ta, .str b tb] 20 200 (fun _ => True) (RInt (collL a.cps.toList b.cps.toList)) := by
  unfold CtP
  intro dp un gd cn cs c ccd cl outer A₀ base h₀ L m news s Q E B F X N T hk hpre hd hu hret
  have hfill : PySem.Challenge.rw_ij0015_01 = PySem.Challenge.rw_ij0015_01 ∧ heapL = heapL := by
    k_fill
    exact ⟨rfl, rfl⟩
  clear hfill
  refine wpAny_call ?_
  k_dflt ktr_enter
  k_steps
  exact hret _ _ _ _ (by k_asm) (by k_asm) ⟨rfl, _, rfl⟩

set_option maxRecDepth 100000 in
set_option maxHeartbeats 8000000 in
theorem strxfrm_ct (a : Str) (ta : Tok) : CtP w p loose mean mg mb 69 [.str a ta] 20 200 (fun _ => True) (RStr a) := by
  unfold CtP
  intro dp un gd cn cs c ccd cl outer A₀ base h₀ L m news s Q E B F X N T hk hpre hd hu hret
  have hfill : PySem.Challenge.rw_ij0015_01 = PySem.Challenge.rw_ij0015_01 ∧ heapL = heapL := by
    k_fill
    exact ⟨rfl, rfl⟩
  clear hfill
  refine wpAny_call ?_
  k_dflt ktr_enter
  k_steps
  exact hret _ _ _ _ (by k_asm) (by k_asm) ⟨rfl, _, rfl⟩

set_option maxRecDepth 100000 in
set_option maxHeartbeats 8000000 in
theorem sign_ct (i : Int) (ta : Tok) : CtP w p loose mean mg mb 76 [.int i ta] 20 200 (fun _ => True) (fun news r news' => news' = news ∧ ∃ c t, r = .str ⟨#[c]⟩ t ∧ okSign c) := by
  unfold CtP
  intro dp un gd cn cs c ccd cl outer A₀ base h₀ L m news s Q E B F X N T hk hpre hd hu hret
  have hfill : PySem.Challenge.rw_ij0015_01 = PySem.Challenge.rw_ij0015_01 ∧ heapL = heapL := by
    k_fill
    exact ⟨rfl, rfl⟩
  clear hfill
  have hb1 : (i.fdiv 4).fmod 1112062 < 1112062 := Int.fmod_lt_of_pos _ (by decide)
  have hb0 : 0 ≤ (i.fdiv 4).fmod 1112062 := Int.fmod_nonneg_of_pos _ (by decide)
  refine wpAny_call ?_
  k_dflt ktr_enter
  k_steps
  · obtain ⟨c, hc, hok⟩ := item_ok ((i.fdiv 4).fmod 16) (fmod16 i).1 (fmod16 i).2
    exact hret _ _ _ _ (by k_asm) (by k_asm) ⟨rfl, c, _, by rw [hc], hok⟩
  · exact hret _ _ _ _ (by k_asm) (by k_asm) ⟨rfl, _, _, rfl, by unfold okSign; omega⟩
  · exact hret _ _ _ _ (by k_asm) (by k_asm) ⟨rfl, _, _, rfl, by unfold okSign; omega⟩
  · exact hret _ _ _ _ (by k_asm) (by k_asm) ⟨rfl, _, _, rfl, by unfold okSign; omega⟩

set_option maxRecDepth 100000 in
set_option maxHeartbeats 8000000 in
theorem plain_ct (a : Nat) (b : Bool) (ta : Tok) : CtP w p loose mean mg mb 93 [.str ⟨#[a]⟩ ta, .bool b] 20 200 (fun _ => True) (RStr (S (plainL a b))) := by
  unfold CtP
  intro dp un gd cn cs c ccd cl outer A₀ base h₀ L m news s Q E B F X N T hk hpre hd hu hret
  have hfill : PySem.Challenge.rw_ij0015_01 = PySem.Challenge.rw_ij0015_01 ∧ heapL = heapL := by
    k_fill
    exact ⟨rfl, rfl⟩
  clear hfill
  refine wpAny_call ?_
  k_dflt ktr_enter
  k_steps
  · rename (Builtin.Str.occurrences (Str.ofString "\\-&~|") _ _ _ _).isEmpty = _ => h1
    rename (Builtin.Str.occurrences (Str.ofString "^[") _ _ _ _).isEmpty = _ => h2
    rename b = true => h3
    have g1 := occ_is _ _ _ h1; have g2 := occ_is _ _ _ h2
    simp only [mem_plain, mem_front, Bool.not_true, decide_eq_false_iff_not] at g1 g2
    exact hret _ _ _ _ (by k_asm) (by k_asm) (rstr_of (by unfold plainL; rw [if_neg (by rw [h3]; omega)]))
  · rename (Builtin.Str.occurrences (Str.ofString "\\-&~|") _ _ _ _).isEmpty = _ => h1
    rename (Builtin.Str.occurrences (Str.ofString "^[") _ _ _ _).isEmpty = _ => h2
    rename b = true => h3
    have g1 := occ_is _ _ _ h1; have g2 := occ_is _ _ _ h2
    simp only [mem_plain, mem_front, Bool.not_true, Bool.not_false, decide_eq_false_iff_not, decide_eq_true_eq] at g1 g2
    exact hret _ _ _ _ (by k_asm) (by k_asm) (rstr_of (by rw [plain_bs]; unfold plainL; rw [if_pos (by rcases g2 with q | q <;> simp [h3, q])]))
  · rename (Builtin.Str.occurrences (Str.ofString "\\-&~|") _ _ _ _).isEmpty = _ => h1
    rename b = false => h3
    have g1 := occ_is _ _ _ h1
    simp only [mem_plain, Bool.not_true, decide_eq_false_iff_not] at g1
    exact hret _ _ _ _ (by k_asm) (by k_asm) (rstr_of (by unfold plainL; rw [if_neg (by rw [h3]; simp; omega)]))
  · rename (Builtin.Str.occurrences (Str.ofString "\\-&~|") _ _ _ _).isEmpty = _ => h1
    have g1 := occ_is _ _ _ h1
    simp only [mem_plain, Bool.not_false, decide_eq_true_eq] at g1
    exact hret _ _ _ _ (by k_asm) (by k_asm) (rstr_of (by rw [plain_bs]; unfold plainL; rw [if_pos (by omega)]))

set_option maxRecDepth 100000 in
set_option maxHeartbeats 8000000 in
theorem same_ct (a b : Int) (ta tb : Tok) : CtP w p loose mean mg mb 119 [.int a ta, .int b tb] 20 200 (fun _ => True) (RBool (a == b)) := by
  unfold CtP
  intro dp un gd cn cs c ccd cl outer A₀ base h₀ L m news s Q E B F X N T hk hpre hd hu hret
  have hfill : PySem.Challenge.rw_ij0015_01 = PySem.Challenge.rw_ij0015_01 ∧ heapL = heapL := by
    k_fill
    exact ⟨rfl, rfl⟩
  clear hfill
  refine wpAny_call ?_
  k_dflt ktr_enter
  k_steps
  exact hret _ _ _ _ (by k_asm) (by k_asm) ⟨rfl, rfl⟩
end
section
open PySem PySem.W PyProof.Rows PySem.Calls PySem.Spec
theorem type_lappend : typeOf (.builtin "list.append") = pure (.type "method_descriptor") := type_list_append
theorem slot_mdget : Slot "method_descriptor" "__get__" "method_descriptor.__get__" :=
  .of (owner := "method_descriptor") (n := "__get__") (by rw [typeLookup_type, builtinLookup_eq_fast]; kernel_rfl) (by decide +kernel) (by decide +kernel) (by decide +kernel)
    (by first | exact .inl (by decide +kernel) | exact .inr (by decide +kernel)) (by rw [isSubtype_type]; kernel_rfl)
theorem mdset : typeLookup (.type "method_descriptor") "__set__" = pure none := by rw [typeLookup_type, builtinLookup_eq_fast]; kernel_rfl
theorem mddel : typeLookup (.type "method_descriptor") "__delete__" = pure none := by rw [typeLookup_type, builtinLookup_eq_fast]; kernel_rfl
theorem entry_mdget : entryFor table "method_descriptor.__get__" = some Builtin.«method_descriptor.__get__» := entryFor_of_fast (by kernel_rfl)
theorem args_mdget (a b c : Value) : argsOk "method_descriptor.__get__" ⟨[a, b, c], []⟩ := by unfold argsOk; kernel_rfl
theorem sub_list_list : isSubtype (.type "list") (.type "list") = pure true := by rw [isSubtype_type]; kernel_rfl

abbrev boundObj (l : Addr) : Obj := { cls := .type "builtin_function_or_method", data := .fields #[.builtin "list.append", .ref l] }
set_option maxHeartbeats 1000000
theorem meets_mdget_append (a : Addr) (xs : Array Value) (k : Nat) :
    Meets (Builtin.«method_descriptor.__get__» ⟨[.builtin "list.append", .ref a, .type "list"], []⟩) (fun A R s => s.heap.get? a = some { cls := .type "list", dict := none, data := .seq xs k, slots := #[] } ∧
      R (.ok (.ret (.ref s.heap.objs.size))) { s with heap := s.heap.push (boundObj a) }) :=
  Meets.of_wp fun prog w A R s hs => by
    obtain ⟨hp, g, d, tk, os⟩ := s
    obtain ⟨hx, hs⟩ := hs
    have hT : (⟨hp, g, d, tk, os⟩ : Shared).TypeIs (.ref a) "list" := ⟨_, hx, rfl⟩
    have h6 := sub_list_list
    have h7 : Manifest.toldItsClass.contains "list.append" = false := by decide +kernel
    have h8 : (".".intercalate ("list.append".cutAt '.').dropLast) = "list" := by decide +kernel
    unfold Builtin.«method_descriptor.__get__»
    repeat (any_goals (first | assumption | wp_step))
    rw [h8]
    repeat (any_goals (first | assumption | wp_step))
    exact ⟨_, rfl, hs⟩
theorem meets_getattribute_append (a : Addr) (xs : Array Value) (k : Nat) (u : Tok) :
    Meets (Builtin.«object.__getattribute__» ⟨[.ref a, .str "append" u], []⟩) (fun A R s => s.heap.get? a = some { cls := .type "list", dict := none, data := .seq xs k, slots := #[] } ∧
      R (.ok (.ret (.ref s.heap.objs.size))) { s with heap := s.heap.push (boundObj a) }) :=
  Meets.of_wp fun prog w A R s hs => by
    obtain ⟨hp, g, d, tk, os⟩ := s
    obtain ⟨hx, hs⟩ := hs
    have hT : (⟨hp, g, d, tk, os⟩ : Shared).TypeIs (.ref a) "list" := ⟨_, hx, rfl⟩
    have hT2 : (⟨hp, g, d, tk, os⟩ : Shared).TypeIs (.builtin "list.append") "method_descriptor" := by first | exact type_lappend | exact ⟨_, rfl⟩ | skip
    have h1 := slot_list_append.lookup
    have h2 := type_lappend
    have h3 := slot_mdget.lookup
    have h4 := mdset
    have h5 := mddel
    unfold Builtin.«object.__getattribute__»
    repeat (any_goals (first | assumption | ((with_reducible show wpAny _ _ (call (Value.builtin "method_descriptor.__get__") _ _) _ _ _); refine call_meets slot_mdget hT2 entry_mdget (args_mdget _ _ _) (meets_mdget_append a xs k) ⟨hx, ?_⟩) | wp_step))
    exact wpAny_pure ⟨_, rfl, hs⟩
theorem entry_list_getattribute : entryFor table "list.__getattribute__" = some Builtin.«object.__getattribute__» := am_entry_list_getattribute
theorem getAttr_append {prog : Program} {w : World} {A : Around} {E : Value → Shared → Prop} {s : Shared} {a : Addr} {xs : Array Value} {k : Nat} {Q : Value → Shared → Prop}
    (hx : s.heap.get? a = some { cls := .type "list", dict := none, data := .seq xs k, slots := #[] })
    (h : ∀ tk, Q (.ref s.heap.objs.size) { s with heap := s.heap.push (boundObj a), toks := tk }) :
    wpAny (model prog w) A (getAttr (.ref a) "append" true) Q E s := by
  obtain ⟨hp, g, d, tk, os⟩ := s
  have hT : ∀ tk', (⟨hp, g, d, tk', os⟩ : Shared).TypeIs (.ref a) "list" := fun _ => ⟨_, hx, rfl⟩
  have f3 := F.slot_list_getattribute.lookup
  have f4 := F.slot_list_getattribute.bind (.ref a)
  have f5 := am_list_getattr_none
  unfold getAttr getAttrBy
  repeat (any_goals (first | assumption | exact hT _ | ((with_reducible show wpAny _ _ (call (Value.builtin "list.__getattribute__") _ _) _ _ _); refine call_meets F.slot_list_getattribute (hT _) am_entry_list_getattribute (F.args_list_getattribute_2 _ _) (meets_getattribute_append a xs k _) ⟨hx, ?_⟩) | wp_step))
  exact wpAny_pure (h _)
theorem entry_append : entryFor table "list.append" = some Builtin.«list.append» := entry_list_append
theorem call_bound_append {prog : Program} {w : World} {A : Around} {E : Value → Shared → Prop} {s : Shared} {q a : Addr} {xs : Array Value} {k : Nat} {x : Value} {Q : Value → Shared → Prop}
    (hq : s.heap.get? q = some (boundObj a))
    (hx : s.heap.get? a = some { cls := .type "list", dict := none, data := .seq xs k, slots := #[] }) (hsz : xs.size ≤ sizeLine)
    (h : Q .none { s with heap := s.heap.update a (Obj.mapSeq (·.push x)) }) :
    wpAny (model prog w) A (call (.ref q) [x]) Q E s := by
  refine wpAny_call ?_
  refine codeAny_of_tree ?_
  show wpAny _ A.in1 (callAny (.ref q) ⟨[x], []⟩) _ _ s
  have h6 : isSubtype (.type "list") (.type "module") = pure false := by rw [isSubtype_type]; kernel_rfl
  have h7 : isSubtype (.type "list") (.type "type") = pure false := by rw [isSubtype_type]; kernel_rfl
  have hT : s.TypeIs (.ref a) "list" := ⟨_, hx, rfl⟩
  have hsig : Manifest.signature? "list.append" = some { machinery := Manifest.Machinery.oneArg, full := "list.append", short := "append", receiver := Manifest.Receiver.self, params := [{ name := "object", kind := Manifest.ParamKind.posOnly, required := true }] } := by kernel_rfl
  have hkind : builtinKind "list.append" = some .method := by decide +kernel
  have hmod : isInstance (.ref a) (.type "module") = (do return (← isSubtype (← typeOf (.ref a)) (.type "module"))) := by first | rfl | skip
  unfold callAny
  refine wpAny_bind (wpAny_load hq ?_)
  dsimp only [boundObj]
  repeat (any_goals (first | assumption | ((with_reducible show wpAny _ _ (checkBoundCall _ _) _ _ _); fail) | wp_step))
  refine ⟨plainId_quiet (by decide +kernel) _, codeAny_builtin entry_list_append ?_⟩
  rw [Around.under_plainId (by decide +kernel)]
  exact AutoListH.list_append_list_val_0 a xs k x hsz _ _ _ (wants Q E) _ ⟨hx, h⟩
section
variable {M : Model} {A : Around} {E : Value → Shared → Prop} {s : Shared} {env : Env} {pos : Pos} {first : List Value} {Q : Value → Shared → Prop} {q : Addr}
def BndAt (q : Addr) (h : Heap) : Prop := ∃ vs, h.get? q = some { cls := .type "builtin_function_or_method", data := .fields vs }
theorem BndAt.of {h₀ h : Heap} {L q : Addr} {vs : Array Value} {news : List (Addr × Obj)} (N : News h₀ L h news) (hm : (q, ({ cls := .type "builtin_function_or_method", data := .fields vs } : Obj)) ∈ news) : BndAt q h := ⟨vs, (N _ hm).1⟩
theorem keeps_Bnd (h : Heap) (X : BndAt q h) : ∃ k, (k = Keeper.frame ∨ k = Keeper.machine ∨ k = Keeper.boundFrame) ∧ Looks M h (keeperOf (.ref q)) k := by
  obtain ⟨vs, e⟩ := X
  exact ⟨.machine, .inr (.inl rfl), (Looks.ld (part := none) e).andThen .now⟩
theorem callWith_Bnd {e : PySem.Expr} {rest : List PySem.Expr} (h : wpAny M A (spliced (backTo pos (starEach (e :: rest) env))) (fun vs s₁ => BndAt q s₁.heap ∧ wpAny M A (call (.ref q) (first ++ vs)) Q E s₁) E s)
    (he : starEach (e :: rest) env = (false, eval e env) :: starEach rest env := by rfl) (hplain : (backTo pos (starEach rest env)).any (·.1) = false := by rfl) :
    wpAny M A (callWith pos (.ref q) first (backTo pos (starEach (e :: rest) env)) []) Q E s := by
  rw [he] at h ⊢
  exact callWith_of (by show ((false || (backTo pos (starEach rest env)).any (·.1)) || false) = false; rw [hplain]; rfl) keeps_Bnd (evalArgs_plain h)
end
end
section
open PySem
open PySem.Sre PySem.Sre.M
def reCode : Array Nat := #[14, 14, 4, 1, 1, 9, 0, 64, 0, 1342177280, 0, 0, 0, 0, 0, 17, 0, 13, 11, 9, 0, 64, 0, 1342177280, 0, 0, 0, 0, 0, 17, 1, 1]
def amp (c : Nat) : Bool := c == 38 || c == 124 || c == 126
theorem bits5 : ∀ c : Fin 256, (reCode.getD (5 + (1 + c.val / 32)) 0).testBit (c.val % 32) = amp c.val := by decide +kernel
theorem bits19 : ∀ c : Fin 256, (reCode.getD (19 + (1 + c.val / 32)) 0).testBit (c.val % 32) = amp c.val := by decide +kernel
theorem amp_small {c : Nat} (h : ¬ c < 256) : amp c = false := by
  unfold amp; simp; omega
theorem inSet5 (c : Nat) (seen : Seen) : ∃ seen', inSet reCode c reCode.size 5 true seen = .ok (amp c, seen') := by
  show ∃ seen', inSet reCode c (31 + 1) 5 true seen = .ok (amp c, seen')
  unfold inSet
  have h0 : reCode.getD (5 + 0) 0 = 9 := rfl
  have h1 : ops[9]? = some .CHARSET := rfl
  simp only [h0, h1]
  by_cases hc : c < 256
  · rw [bits5 ⟨c, hc⟩]
    cases ha : amp c with
    | true => simp [hc]
    | false =>
      simp only [Bool.and_false, Bool.false_eq_true, if_false]
      unfold inSet
      have h2 : reCode.getD (5 + 9 + 0) 0 = 0 := rfl
      have h3 : ops[0]? = some .FAILURE := rfl
      simp only [h2, h3]
      exact ⟨_, rfl⟩
  · rw [amp_small hc]
    simp only [hc, decide_false, Bool.false_and, Bool.false_eq_true, if_false]
    unfold inSet
    have h2 : reCode.getD (5 + 9 + 0) 0 = 0 := rfl
    have h3 : ops[0]? = some .FAILURE := rfl
    simp only [h2, h3]
    exact ⟨_, rfl⟩
theorem inSet19 (c : Nat) (seen : Seen) : ∃ seen', inSet reCode c reCode.size 19 true seen = .ok (amp c, seen') := by
  show ∃ seen', inSet reCode c (31 + 1) 19 true seen = .ok (amp c, seen')
  unfold inSet
  have h0 : reCode.getD (19 + 0) 0 = 9 := rfl
  have h1 : ops[9]? = some .CHARSET := rfl
  simp only [h0, h1]
  by_cases hc : c < 256
  · rw [bits19 ⟨c, hc⟩]
    cases ha : amp c with
    | true => simp [hc]
    | false =>
      simp only [Bool.and_false, Bool.false_eq_true, if_false]
      unfold inSet
      have h2 : reCode.getD (19 + 9 + 0) 0 = 0 := rfl
      have h3 : ops[0]? = some .FAILURE := rfl
      simp only [h2, h3]
      exact ⟨_, rfl⟩
  · rw [amp_small hc]
    simp only [hc, decide_false, Bool.false_and, Bool.false_eq_true, if_false]
    unfold inSet
    have h2 : reCode.getD (19 + 9 + 0) 0 = 0 := rfl
    have h3 : ops[0]? = some .FAILURE := rfl
    simp only [h2, h3]
    exact ⟨_, rfl⟩
/-- the first place from s on, below lim, whose sign is one of the three -/
def firstAmp (text : Array Nat) (lim : Nat) : (fuel s : Nat) → Option Nat
  | 0, _ => none
  | fuel + 1, s => if s ≥ lim then none else if amp (text.getD s 0) then some s else firstAmp text lim fuel (s + 1)
theorem admitted_is (m : M) (hc : m.code = reCode) : ∀ (fuel s : Nat) (seen : Seen), ∃ seen', admitted m fuel s seen = .ok (firstAmp m.text m.lim fuel s, seen')
  | 0, _, seen => ⟨seen, rfl⟩
  | fuel + 1, s, seen => by
    unfold admitted firstAmp
    by_cases h : s ≥ m.lim
    · simp [h]
    · simp only [if_neg h, hc]
      obtain ⟨seen', e⟩ := inSet5 (m.text.getD s 0) seen
      rw [e]
      cases ha : amp (m.text.getD s 0) with
      | true => exact ⟨seen', by simp⟩
      | false =>
        simp only [Bool.false_eq_true, if_false]
        exact admitted_is m hc fuel (s + 1) seen'
open PySem.Sre PySem.Sre.M
def m0 (text : Array Nat) (start lim : Nat) : M := { code := reCode, text, lim, start := start, pc := 15, pos := start, handed := start, marks := Array.replicate (2 * 1) none, mustAdvance := false, seen := ({} : Seen).add 14 }
theorem forSearch_eq (text : Array Nat) (start lim : Nat) : forSearch reCode text 1 start lim false =
    if start > lim ∨ lim - start < 1 then (m0 text start lim).say false else ({ m0 text start lim with lastStart := lim } : M).attemptFrom start true := by
  have h : forSearch reCode text 1 start lim false = if (decide (start > lim) || decide (lim - start < 1)) = true then (m0 text start lim).say false else ({ m0 text start lim with lastStart := lim } : M).attemptFrom start true := rfl
  rw [h]
  simp only [Bool.or_eq_true, decide_eq_true_eq]
theorem hasFirst (m : M) (hc : m.code = reCode) : m.hasFirstSet = true := by
  unfold M.hasFirstSet; rw [hc]; rfl
theorem runFor_some {m : M} {n : Nat} (h : m.outcome.isSome = true) : m.runFor n = m := by
  cases n with
  | zero => rfl
  | succ n => unfold M.runFor; rw [if_pos h]
theorem runFor_succ {m : M} {n : Nat} (h : m.outcome = none) : m.runFor (n + 1) = m.step.runFor n := by
  show (if m.outcome.isSome then m else runFor n m.step) = _
  rw [h]; rfl
theorem say_false_ends {m : M} (hf : m.frames = []) (ho : m.outcome = none) : ((m.say false).runFor 4).outcome = some .failed := by
  rw [runFor_succ (n := 3) (by exact ho)]
  have e : (m.say false).step.outcome = some .failed := by
    unfold M.step M.say
    simp only [ho, hf]
    rfl
  rw [runFor_some (by rw [e]; rfl), e]
theorem search_none {text : Array Nat} {start lim : Nat} (h : firstAmp text lim (lim + 1 - start) start = none) : ((forSearch reCode text 1 start lim false).runFor 4).outcome = some .failed := by
  rw [forSearch_eq]
  split
  · exact say_false_ends rfl rfl
  · unfold M.attemptFrom
    rw [hasFirst _ rfl]
    obtain ⟨seen', e⟩ := admitted_is ({ m0 text start lim with lastStart := lim } : M) rfl (lim + 1 - start) start (({ m0 text start lim with lastStart := lim } : M)).seen
    have e' : firstAmp ({ m0 text start lim with lastStart := lim } : M).text ({ m0 text start lim with lastStart := lim } : M).lim (lim + 1 - start) start = none := h
    rw [e'] at e
    simp only [Bool.not_true, Bool.false_eq_true, if_false]
    show (M.runFor 4 (match admitted _ (lim + 1 - start) start _ with | .ok (some s, seen) => _ | .ok (none, seen) => _ | .error why => _)).outcome = _
    rw [e]
    exact say_false_ends rfl rfl
/-- what is found at p -/
def Hit (p : Nat) (m : M) : Prop := m.outcome = some .matched ∧ m.start = p ∧ m.handed = p + 1 ∧ m.marks = #[some p, some (p + 1)] ∧ m.lastmark = 1 ∧ m.lastindex = 1
theorem firstAmp_lt {text : Array Nat} {lim : Nat} : ∀ {fuel s p : Nat}, firstAmp text lim fuel s = some p → s ≤ p ∧ p < lim ∧ amp (text.getD p 0) = true
  | 0, _, _, h => by cases h
  | fuel + 1, s, p, h => by
    unfold firstAmp at h
    split at h
    · cases h
    · split at h
      · cases h; exact ⟨Nat.le_refl _, by omega, by assumption⟩
      · have := firstAmp_lt h; exact ⟨by omega, this.2⟩
def mA (text : Array Nat) (lim p : Nat) (seen : Seen) : M := { code := reCode, text, lim, start := p, lastStart := lim, pc := 15, pos := p, handed := p, marks := Array.replicate (2 * 1) none, frames := [{ wait := .nextStart, pc := 15, pos := p, outermost := true }], weight := 1, seen }
def mB (text : Array Nat) (lim p : Nat) (seen : Seen) : M := { code := reCode, text, lim, start := p, lastStart := lim, pc := 17, pos := p, handed := p, marks := #[some p, none], lastmark := 0, frames := [{ wait := .nextStart, pc := 15, pos := p, outermost := true }], weight := 1, seen }
def mC (text : Array Nat) (lim p : Nat) (seen : Seen) : M := { code := reCode, text, lim, start := p, lastStart := lim, pc := 29, pos := p + 1, handed := p, marks := #[some p, none], lastmark := 0, frames := [{ wait := .nextStart, pc := 15, pos := p, outermost := true }], weight := 1, seen }
def mD (text : Array Nat) (lim p : Nat) (seen : Seen) : M := { code := reCode, text, lim, start := p, lastStart := lim, pc := 31, pos := p + 1, handed := p, marks := #[some p, some (p + 1)], lastmark := 1, lastindex := 1, frames := [{ wait := .nextStart, pc := 15, pos := p, outermost := true }], weight := 1, seen }
def mE (text : Array Nat) (lim p : Nat) (seen : Seen) : M := { code := reCode, text, lim, start := p, lastStart := lim, pc := 31, pos := p + 1, handed := p + 1, marks := #[some p, some (p + 1)], lastmark := 1, lastindex := 1, frames := [{ wait := .nextStart, pc := 15, pos := p, outermost := true }], weight := 1, seen, answer := some true }
theorem stepA (text : Array Nat) (lim p : Nat) (seen : Seen) : (mA text lim p seen).step = mB text lim p (seen.add 17) := rfl
theorem stepB (text : Array Nat) (lim p : Nat) (seen : Seen) (hp : p < lim) (ha : amp (text.getD p 0) = true) : ∃ seen', (mB text lim p seen).step = mC text lim p seen' := by
  obtain ⟨seen', e⟩ := inSet19 (text.getD p 0) (seen.add 13)
  rw [ha] at e
  have h : (mB text lim p seen).step = (if p ≥ lim then ({ mB text lim p seen with seen := seen.add 13 } : M).say false else
      match inSet reCode (text.getD p 0) reCode.size 19 true (seen.add 13) with
      | .error why => ({ mB text lim p seen with seen := seen.add 13 } : M).stick why
      | .ok (false, seen) => ({ mB text lim p seen with seen } : M).say false
      | .ok (true, seen) => { mB text lim p seen with seen, pc := 29, pos := p + 1 }) := rfl
  rw [h, if_neg (by omega), e]
  exact ⟨seen', rfl⟩
theorem stepC (text : Array Nat) (lim p : Nat) (seen : Seen) : (mC text lim p seen).step = mD text lim p (seen.add 17) := by
  have h : (mC text lim p seen).step = ({ mC text lim p seen with seen := seen.add 17 } : M).mark 1 := rfl
  rw [h]
  unfold M.mark
  rfl

theorem stepD (text : Array Nat) (lim p : Nat) (seen : Seen) : (mD text lim p seen).step = mE text lim p (seen.add 1) := rfl
theorem attempt_hit {text : Array Nat} {start lim p : Nat} (h : firstAmp text lim (lim + 1 - start) start = some p) : ∃ seen, forSearch reCode text 1 start lim false = mA text lim p seen := by
  obtain ⟨hsp, hpl, hamp⟩ := firstAmp_lt h
  rw [forSearch_eq, if_neg (by omega)]
  obtain ⟨seen', e⟩ := admitted_is ({ m0 text start lim with lastStart := lim } : M) rfl (lim + 1 - start) start (({ m0 text start lim with lastStart := lim } : M)).seen
  have e' : firstAmp ({ m0 text start lim with lastStart := lim } : M).text ({ m0 text start lim with lastStart := lim } : M).lim (lim + 1 - start) start = some p := h
  rw [e'] at e
  refine ⟨seen', ?_⟩
  have h2 : ({ m0 text start lim with lastStart := lim } : M).attemptFrom start true = (match ({ m0 text start lim with lastStart := lim } : M).admitted (lim + 1 - start) start (({ m0 text start lim with lastStart := lim } : M)).seen with
    | .ok (some s, seen) => ({ ({ m0 text start lim with lastStart := lim } : M) with mustAdvance := false, seen } : M).attemptAt s true
    | .ok (none, seen) => ({ ({ m0 text start lim with lastStart := lim } : M) with seen } : M).say false
    | .error why => ({ m0 text start lim with lastStart := lim } : M).stick why) := rfl
  rw [h2, e]
  rfl
theorem search_some {text : Array Nat} {start lim p : Nat} (h : firstAmp text lim (lim + 1 - start) start = some p) :
    ((forSearch reCode text 1 start lim false).runFor 4).outcome = none ∧ Hit p (((forSearch reCode text 1 start lim false).runFor 4).runFor 4) := by
  obtain ⟨hsp, hpl, hamp⟩ := firstAmp_lt h
  obtain ⟨seen, e⟩ := attempt_hit h
  obtain ⟨seen2, e2⟩ := stepB text lim p (seen.add 17) hpl hamp
  rw [e, runFor_succ (n := 3) rfl, stepA, runFor_succ (n := 2) rfl, e2, runFor_succ (n := 1) rfl, stepC, runFor_succ (n := 0) rfl, stepD]
  exact ⟨rfl, rfl, rfl, rfl, rfl, rfl, rfl⟩
end
section
open PySem PySem.W PyProof.Rows PySem.Calls PySem.Spec
open PySem.Builtin.Re
section
variable {M : Model} {A : Around} {E : Value → Shared → Prop} {s : Shared}
theorem drive_one {m : Sre.M} {n : Nat} {Q : Sre.M → Shared → Prop} (h : (m.runFor 4).outcome.isSome = true) (hQ : Q (m.runFor 4) s) : wpAny M A (reDrive (n + 1) m) Q E s := by
  show wpAny M A (if (m.runFor 4).outcome.isSome then pure (m.runFor 4) else do rule "sre.turn"; reDrive n (m.runFor 4)) Q E s
  rw [if_pos h]; exact wpAny_pure hQ
theorem drive_two {m : Sre.M} {n : Nat} {Q : Sre.M → Shared → Prop} (h0 : (m.runFor 4).outcome = none) (h : ((m.runFor 4).runFor 4).outcome.isSome = true) (hQ : Q ((m.runFor 4).runFor 4) s) : wpAny M A (reDrive (n + 1 + 1) m) Q E s := by
  show wpAny M A (if (m.runFor 4).outcome.isSome then pure (m.runFor 4) else do rule "sre.turn"; reDrive (n + 1) (m.runFor 4)) Q E s
  rw [if_neg (by rw [h0]; simp)]
  exact wpAny_bind (wpAny_rule (drive_one h hQ))
theorem run_tail {m : Sre.M} {Q : Option Sre.M → Shared → Prop} {R : Option Sre.M} (hR : (match m.outcome with | some .matched => (pure (some m) : Sem (Option Sre.M)) | some .failed => pure none | some (.stuck why) => unsupported s!"_sre:{why}" | none => unsupported "internal:sre:no-outcome") = pure R) (hQ : Q R s) :
    wpAny M A (do
      for i in List.range Sre.names.size do
        if m.seen.has i then rule (Sre.names.getD i "")
      match m.outcome with
      | some .matched => pure (some m)
      | some .failed => pure none
      | some (.stuck why) => unsupported s!"_sre:{why}"
      | none => unsupported "internal:sre:no-outcome") Q E s := by
  refine wpAny_bind (wpAny_forIn_list _ (fun _ _ s' => s' = s) _ (fun x rest b s' hs => ?_) (fun b s' hs => ?_) _ _ rfl)
  · subst hs
    split
    · exact wpAny_bind (wpAny_rule (wpAny_pure rfl))
    · exact wpAny_pure rfl
  · subst hs
    show wpAny M A (match m.outcome with | some .matched => (pure (some m) : Sem (Option Sre.M)) | some .failed => pure none | some (.stuck why) => unsupported s!"_sre:{why}" | none => unsupported "internal:sre:no-outcome") Q E s'
    rw [hR]; exact wpAny_pure hQ
theorem run_none {m : Sre.M} {Q : Option Sre.M → Shared → Prop} (h : (m.runFor 4).outcome = some .failed) (hQ : Q none s) : wpAny M A (reRunToEnd m) Q E s := by
  unfold reRunToEnd
  refine wpAny_bind ?_
  show wpAny M A (reDrive (18446744073709551615 + 1) m) _ E s
  refine drive_one (by rw [h]; rfl) (run_tail (R := none) ?_ hQ)
  rw [h]
theorem run_some {m : Sre.M} {Q : Option Sre.M → Shared → Prop} (h0 : (m.runFor 4).outcome = none) (h : ((m.runFor 4).runFor 4).outcome = some .matched) (hQ : Q (some ((m.runFor 4).runFor 4)) s) : wpAny M A (reRunToEnd m) Q E s := by
  unfold reRunToEnd
  refine wpAny_bind ?_
  show wpAny M A (reDrive (18446744073709551614 + 1 + 1) m) _ E s
  refine drive_two h0 (by rw [h]; rfl) (run_tail (R := some _) ?_ hQ)
  rw [h]
end

abbrev patObj : Obj := { cls := .type "re.Pattern", data := .fields #[.str (Str.ofString "([&~|])") 283, .int 32 318, .int 1 0, .none, .none, .ref 35, .int 0 0] }
abbrev codeTup : Obj := { cls := .type "tuple", data := .seq #[.int 14 0, .int 14 0, .int 4 0, .int 1 0, .int 1 0, .int 9 0, .int 0 0, .int 64 0, .int 0 0, .int 1342177280 0, .int 0 0, .int 0 0, .int 0 0, .int 0 0, .int 0 0, .int 17 0, .int 0 0, .int 13 0, .int 11 0, .int 9 0, .int 0 0, .int 64 0, .int 0 0, .int 1342177280 0, .int 0 0, .int 0 0, .int 0 0, .int 0 0, .int 0 0, .int 17 0, .int 1 0, .int 1 0] }
theorem codeTup_words : Array.map (fun (x : Int) => x.toNat) (Array.map reRawOf #[.int 14 0, .int 14 0, .int 4 0, .int 1 0, .int 1 0, .int 9 0, .int 0 0, .int 64 0, .int 0 0, .int 1342177280 0, .int 0 0, .int 0 0, .int 0 0, .int 0 0, .int 0 0, .int 17 0, .int 0 0, .int 13 0, .int 11 0, .int 9 0, .int 0 0, .int 64 0, .int 0 0, .int 1342177280 0, .int 0 0, .int 0 0, .int 0 0, .int 0 0, .int 0 0, .int 17 0, .int 1 0, .int 1 0]) = reCode := by decide +kernel
abbrev tgt (x : Str) (t : Tok) : ReTarget := { pattern := .ref 36, string := .str x t, code := reCode, text := x.cps, kind := 0, groups := 1, pos := 0, lim := x.cps.size }
section
variable {prog : Program} {w : World} {A : Around} {E : Value → Shared → Prop} {s : Shared}
theorem whole_target {x : Str} {t : Tok} {Q : ReTarget → Shared → Prop} (h36 : s.heap.get? 36 = some patObj) (h35 : s.heap.get? 35 = some codeTup) (hQ : Q (tgt x t) s) :
    wpAny (model prog w) A (reWholeTarget (.ref 36) (.str x t)) Q E s := by
  unfold reWholeTarget
  repeat (any_goals (first | assumption | wp_step))
  simp only [Option.getD_some]
  rw [codeTup_words]
  exact hQ
end
def escAmp (l : List Nat) : List Nat := l.flatMap fun c => if amp c then [92, c] else [c]
theorem firstAmp_none {text : Array Nat} {lim : Nat} : ∀ {fuel s : Nat}, lim + 1 - s ≤ fuel → firstAmp text lim fuel s = none → ∀ i, s ≤ i → i < lim → amp (text.getD i 0) = false
  | 0, s, hf, _, i, h1, h2 => by omega
  | fuel + 1, s, hf, h, i, h1, h2 => by
    unfold firstAmp at h
    rw [if_neg (by omega)] at h
    cases ha : amp (text.getD s 0) with
    | true => rw [ha] at h; simp at h
    | false =>
      rw [ha] at h
      simp only [Bool.false_eq_true, if_false] at h
      by_cases e : s = i
      · subst e; exact ha
      · exact firstAmp_none (by omega) h i (by omega) h2
theorem firstAmp_before {text : Array Nat} {lim : Nat} : ∀ {fuel s p : Nat}, firstAmp text lim fuel s = some p → ∀ i, s ≤ i → i < p → amp (text.getD i 0) = false
  | 0, _, _, h => by cases h
  | fuel + 1, s, p, h => by
    intro i h1 h2
    unfold firstAmp at h
    split at h
    · cases h
    · cases ha : amp (text.getD s 0) with
      | true => rw [ha] at h; simp at h; omega
      | false =>
        rw [ha] at h
        simp only [Bool.false_eq_true, if_false] at h
        by_cases e : s = i
        · subst e; exact ha
        · exact firstAmp_before h i (by omega) h2
theorem escAmp_plain : ∀ {l : List Nat}, (∀ c ∈ l, amp c = false) → escAmp l = l
  | [], _ => rfl
  | c :: r, h => by
    have := escAmp_plain fun d hd => h d (.tail _ hd)
    unfold escAmp at this ⊢
    rw [List.flatMap_cons, h c (.head _), this]
    rfl
theorem escAmp_append (a b : List Nat) : escAmp (a ++ b) = escAmp a ++ escAmp b := List.flatMap_append
theorem mem_window {x : Array Nat} {k p : Nat} {c : Nat} (h : c ∈ (x.toList.drop k).take (p - k)) : ∃ i, k ≤ i ∧ i < p ∧ x.getD i 0 = c := by
  obtain ⟨i, hi, e⟩ := List.getElem_of_mem h
  rw [List.getElem_take, List.getElem_drop] at e
  have h1 : i < p - k := by simp at hi; omega
  have h2 : k + i < x.size := by simp at hi; omega
  refine ⟨k + i, by omega, by omega, ?_⟩
  rw [← e, Array.getD, dif_pos h2]
  simp
theorem take_split (l : List Nat) {k p : Nat} (h : k ≤ p) : l.take p = l.take k ++ (l.drop k).take (p - k) := by
  conv => lhs; rw [show p = k + (p - k) by omega]
  rw [List.take_add]
theorem esc_window {x : Array Nat} {k p : Nat} (hkp : k ≤ p) (h : ∀ i, k ≤ i → i < p → amp (x.getD i 0) = false) : escAmp (x.toList.take p) = escAmp (x.toList.take k) ++ (x.toList.drop k).take (p - k) := by
  rw [take_split _ hkp, escAmp_append]
  congr 1
  refine escAmp_plain fun c hc => ?_
  obtain ⟨i, h1, h2, rfl⟩ := mem_window hc
  exact h i h1 h2
theorem esc_hit {x : Array Nat} {p : Nat} (hp : p < x.size) (ha : amp (x.getD p 0) = true) : escAmp (x.toList.take (p + 1)) = escAmp (x.toList.take p) ++ [92, x.getD p 0] := by
  have e : x.toList.take (p + 1) = x.toList.take p ++ [x.getD p 0] := by
    rw [List.take_add_one, List.getElem?_eq_getElem (by simpa using hp), Array.getD, dif_pos hp]
    simp
  rw [e, escAmp_append]
  have h1 : escAmp [x.getD p 0] = [92, x.getD p 0] := by
    show (if amp (x.getD p 0) = true then [92, x.getD p 0] else [x.getD p 0]) ++ [] = _
    rw [if_pos ha]; rfl
  rw [h1]
theorem join_empty : ∀ (texts : List Str), (Str.join Str.empty texts).cps.toList = (texts.map (·.cps.toList)).flatten
  | [] => rfl
  | [x] => by simp [Str.join]
  | x :: y :: r => by
    have ih := join_empty (y :: r)
    show ((x ++ Str.empty) ++ Str.join Str.empty (y :: r)).cps.toList = _
    rw [Str.cps_append, Str.cps_append, Array.toList_append, Array.toList_append, ih]
    simp [Str.empty]
end
section
open PySem PySem.W PyProof.Rows PySem.Calls PySem.Spec
open PySem.Builtin.Re
abbrev lObj (l : List (Str × Tok)) (e : Nat) : Obj := { cls := .type "list", data := .seq (strValues l).toArray e }
abbrev spanTup (p : Nat) : Obj := { cls := .type "tuple", data := .seq #[rawInt p, rawInt (p + 1 : Nat), rawInt p, rawInt (p + 1 : Nat)] }
abbrev matchObj (x : Str) (t : Tok) (ta : Addr) : Obj := { cls := .type "re.Match", data := .fields #[.str x t, .ref 36, rawInt 0, rawInt x.cps.size, rawInt 1, .ref ta] }
theorem entry_subloop : entryFor table "re.Pattern.sub.loop" = some Builtin.«re.Pattern.sub.loop» := entryFor_of_fast (by kernel_rfl)
theorem plain_subloop : plainId "re.Pattern.sub.loop" = true := by decide +kernel
abbrev subArgs (x : Str) (t : Tok) (lam pl : Addr) (n : Int) (k : Nat) : Args := ⟨[.ref 36, .str x t, .ref lam, rawInt 1, rawInt 0, rawInt n, rawInt k, rawInt k, .bool false, .ref pl, .bool false], []⟩

def CallsLam (prog : Program) (w : World) (A : Around) (h₀ : Heap) (L : Addr) (m : Str → Option Value) (news : List (Addr × Obj)) (x : Str) (t : Tok) (lam : Addr) : Prop :=
  ∀ (s₁ : Shared) (ma ta : Addr) (news₁ : List (Addr × Obj)) (p : Nat) (Q' E' : Value → Shared → Prop), p < x.cps.size → Fr h₀ L s₁.heap m → News h₀ L s₁.heap news₁ → (∀ q ∈ news, q ∈ news₁) → (ma, matchObj x t ta) ∈ news₁ → (ta, spanTup p) ∈ news₁ →
    (∀ t' h' tk', Fr h₀ L h' m → News h₀ L h' news₁ → Q' (.str ⟨#[92, x.cps.getD p 0]⟩ t') { s₁ with heap := h', toks := tk' }) → wpAny (model prog w) A (call (.ref lam) [.ref ma]) Q' E' s₁

section
variable {prog : Program} {w : World} {A : Around} {h₀ : Heap} {L : Addr} {m : Str → Option Value} {news : List (Addr × Obj)} {x : Str} {t : Tok} {lam pl : Addr}
theorem slice_fits (hx : x.cps.size ≤ 1000) (a b : Nat) : (⟨x.cps.extract a b⟩ : Str).length ≤ sizeLine := by
  show (x.cps.extract a b).size ≤ sizeLine
  rw [Array.size_extract, sizeLine_eq]; omega
theorem strValues_length (l : List (Str × Tok)) : (strValues l).length = l.length := by simp [strValues]
theorem push_piece {M : Model} {A : Around} {E : Value → Shared → Prop} {s : Shared} {l : List (Str × Tok)} {e : Nat} {v : Str} {tv : Tok} {Q : Unit → Shared → Prop}
    (F : Fr h₀ L s.heap m) (N : News h₀ L s.heap ((pl, lObj l e) :: news)) (hpl : ∀ q ∈ news, q.1 < pl) (hz : l.length ≤ 3000)
    (h : ∀ h', Fr h₀ L h' m → News h₀ L h' ((pl, lObj (l ++ [(v, tv)]) (e + 1)) :: news) → Q () { s with heap := h' }) : wpAny M A (updateSeq pl (fun a => a.push (.str v tv))) Q E s := by
  have hz' : (strValues l).toArray.size ≤ 3000 := by rw [List.size_toArray, strValues_length]; exact hz
  have hz2 : ((strValues l).toArray.push (Value.str v tv)).size ≤ sizeLine + 1 := by rw [Array.size_push, sizeLine_eq]; omega
  refine wpAny_updateSeq (N _ (.head _)).1 rfl ?_ (by rw [sizeLine_eq]; omega) hz2
  have ho : Obj.mapSeq (fun a => a.push (Value.str v tv)) (lObj l e) = lObj (l ++ [(v, tv)]) (e + 1) := by
    have h1 : (strValues (l ++ [(v, tv)])).toArray = (strValues l).toArray.push (Value.str v tv) := by simp [strValues]
    unfold lObj
    rw [h1]
    unfold Obj.mapSeq
    simp
  obtain ⟨F', N'⟩ := news_upd (pre := []) F N (fun _ hp => nomatch hp) (fun q hq => Nat.ne_of_lt (hpl q hq)) ho rfl
  exact h _ F' N'
theorem sub_end {A : Around} {prog : Program} {w : World} {E : Value → Shared → Prop} {s : Shared} {l : List (Str × Tok)} {e : Nat} {n : Int} {Q : PySem.Fin → Shared → Prop}
    (hx : x.cps.size ≤ 1000) (F : Fr h₀ L s.heap m) (N : News h₀ L s.heap ((pl, lObj l e) :: news)) (hlen : l.length ≤ 3000) (hl : (l.map fun y => y.1.cps.toList).flatten = escAmp x.cps.toList) (hshort : ∀ y ∈ l, y.1.length ≤ 1000)
    (hR : ∀ t' h' tk', Fr h₀ L h' m → News h₀ L h' news → Q (.done (.ret (.str (S (escAmp x.cps.toList)) t'))) { s with heap := h', toks := tk' }) :
    wpAny (model prog w) A (do
      let joiner ← reSlice x.cps 0 0 0
      let text ← if ((← seqItems? (.ref pl)).getD #[]).isEmpty then pure joiner else call (.builtin (if (0 : Nat) == 0 then "str.join" else "bytes.join")) [joiner, .ref pl]
      if false then ret (← holding [text] do newTuple [text, ← mkInt n]) else ret text) Q E s := by
  have N₀ : News h₀ L s.heap news := fun q hq => N q (.tail _ hq)
  have e0 : (⟨x.cps.extract 0 0⟩ : Str) = Str.empty := by simp [Str.empty]
  refine wpAny_bind ?_
  show wpAny _ _ (mkStr ⟨x.cps.extract 0 0⟩) _ _ _
  refine wpAny_mkStr ?_ (slice_fits hx 0 0)
  rw [e0]
  refine wpAny_bind ?_
  refine wpAny_seqItems (N _ (.head _)).1 rfl ?_
  cases l with
  | nil =>
    show wpAny _ _ (pure (Value.str Str.empty s.toks) >>= _) _ _ _
    refine wpAny_bind (wpAny_pure ?_)
    show wpAny _ _ (ret (.str Str.empty _)) _ _ _
    have e1 : Str.empty = S (escAmp x.cps.toList) := by rw [← hl]; rfl
    rw [e1]
    exact wpAny_pure (hR _ _ _ F N₀)
  | cons y r =>
    have hne : (((some (strValues (y :: r)).toArray : Option (Array Value)).getD #[]).isEmpty) = false := by simp [strValues]
    show wpAny _ _ ((if (((some (strValues (y :: r)).toArray : Option (Array Value)).getD #[]).isEmpty) = true then pure (Value.str Str.empty s.toks) else call (.builtin "str.join") [Value.str Str.empty s.toks, .ref pl]) >>= _) _ _ _
    rw [hne]
    refine wpAny_bind ?_
    show wpAny _ _ (call (.builtin "str.join") [Value.str Str.empty s.toks, .ref pl]) _ _ _
    refine SC.join (l := y :: r) (texts := (y :: r).map (·.1)) ⟨_, (N _ (.head _)).1, rfl, _, rfl⟩ rfl ?_ fun t' k => ?_
    · have := StrLaws.joinFits (sep := Str.empty) (texts := (y :: r).map (·.1)) (B := 1000) (fun z hz => by
        obtain ⟨q, hq, rfl⟩ := List.mem_map.mp hz
        exact hshort q hq) (by simp only [List.length_map]; rw [show Str.empty.length = 0 from rfl]; omega)
      unfold JoinOk
      rw [this]; rfl
    · show wpAny _ _ (ret (.str (Txt.join Str.empty ((y :: r).map (·.1))) t')) _ _ _
      have e1 : Txt.join Str.empty ((y :: r).map (·.1)) = S (escAmp x.cps.toList) := by
        unfold Txt.join
        rw [StrLaws.glued_eq_join]
        refine Str.ext' (Array.toList_inj.mp ?_)
        rw [join_empty, ← hl, List.map_map]
        rfl
      rw [e1]
      exact wpAny_pure (hR _ _ _ F N₀)
theorem new_match {M : Model} {A : Around} {E : Value → Shared → Prop} {s : Shared} {p : Nat} {mm : Sre.M} {Q : Value → Shared → Prop} (H : Hit p mm)
    (h : Q (.ref (s.heap.objs.size + 1)) { s with heap := (s.heap.push (spanTup p)).push (matchObj x t s.heap.objs.size) }) : wpAny M A (reNewMatch (.ref 36) (.str x t) 1 0 x.cps.size mm) Q E s := by
  obtain ⟨h1, h2, h3, h4, h5, h6⟩ := H
  have e1 : (List.range 1) = [0] := rfl
  unfold reNewMatch
  simp only [e1, h4, h5, h2, h3, h6]
  rw [if_neg (by simp)]
  have e2 : ∀ (l : List Value), l = [rawInt p, rawInt (p + 1 : Nat), rawInt p, rawInt (p + 1 : Nat)] → wpAny M A (do let tu ← newTuple l; newFields "re.Match" [.str x t, .ref 36, rawInt 0, rawInt x.cps.size, rawInt 1, tu]) Q E s := by
    rintro l rfl
    refine wpAny_bind (wpAny_newTuple ?_ (by rw [sizeLine_eq]; simp))
    unfold newFields
    refine wpAny_newObj_type ?_ (by size_fits)
    rw [Heap.size_push]
    exact h
  refine e2 _ ?_
  simp
set_option maxHeartbeats 4000000
theorem sub_loop (hx : x.cps.size ≤ 1000) (hpl : ∀ q ∈ news, q.1 < pl) (h36 : h₀.get? 36 = some patObj) (h35 : h₀.get? 35 = some codeTup) (hcall : CallsLam prog w A.in1 h₀ L m news x t lam) :
    ∀ (fuel k : Nat), x.cps.size - k < fuel → k ≤ x.cps.size → ∀ (s : Shared) (l : List (Str × Tok)) (e : Nat) (n : Int) (R : Result → Shared → Prop), Fr h₀ L s.heap m → News h₀ L s.heap ((pl, lObj l e) :: news) → l.length ≤ 2 * k →
      (l.map fun y => y.1.cps.toList).flatten = escAmp (x.cps.toList.take k) → (∀ y ∈ l, y.1.length ≤ 1000) →
      (∀ t' h' tk', Fr h₀ L h' m → News h₀ L h' news → R (.ok (.ret (.str (S (escAmp x.cps.toList)) t'))) { s with heap := h', toks := tk' }) →
      codeAny (model prog w) A (.builtin "re.Pattern.sub.loop" (subArgs x t lam pl n k)) R s := by
  intro fuel
  induction fuel with
  | zero =>
    intro k hk
    omega
  | succ fuel ih =>
    intro k hk hk2 s l e n R F N hlen hl hshort hR
    refine codeAny_builtin entry_subloop ?_
    rw [Around.under_plainId plain_subloop]
    have g36 := F.keep _ _ h36
    have g35 := F.keep _ _ h35
    unfold Builtin.«re.Pattern.sub.loop»
    refine wpAny_bind (whole_target g36 g35 ?_)
    cases hf : firstAmp x.cps x.cps.size (x.cps.size + 1 - k) k with
    | none =>
      have hn := search_none hf
      by_cases hk3 : k < x.cps.size
      · have hk4 : ((k : Nat) : Int).toNat < x.cps.size := hk3
        have gpl := (N _ (.head _)).1
        have hsl := slice_fits hx k x.cps.size
        have hend := esc_window hk2 (firstAmp_none (by omega) hf)
        rw [List.take_of_length_le (by simp)] at hend
        repeat (any_goals (first | assumption | ((with_reducible show wpAny _ _ (reRunToEnd _) _ _ _); refine run_none (m := Sre.forSearch reCode x.cps 1 k x.cps.size false) hn ?_) | ((with_reducible show wpAny _ _ (mkStr _) _ _ _); refine wpAny_mkStr ?_ hsl) | ((with_reducible show wpAny _ _ (updateSeq _ _) _ _ _); refine push_piece F N hpl (by omega) fun h' F' N' => ?_) | (refine sub_end (n := n) hx (by exact F') (by exact N') ?_ ?_ ?_ ?_) | wp_step))
        · rw [List.length_append]; simp; omega
        · rw [List.map_append, List.flatten_append, hl, hend]
          simp
        · intro y hy
          rcases List.mem_append.mp hy with hy | hy
          · exact hshort y hy
          · rw [List.mem_singleton.mp hy]
            show (x.cps.extract k x.cps.size).size ≤ 1000
            rw [Array.size_extract]; omega
      · have hk5 : k = x.cps.size := by omega
        subst hk5
        have hk4 : ¬ ((x.cps.size : Nat) : Int).toNat < x.cps.size := by simp
        rw [List.take_of_length_le (by simp)] at hl
        repeat (any_goals (first | assumption | ((with_reducible show wpAny _ _ (reRunToEnd _) _ _ _); refine run_none (m := Sre.forSearch reCode x.cps 1 x.cps.size x.cps.size false) hn ?_) | (refine sub_end (n := n) hx (by exact F) (by exact N) ?_ hl hshort ?_) | wp_step))
        all_goals omega
    | some p =>
      obtain ⟨hn0, H⟩ := search_some hf
      obtain ⟨hkp, hps, hamp⟩ := firstAmp_lt hf
      have hwin := esc_window hkp (firstAmp_before hf)
      have hhit := esc_hit hps hamp
      obtain ⟨hm0, hm1, hm2, hm3⟩ := id H
      have N₀ : News h₀ L s.heap news := fun q hq => N q (.tail _ hq)
      have step : ∀ (s' : Shared) (l' : List (Str × Tok)) (e' : Nat) (mm : Sre.M), Hit p mm → s' = { s with heap := s'.heap, toks := s'.toks } → Fr h₀ L s'.heap m → News h₀ L s'.heap ((pl, lObj l' e') :: news) → l'.length ≤ 2 * p + 1 →
          (l'.map fun y => y.1.cps.toList).flatten = escAmp (x.cps.toList.take p) → (∀ y ∈ l', y.1.length ≤ 1000) →
          wpAny (model prog w) A.in1 (do
            let found ← reNewMatch (.ref 36) (.str x t) 1 0 x.cps.size mm
            let item ← holding [found] (call (.ref lam) [found])
            if item != .none then updateSeq pl (fun a => a.push item)
            again (.builtin "re.Pattern.sub.loop" ⟨[.ref 36, .str x t, .ref lam, rawInt 1, rawInt 0, rawInt (n + 1), rawInt mm.handed, rawInt mm.handed, .bool (mm.handed == mm.start), .ref pl, .bool false], []⟩))
            (fun fin s'' => match fin with | .done f => R (.ok f) s'' | .again c' => c'.quiet = true ∧ codeAny (model prog w) A c' R s'') (fun e s'' => R (.error e) s'') s' := by
        intro s' l' e' mm H' hs' F' N' hl1 hl2 hl3
        have hpl' : pl < s'.heap.objs.size := Heap.lt_size (N' _ (.head _)).1
        refine wpAny_bind (new_match H' ?_)
        have F1 := F'.push (spanTup p)
        have N1 := N'.push F' (spanTup p)
        have F2 := F1.push (matchObj x t s'.heap.objs.size)
        have N2 := N1.push F1 (matchObj x t s'.heap.objs.size)
        rw [Heap.size_push] at N2
        refine wpAny_bind (wpAny_holding ?_)
        refine hcall _ (s'.heap.objs.size + 1) s'.heap.objs.size _ p _ _ hps F2 N2 (fun q hq => .tail _ (.tail _ (.tail _ hq))) (.head _) (.tail _ (.head _)) fun t' h' tk' F3 N3 => ?_
        show wpAny _ _ (updateSeq pl (fun a => a.push (.str ⟨#[92, x.cps.getD p 0]⟩ t')) >>= _) _ _ _
        refine wpAny_bind (push_piece F3 (fun q hq => N3 q (.tail _ (.tail _ hq))) hpl (by omega) fun h4 F4 N4 => ?_)
        obtain ⟨ho', ha', hb', _⟩ := H'
        rw [ha', hb']
        have e1 : (p + 1 == p) = false := by simp
        rw [e1]
        refine wpAny_pure ⟨plainId_quiet plain_subloop _, ?_⟩
        refine ih (p + 1) (by omega) (by omega) _ _ _ _ _ F4 N4 ?_ ?_ ?_ ?_
        · rw [List.length_append]; simp; omega
        · rw [List.map_append, List.flatten_append, hl2, hhit]; simp
        · intro y hy
          rcases List.mem_append.mp hy with hy | hy
          · exact hl3 y hy
          · rw [List.mem_singleton.mp hy]; show 2 ≤ 1000; omega
        · intro t'' h'' tk'' F'' N''
          have := hR t'' h'' tk'' F'' N''
          rw [hs']
          exact this
      by_cases hkp2 : k < p
      · have hk4 : ((k : Nat) : Int).toNat < (Sre.M.runFor 4 (Sre.M.runFor 4 (Sre.forSearch reCode x.cps 1 k x.cps.size false))).start := by rw [hm1]; exact hkp2
        have hsl := slice_fits hx k (Sre.M.runFor 4 (Sre.M.runFor 4 (Sre.forSearch reCode x.cps 1 k x.cps.size false))).start
        repeat (any_goals (first | assumption | ((with_reducible show wpAny _ _ (reRunToEnd _) _ _ _); refine run_some (m := Sre.forSearch reCode x.cps 1 k x.cps.size false) hn0 hm0 ?_) | ((with_reducible show wpAny _ _ (mkStr _) _ _ _); refine wpAny_mkStr ?_ hsl) | ((with_reducible show wpAny _ _ (updateSeq _ _) _ _ _); refine push_piece F N hpl (by omega) fun h' F' N' => ?_) | (refine step _ _ _ _ H rfl (by exact F') (by exact N') ?_ ?_ ?_) | wp_step))
        · rw [List.length_append]; simp; omega
        · rw [List.map_append, List.flatten_append, hl, hwin]
          simp only [List.map_cons, List.map_nil, List.flatten_cons, List.flatten_nil, List.append_nil]
          congr 1
          show (x.cps.extract k _).toList = _
          rw [hm1]
          simp
        · intro y hy
          rcases List.mem_append.mp hy with hy | hy
          · exact hshort y hy
          · rw [List.mem_singleton.mp hy]
            show (x.cps.extract k _).size ≤ 1000
            rw [Array.size_extract]; omega
      · have hkp3 : k = p := by omega
        have hk4 : ¬ ((k : Nat) : Int).toNat < (Sre.M.runFor 4 (Sre.M.runFor 4 (Sre.forSearch reCode x.cps 1 k x.cps.size false))).start := by rw [hm1]; show ¬ k < p; omega
        repeat (any_goals (first | assumption | ((with_reducible show wpAny _ _ (reRunToEnd _) _ _ _); refine run_some (m := Sre.forSearch reCode x.cps 1 k x.cps.size false) hn0 hm0 ?_) | (refine wpAny_ite_false (decide_eq_false hk4) ?_) | (refine step _ _ _ _ H rfl (by exact F) (by exact N) ?_ ?_ hshort) | wp_step))
        all_goals first | omega | (rw [hl, hkp3])
end
end
section
open PySem PySem.W PyProof.Rows PySem.Calls PySem.Spec
open PySem.Builtin.Re
theorem slot_sub : Slot "re.Pattern" "sub" "re.Pattern.sub" :=
  .of (owner := "re.Pattern") (n := "sub") (by rw [typeLookup_type, builtinLookup_eq_fast]; kernel_rfl) (by decide +kernel) (by decide +kernel) (by decide +kernel)
    (by first | exact .inl (by decide +kernel) | exact .inr (by decide +kernel)) (by rw [isSubtype_type]; kernel_rfl)
theorem entry_sub : entryFor table "re.Pattern.sub" = some Builtin.«re.Pattern.sub» := entryFor_of_fast (by kernel_rfl)
theorem args_sub (a b c : Value) : argsOk "re.Pattern.sub" ⟨[a, b, c], []⟩ := by unfold argsOk; kernel_rfl
theorem named_sub (a b : Value) : reNamed "re.Pattern.sub" "sub" ["repl", "string", "count"] 2 [a, b] [] = pure [some a, some b, none] := by first | rfl | with_unfolding_all rfl
theorem fn_call : ∃ v, typeLookup (.type "function") "__call__" = pure (some v) := ⟨.builtin "function.__call__", by rw [typeLookup_type, builtinLookup_eq_fast]; kernel_rfl⟩
theorem sub_str_bytearray : isSubtype (.type "str") (.type "bytearray") = pure false := by rw [isSubtype_type]; kernel_rfl
section
variable {prog : Program} {w : World} {A : Around} {E : Value → Shared → Prop} {s : Shared} {h₀ : Heap} {L : Addr} {m : Str → Option Value} {news : List (Addr × Obj)} {x : Str} {t : Tok} {lam : Addr} {Q : Value → Shared → Prop}
set_option maxHeartbeats 4000000
theorem sub_call {fd : FuncData} (hx : x.cps.size ≤ 1000) (h36 : h₀.get? 36 = some patObj) (h35 : h₀.get? 35 = some codeTup) (hcall : CallsLam prog w A.in1 h₀ L m news x t lam) (hlam : (lam, ({ cls := .type "function", data := .func fd } : Obj)) ∈ news)
    (F : Fr h₀ L s.heap m) (N : News h₀ L s.heap news)
    (hR : ∀ t' h' tk', Fr h₀ L h' m → News h₀ L h' news → Q (.str (S (escAmp x.cps.toList)) t') { s with heap := h', toks := tk' }) :
    wpAny (model prog w) A (call (.builtin "re.Pattern.sub") [.ref 36, .ref lam, .str x t]) Q E s := by
  have g36 := F.keep _ _ h36
  have g35 := F.keep _ _ h35
  have hT : s.TypeIs (.ref 36) "re.Pattern" := ⟨_, g36, rfl⟩
  have hTl : s.TypeIs (.ref lam) "function" := ⟨_, (N _ hlam).1, rfl⟩
  have hTs : s.TypeIs (.str x t) "str" := typeIs_str _ _ _
  obtain ⟨cv, hcv⟩ := fn_call
  have hsb := sub_str_bytearray
  refine wpAny_call (codeAny_call_builtin slot_sub.plain entry_sub (slot_sub.check _ _ _ _ _ _ _ _ hT (args_sub _ _ _) ?_))
  unfold Builtin.«re.Pattern.sub» reSubstitute
  repeat (any_goals (first | assumption | (rw [named_sub]) | ((with_reducible show wpAny _ _ (reWholeTarget _ _) _ _ _); refine whole_target g36 g35 ?_) | wp_step))
  refine ⟨plainId_quiet plain_subloop _, ?_⟩
  refine sub_loop hx (fun q hq => Heap.lt_size (N q hq).1) h36 h35 hcall (x.cps.size + 1) 0 (by omega) (by omega) _ [] 0 0 _ (F.push _) (N.push F _) (by simp) rfl (fun y hy => nomatch hy) fun t' h' tk' F' N' => ?_
  exact hR t' h' tk' F' N'
end
end
section
open PySem PySem.W PyProof.Rows PySem.Calls PySem.Spec
open PySem.Builtin.Re
theorem pattern_plain : PlainAttrs "re.Pattern" :=
  ⟨⟨"object.__getattribute__", by rw [typeLookup_type, builtinLookup_eq_fast]; kernel_rfl, by decide +kernel⟩, by rw [typeLookup_type, builtinLookup_eq_fast]; kernel_rfl⟩
theorem match_plain : PlainAttrs "re.Match" :=
  ⟨⟨"object.__getattribute__", by rw [typeLookup_type, builtinLookup_eq_fast]; kernel_rfl, by decide +kernel⟩, by rw [typeLookup_type, builtinLookup_eq_fast]; kernel_rfl⟩
theorem slot_group : Slot "re.Match" "group" "re.Match.group" :=
  .of (owner := "re.Match") (n := "group") (by rw [typeLookup_type, builtinLookup_eq_fast]; kernel_rfl) (by decide +kernel) (by decide +kernel) (by decide +kernel)
    (by first | exact .inl (by decide +kernel) | exact .inr (by decide +kernel)) (by rw [isSubtype_type]; kernel_rfl)
theorem entry_group : entryFor table "re.Match.group" = some Builtin.«re.Match.group» := entryFor_of_fast (by kernel_rfl)
theorem args_group (a b : Value) : argsOk "re.Match.group" ⟨[a, b], []⟩ := by unfold argsOk; kernel_rfl
theorem type_sub : typeOf (.builtin "re.Pattern.sub") = pure (.type "method_descriptor") := by show builtinType _ = _; rw [builtinType_eq_fast]; kernel_rfl
theorem type_group : typeOf (.builtin "re.Match.group") = pure (.type "method_descriptor") := by show builtinType _ = _; rw [builtinType_eq_fast]; kernel_rfl
section
variable {prog : Program} {w : World} {A : Around} {E : Value → Shared → Prop} {s : Shared} {x : Str} {t u : Tok} {ma ta : Addr} {p : Nat} {Q : Value → Shared → Prop}
set_option maxHeartbeats 4000000
theorem method_sub {pl : Sem Bool} {Q : Value × List Value → Shared → Prop} (h36 : s.heap.get? 36 = some patObj) (h : Q (.builtin "re.Pattern.sub", [.ref 36]) s) : wpAny (model prog w) A (getMethod (.ref 36) "sub" pl) Q E s :=
  getMethod_builtin ⟨_, h36, rfl⟩ pattern_plain slot_sub type_sub (fun a e => by cases e; exact ⟨_, h36, rfl⟩) h
theorem method_group {pl : Sem Bool} {Q : Value × List Value → Shared → Prop} (hm : s.heap.get? ma = some (matchObj x t ta)) (h : Q (.builtin "re.Match.group", [.ref ma]) s) : wpAny (model prog w) A (getMethod (.ref ma) "group" pl) Q E s :=
  getMethod_builtin ⟨_, hm, rfl⟩ match_plain slot_group type_group (fun a e => by cases e; exact ⟨_, hm, rfl⟩) h
theorem call_group (hx : x.cps.size ≤ 1000) (hp : p < x.cps.size) (hm : s.heap.get? ma = some (matchObj x t ta)) (ht : s.heap.get? ta = some (spanTup p))
    (h : ∀ t' tk', Q (.str ⟨#[x.cps.getD p 0]⟩ t') { s with toks := tk' }) : wpAny (model prog w) A (call (.builtin "re.Match.group") [.ref ma, .int 1 u]) Q E s := by
  have hT : s.TypeIs (.ref ma) "re.Match" := ⟨_, hm, rfl⟩
  have hTt : s.TypeIs (.ref ta) "tuple" := ⟨_, ht, rfl⟩
  refine wpAny_call (codeAny_call_builtin slot_group.plain entry_group (slot_group.check _ _ _ _ _ _ _ _ hT (args_group _ _) ?_))
  unfold Builtin.«re.Match.group»
  repeat (any_goals (first | assumption | wp_step))
  have e1 : Array.map reRawOf ((some #[rawInt ↑p, rawInt ↑(p + 1), rawInt ↑p, rawInt ↑(p + 1)] : Option (Array Value)).getD #[]) = #[(p : Int), ((p + 1 : Nat) : Int), (p : Int), ((p + 1 : Nat) : Int)] := by
    simp [reRawOf, rawInt]
  simp only [e1]
  have e2 : (#[(p : Int), ((p + 1 : Nat) : Int), (p : Int), ((p + 1 : Nat) : Int)] : Array Int).getD (2 * Int.toNat 1) (-1) = (p : Int) := rfl
  have e3 : (#[(p : Int), ((p + 1 : Nat) : Int), (p : Int), ((p + 1 : Nat) : Int)] : Array Int).getD (2 * Int.toNat 1 + 1) (-1) = ((p + 1 : Nat) : Int) := rfl
  simp only [e2, e3]
  refine wpAny_ite_false (by simp; omega) ?_
  have e4 : (⟨x.cps.extract p (p + 1)⟩ : Str) = ⟨#[x.cps.getD p 0]⟩ := by
    refine Str.ext' (Array.toList_inj.mp ?_)
    show (x.cps.extract p (p + 1)).toList = [x.cps.getD p 0]
    have hp' : p < x.cps.toList.length := by simpa using hp
    rw [Array.getD, dif_pos hp]
    simp
    rw [List.drop_eq_getElem_cons hp']
    simp
  have hsl : (⟨x.cps.extract p (p + 1)⟩ : Str).length ≤ sizeLine := by rw [e4, sizeLine_eq]; show 1 ≤ _; decide
  repeat (any_goals (first | assumption | ((with_reducible show wpAny _ _ (mkStr _) _ _ _); refine wpAny_mkStr ?_ hsl) | wp_step))
  have h1 := h s.toks (s.toks + 1)
  rw [← e4] at h1
  exact h1
end
end
section
open PySem PySem.W PyProof.Rows PySem.Calls PySem.Spec
def Same (s s' : Shared) : Prop := s'.os = s.os ∧ (AllBare s.gens → AllBare s'.gens)
theorem Same.refl (s : Shared) : Same s s := ⟨rfl, id⟩
theorem Same.trans {a b c : Shared} (x : Same a b) (y : Same b c) : Same a c := ⟨y.1.trans x.1, fun h => y.2 (x.2 h)⟩
theorem Same.step {s s₁ : Shared} {h' : Heap} {tk : Nat} (x : Same s s₁) : Same s { s₁ with heap := h', toks := tk } := ⟨x.1, x.2⟩
def TurnTo (h₀ : Heap) (L : Addr) (J : (Str → Option Value) → List (Addr × Obj) → Prop) (s : Shared) (Q : Flow → Shared → Prop) (f : Flow) (s' : Shared) : Prop :=
  match f with
  | .ret v => Q (.ret v) s'
  | .brk => Q .next s'
  | _ => ∃ m' news', Fr h₀ L s'.heap m' ∧ News h₀ L s'.heap news' ∧ J m' news' ∧ Same s s'
section
variable {prog : Program} {w : World} {A : Around} {E : Value → Shared → Prop} {s : Shared} {env : Env} {h₀ : Heap} {Q : Flow → Shared → Prop}
theorem While_J {test : PySem.Expr} {body : List Stmt} {pos : Pos} (J : Nat → (Str → Option Value) → List (Addr × Obj) → Prop) {m : Str → Option Value} {news : List (Addr × Obj)} (n : Nat)
    (F : Fr h₀ env.locals s.heap m) (N : News h₀ env.locals s.heap news) (hE : PassesOwn (model prog w) A env E) (hJ : J n m news)
    (turn : ∀ n m news (s₁ : Shared), Same s s₁ → J n m news → Fr h₀ env.locals s₁.heap m → News h₀ env.locals s₁.heap news →
      wpAny (model prog w) A (isTrue test env (eval test env)) (fun b s₂ => if b = true then wpAny (model prog w) A (execs body env) (TurnTo h₀ env.locals (fun m' news' => ∃ n', n' < n ∧ J n' m' news') s Q) E s₂ else Q .next s₂) E s₁) :
    wpAny (model prog w) A (exec (.While test body [] pos) env) Q E s := by
  refine wpAny_While ?_
  refine codeAny_whileLoop (fun k s' => ∃ m' news', Fr h₀ env.locals s'.heap m' ∧ News h₀ env.locals s'.heap news' ∧ J k m' news' ∧ Same s s') ?_ n ⟨m, news, F, N, hJ, Same.refl s⟩
  rintro k s₁ ⟨m₁, news₁, F₁, N₁, hJ₁, hS⟩
  refine wpAny_passesOwn hE (wpAny_mono (turn k m₁ news₁ s₁ hS hJ₁ F₁ N₁) (fun b s₂ h₂ => ?_) fun _ _ x => x)
  cases b with
  | true =>
    simp only [if_true] at h₂ ⊢
    refine wpAny_passesOwn hE (wpAny_mono h₂ (fun f s₃ h₃ => ?_) fun _ _ x => x)
    cases f with
    | next => obtain ⟨m', news', F', N', ⟨n', hn, hj⟩, hs⟩ := h₃; exact ⟨n', hn, m', news', F', N', hj, hs⟩
    | cont => obtain ⟨m', news', F', N', ⟨n', hn, hj⟩, hs⟩ := h₃; exact ⟨n', hn, m', news', F', N', hj, hs⟩
    | brk => exact h₃
    | ret v => exact h₃
  | false =>
    simp only [Bool.false_eq_true, if_false] at h₂ ⊢
    exact wpAny_execs_nil h₂
end
end
section
open PySem
abbrev Pairs := List (Nat × Nat)
def cont (ps : Pairs) : List Nat := ps.flatMap fun q => [q.1, 45, q.2]
def brk (ps : Pairs) : List Nat := 91 :: (cont ps ++ [93])
def pat (bs : List Pairs) : List Nat := bs.flatMap brk
def okPair (q : Nat × Nat) : Prop := (q.1 ≠ 33 ∧ q.1 ≠ 93) ∧ (q.2 ≠ 33 ∧ q.2 ≠ 93)
def okPairs (ps : Pairs) : Prop := ps ≠ [] ∧ ∀ q ∈ ps, okPair q
/-- the chunks behind the merging loop, pre standing in front of the first chunk -/
def merged (pre : List Nat) : Pairs → List (List Nat)
  | [] => [pre]
  | q :: ps => match merged [q.2] ps with
    | [] => []
    | h :: tl => if q.2 < q.1 then (pre ++ h.tail) :: tl else (pre ++ [q.1]) :: h :: tl
/-- the chunks ahead of the merging loop -/
def chunks (pre : List Nat) : Pairs → List (List Nat)
  | [] => [pre]
  | q :: ps => (pre ++ [q.1]) :: chunks [q.2] ps
def esc1 (c : Nat) : List Nat := if c = 92 then [92, 92] else if c = 45 then [92, 45] else [c]
def esc (l : List Nat) : List Nat := l.flatMap esc1
def glue (ls : List (List Nat)) : List Nat := [45].intercalate ls
def escA (l : List Nat) : List Nat := l.flatMap fun c => if c == 38 || c == 124 || c == 126 then [92, c] else [c]
def stuff (ps : Pairs) : List Nat := escA (glue ((merged [] ps).map esc))
def frontEsc : List Nat → List Nat
  | [] => []
  | c :: r => if c = 94 ∨ c = 91 then 92 :: c :: r else c :: r
def out (ps : Pairs) : List Nat := if stuff ps = [] then [40, 63, 33, 41] else 91 :: (frontEsc (stuff ps) ++ [93])

theorem cont_length (ps : Pairs) : (cont ps).length = 3 * ps.length := by
  induction ps with
  | nil => rfl
  | cons q r ih => unfold cont at ih ⊢; rw [List.flatMap_cons, List.length_append, ih]; simp; omega
theorem cont_cons (q : Nat × Nat) (r : Pairs) : cont (q :: r) = q.1 :: 45 :: q.2 :: cont r := rfl
theorem cont_append (a b : Pairs) : cont (a ++ b) = cont a ++ cont b := List.flatMap_append
theorem cont_ok {ps : Pairs} (h : ∀ q ∈ ps, okPair q) : ∀ c ∈ cont ps, c ≠ 33 ∧ c ≠ 93 := by
  intro c hc
  obtain ⟨q, hq, hc⟩ := List.mem_flatMap.mp hc
  have := h q hq
  unfold okPair at this
  simp at hc
  rcases hc with rfl | rfl | rfl
  · exact this.1
  · decide
  · exact this.2
theorem brk_length (ps : Pairs) : (brk ps).length = 3 * ps.length + 2 := by unfold brk; rw [List.length_cons, List.length_append, cont_length]; simp
theorem merged_ne (pre : List Nat) : ∀ ps, ∃ h tl, merged pre ps = (pre ++ h) :: tl := by
  intro ps
  induction ps generalizing pre with
  | nil => exact ⟨[], [], by simp [merged]⟩
  | cons q r ih =>
    obtain ⟨h, tl, e⟩ := ih [q.2]
    unfold merged
    rw [e]
    dsimp only
    split
    · exact ⟨_, _, rfl⟩
    · exact ⟨_, _, rfl⟩
theorem chunks_length (pre : List Nat) : ∀ ps, (chunks pre ps).length = ps.length + 1 := by
  intro ps
  induction ps generalizing pre with
  | nil => rfl
  | cons q r ih => unfold chunks; rw [List.length_cons, ih]; rfl
def heads (pre : List Nat) : Pairs → List (List Nat)
  | [] => []
  | q :: ps => (pre ++ [q.1]) :: heads [q.2] ps
def lastp (pre : List Nat) : Pairs → List Nat
  | [] => pre
  | q :: ps => lastp [q.2] ps
theorem heads_length (pre : List Nat) : ∀ ps, (heads pre ps).length = ps.length := by
  intro ps
  induction ps generalizing pre with
  | nil => rfl
  | cons q r ih => unfold heads; rw [List.length_cons, ih]; rfl
theorem heads_snoc (pre : List Nat) (q : Nat × Nat) : ∀ a, heads pre (a ++ [q]) = heads pre a ++ [lastp pre a ++ [q.1]] := by
  intro a
  induction a generalizing pre with
  | nil => rfl
  | cons x r ih => show (pre ++ [x.1]) :: heads [x.2] (r ++ [q]) = _; rw [ih]; rfl
theorem lastp_snoc (pre : List Nat) (q : Nat × Nat) : ∀ a, lastp pre (a ++ [q]) = [q.2] := by
  intro a
  induction a generalizing pre with
  | nil => rfl
  | cons x r ih => exact ih _
theorem cont_lastp : ∀ (a : Pairs) (q : Nat × Nat), ∃ u, cont (a ++ [q]) = u ++ [q.2] ∧ u.length + 1 = 3 * (a ++ [q]).length := fun a q =>
  ⟨cont a ++ [q.1, 45], by rw [cont_append]; simp [cont], by rw [List.length_append, cont_length]; simp; omega⟩
theorem lastp_split (a : Pairs) : ∃ u, cont a = u ++ lastp [] a ∧ u.length + (lastp [] a).length = 3 * a.length := by
  rcases List.eq_nil_or_concat a with rfl | ⟨a', q, rfl⟩
  · exact ⟨[], rfl, rfl⟩
  · obtain ⟨u, h1, h2⟩ := cont_lastp a' q
    rw [List.concat_eq_append, lastp_snoc]
    exact ⟨u, h1, h2⟩
theorem lastp_one {a : Pairs} (h : a ≠ []) : ∃ z, lastp [] a = [z] := by
  rcases List.eq_nil_or_concat a with rfl | ⟨a', q, rfl⟩
  · exact absurd rfl h
  · exact ⟨q.2, by rw [List.concat_eq_append, lastp_snoc]⟩
theorem map_mid {l : List (Str × Tok)} {A B : List Str} {x y : Str} (h : l.map (·.1) = A ++ x :: y :: B) : ∃ l1 t1 t2 l2, l = l1 ++ (x, t1) :: (y, t2) :: l2 ∧ l1.map (·.1) = A ∧ l2.map (·.1) = B := by
  obtain ⟨l1, r, rfl, h1, h2⟩ := List.map_eq_append_iff.mp h
  obtain ⟨⟨x', t1⟩, r2, rfl, h3, h4⟩ := List.map_eq_cons_iff.mp h2
  obtain ⟨⟨y', t2⟩, l2, rfl, h5, h6⟩ := List.map_eq_cons_iff.mp h4
  cases h3; cases h5
  exact ⟨l1, t1, t2, l2, rfl, h1, h6⟩
theorem merged_cons (pre : List Nat) (q : Nat × Nat) (b : Pairs) : ∃ h tl, merged [q.2] b = (q.2 :: h) :: tl ∧ merged pre (q :: b) = if q.2 < q.1 then (pre ++ h) :: tl else (pre ++ [q.1]) :: (q.2 :: h) :: tl := by
  obtain ⟨h, tl, e⟩ := merged_ne [q.2] b
  refine ⟨h, tl, e, ?_⟩
  unfold merged
  rw [e]
  rfl
theorem merged_length_le (pre : List Nat) : ∀ b : Pairs, (merged pre b).length ≤ b.length + 1 := by
  intro b
  induction b generalizing pre with
  | nil => simp [merged]
  | cons q r ih =>
    obtain ⟨h, tl, e, e2⟩ := merged_cons pre q r
    have := ih [q.2]
    rw [e] at this
    rw [e2]
    split
    · simp at *; omega
    · simp at *; omega
theorem merged_short (pre : List Nat) : ∀ b : Pairs, ∀ x ∈ merged pre b, x.length ≤ pre.length + 1 + 2 * b.length := by
  intro b
  induction b generalizing pre with
  | nil => simp [merged]
  | cons q r ih =>
    obtain ⟨h, tl, e, e2⟩ := merged_cons pre q r
    have := ih [q.2]
    rw [e] at this
    rw [e2]
    have hh := this (q.2 :: h) (by simp)
    have ht := fun x hx => this x (.tail _ hx)
    intro x hx
    split at hx
    · rcases List.mem_cons.mp hx with rfl | hx
      · simp at *; omega
      · have := ht x hx; simp at *; omega
    · rcases List.mem_cons.mp hx with rfl | hx
      · simp at *
      · rcases List.mem_cons.mp hx with rfl | hx
        · simp at *; omega
        · have := ht x hx; simp at *; omega
theorem lastp_le (a : Pairs) : (lastp [] a).length ≤ 1 := by
  rcases List.eq_nil_or_concat a with rfl | ⟨a', q, rfl⟩
  · simp [lastp]
  · rw [List.concat_eq_append, lastp_snoc]; simp
end
section
open PySem PySem.W PyProof.Rows PySem.Calls PySem.Spec
section
variable {prog : Program} {w : World} {A : Around} {E : Value → Shared → Prop} {s : Shared} {h₀ : Heap} {L : Addr} {m : Str → Option Value} {news : List (Addr × Obj)}
theorem getAttr_appendN {a : Addr} {xs : Array Value} {k : Nat} {Q : Value → Shared → Prop} (F : Fr h₀ L s.heap m) (N : News h₀ L s.heap news) (hm : (a, ({ cls := .type "list", data := .seq xs k } : Obj)) ∈ news)
    (h : ∀ q h' tk, Fr h₀ L h' m → News h₀ L h' ((q, boundObj a) :: news) → (∀ p ∈ news, p.1 < q) → Q (.ref q) { s with heap := h', toks := tk }) : wpAny (model prog w) A (getAttr (.ref a) "append" true) Q E s :=
  getAttr_append (N _ hm).1 fun tk => h _ _ tk (F.push _) (N.push F _) fun q hq => Heap.lt_size (N q hq).1
theorem call_boundN {q a : Addr} {xs : Array Value} {k : Nat} {x : Value} {news' : List (Addr × Obj)} {Q : Value → Shared → Prop} (F : Fr h₀ L s.heap m) (N : News h₀ L s.heap news) (hq : (q, boundObj a) ∈ news) (U : Upd a (W.listOf xs k) (W.listOf (xs.push x) (k + 1)) news news') (hsz : xs.size ≤ sizeLine)
    (h : ∀ h', Fr h₀ L h' m → News h₀ L h' news' → Q .none { s with heap := h' }) : wpAny (model prog w) A (call (.ref q) [x]) Q E s := by
  obtain ⟨pre, post, rfl, rfl, c1, c2⟩ := U.split
  have z := N (a, W.listOf xs k) (List.mem_append.mpr (.inr (.head _)))
  have ho : Obj.mapSeq (fun b => b.push x) (W.listOf xs k) = W.listOf (xs.push x) (k + 1) := by
    unfold W.listOf Obj.mapSeq
    simp
  obtain ⟨F', N'⟩ := news_upd F N c1 c2 ho rfl
  exact call_bound_append (N _ hq).1 z.1 hsz (h _ F' N')
theorem item_S {P : List Nat} {k : Int} {c : Nat} {value slice : PySem.Expr} {t u : Tok} {Q : Value → Shared → Prop} (hc : 0 ≤ k ∧ P[k.toNat]? = some c) (hP : P.length ≤ 1000)
    (h : ∀ t' tk', Q (.str ⟨#[c]⟩ t') { s with toks := tk' })
    (hs : subscripted slice false (.str (S P) t) (.int k u) = operate [.str (S P) t, .int k u] (getItem (.str (S P) t) (.int k u)) := by with_unfolding_all rfl) :
    wpAny (model prog w) A (subscriptTail value slice (.str (S P) t) (.int k u)) Q E s := by
  obtain ⟨h0, hc⟩ := hc
  have hlt : k.toNat < P.length := (List.getElem?_eq_some_iff.mp hc).1
  have hk : k < 1000 := by omega
  have e : (S P).length = P.length := by simp [Str.length]
  have h1 : Txt.charAt (S P) k = some c := by
    unfold Txt.charAt seqIndex?
    have h2 : ¬ k < 0 := by omega
    simp only [h2, if_false]
    have h4 : (decide (0 ≤ k) && decide (k < ((S P).length : Int))) = true := by
      rw [e]; simp; omega
    rw [if_pos h4]
    simpa using hc
  have h3 : Txt.item (S P) k = ⟨#[c]⟩ := by unfold Txt.item; rw [h1]; rfl
  refine tail_any (typeIs_str _ _ _) F.slot_str_getitem.lookup (SB.getItem ?_ (by rw [h1]; rfl) (by rw [h3]; exact h _ _)) hs
  unfold fitsSsize
  simp
  omega
end
end
section
open PySem PySem.W PyProof.Rows PySem.Calls PySem.Spec
def Off (I : Addr) (news : List (Addr × Obj)) : Prop := ∀ p ∈ news, p.1 ≠ I
structure IterOk (prog : Program) (w : World) (A : Around) (h₀ : Heap) (L I : Addr) (It : Nat → Obj → Prop) (n : Nat) (P : Nat → Value → Prop) (K : List (Addr × Obj) → Prop) : Prop where
  item : ∀ (i : Nat) (s : Shared) m news o (Q : Option Value → Shared → Prop) (E : Value → Shared → Prop), i < n → It i o → K news → Off I news → Fr h₀ L s.heap m → News h₀ L s.heap ((I, o) :: news) →
    (∀ v o' h' tk, P i v → It (i + 1) o' → Fr h₀ L h' m → News h₀ L h' ((I, o') :: news) → Q (some v) { s with heap := h', toks := tk }) → wpAny (model prog w) A (pyNext (.ref I)) Q E s
  done : ∀ (s : Shared) m news o (Q : Option Value → Shared → Prop) (E : Value → Shared → Prop), It n o → K news → Off I news → Fr h₀ L s.heap m → News h₀ L s.heap ((I, o) :: news) →
    (∀ h' tk, Fr h₀ L h' m → News h₀ L h' news → Q none { s with heap := h', toks := tk }) → wpAny (model prog w) A (pyNext (.ref I)) Q E s
  go : ∀ (i : Nat) (o : Obj) (s : Shared) (target : Expr) (v : Value) (Q : Unit → Shared → Prop) (E : Value → Shared → Prop), It i o → s.heap.get? I = some o → Q () s → wpAny (model prog w) A (letOwnedTupleGo target (.ref I) v) Q E s
def TurnIt (h₀ : Heap) (L I : Addr) (o : Obj) (J : (Str → Option Value) → List (Addr × Obj) → Prop) (s : Shared) (Q : Flow → Shared → Prop) (f : Flow) (s' : Shared) : Prop :=
  match f with
  | .ret v => Q (.ret v) s'
  | .brk => Q .next s'
  | _ => ∃ m' news', Fr h₀ L s'.heap m' ∧ News h₀ L s'.heap ((I, o) :: news') ∧ Off I news' ∧ J m' news' ∧ Same s s'
def ForJ (prog : Program) (w : World) (A : Around) (h₀ : Heap) (env : Env) (target : Expr) (body : List Stmt) (s : Shared) (Q : Flow → Shared → Prop) (E : Value → Shared → Prop) (it : Value) (s₂ : Shared) : Prop :=
  ∃ (I : Addr) (It : Nat → Obj → Prop) (n : Nat) (P : Nat → Value → Prop) (K : List (Addr × Obj) → Prop) (m : Str → Option Value) (news : List (Addr × Obj)) (o : Obj) (J : Nat → (Str → Option Value) → List (Addr × Obj) → Prop),
    it = .ref I ∧ IterOk prog w A h₀ env.locals I It n P K ∧ It 0 o ∧ Off I news ∧ Fr h₀ env.locals s₂.heap m ∧ News h₀ env.locals s₂.heap ((I, o) :: news) ∧ Same s s₂ ∧ J 0 m news ∧ (∀ i m news, J i m news → K news) ∧
    (∀ i v m₁ news₁ s₁ o₁, i < n → P i v → It (i + 1) o₁ → J i m₁ news₁ → Off I news₁ → Same s s₁ → Fr h₀ env.locals s₁.heap m₁ → News h₀ env.locals s₁.heap ((I, o₁) :: news₁) →
      wpAny (model prog w) A (assign target env v) (fun _ s₃ => wpAny (model prog w) A (execs body env) (TurnIt h₀ env.locals I o₁ (J (i + 1)) s Q) E s₃) E s₁) ∧
    ∀ s' m' news', Same s s' → Fr h₀ env.locals s'.heap m' → News h₀ env.locals s'.heap news' → J n m' news' → Q .next s'
section
variable {prog : Program} {w : World} {A : Around} {E : Value → Shared → Prop} {s : Shared} {env : Env} {h₀ : Heap} {Q : Flow → Shared → Prop}
theorem For_J {target iter : Expr} {body : List Stmt} {pos : Pos} (h₀ : Heap) (hE : PassesOwn (model prog w) A env E)
    (h : wpAny (model prog w) A (eval iter env) (fun xv s₁ => wpAny (model prog w) A (pyIter xv) (fun it s₂ => ForJ prog w A h₀ env target body s Q E it s₂) E s₁) E s)
    (hs : ∀ x, foldedSetIterable iter env x = pure x := by intro _; rfl) :
    wpAny (model prog w) A (exec (.For target iter body [] pos) env) Q E s := by
  refine wpAny_For (wpAny_mono h (fun xv s₁ h₁ => wpAny_mono h₁ (fun it s₂ h₂ => ?_) fun _ _ e => e) fun _ _ e => e) hs
  obtain ⟨I, It, n, P, K, m, news, o, J, rfl, W, hI, hoff, F, N, hS, h0, hK, step, hR⟩ := h₂
  refine codeAny_forLoop_any (R := fun r s' => match r with | .ok f => Q f s' | .error e => cameBackBy (model prog w) A env E e s')
    (fun k s' => ∃ m' news' o' i, Fr h₀ env.locals s'.heap m' ∧ News h₀ env.locals s'.heap ((I, o') :: news') ∧ It i o' ∧ Off I news' ∧ J i m' news' ∧ Same s s' ∧ i ≤ n ∧ k = n + 1 - i) ?_ (n + 1)
    ⟨m, news, o, 0, F, N, hI, hoff, h0, hS, Nat.zero_le _, rfl⟩
  rintro k s' ⟨m', news', o', i, F', N', hI', hoff', hJ, hS', hi, rfl⟩
  by_cases hlt : i < n
  · refine W.item i _ _ _ _ _ _ hlt hI' (hK _ _ _ hJ) hoff' F' N' fun v o₁ h₁ tk₁ hP hI₁ F₁ N₁ => ?_
    refine W.go _ _ _ _ _ _ _ hI₁ (N₁ _ (.head _)).1 ?_
    refine wpAny_passesOwn hE (wpAny_mono (step i v m' news' _ o₁ hlt hP hI₁ hJ hoff' (hS'.step) F₁ N₁) (fun _ s₂ h₂ => wpAny_passesOwn hE (wpAny_mono h₂ (fun f s₃ h₃ => ?_) fun _ _ e => e)) fun _ _ e => e)
    cases f with
    | next => obtain ⟨m', news', F', N', ho, hj, hs⟩ := h₃; exact ⟨n + 1 - (i + 1), by omega, m', news', o₁, i + 1, F', N', hI₁, ho, hj, hs, hlt, rfl⟩
    | cont => obtain ⟨m', news', F', N', ho, hj, hs⟩ := h₃; exact ⟨n + 1 - (i + 1), by omega, m', news', o₁, i + 1, F', N', hI₁, ho, hj, hs, hlt, rfl⟩
    | brk => exact h₃
    | ret v => exact h₃
  · have hin : i = n := by omega
    subst hin
    refine W.done _ _ _ _ _ _ hI' (hK _ _ _ hJ) hoff' F' N' fun h₁ tk₁ F₁ N₁ => wpAny_execs_nil ?_
    exact hR _ m' news' hS'.step F₁ N₁ hJ
end
theorem news_same {h₀ h h' : Heap} {L I : Addr} {m : Str → Option Value} {news : List (Addr × Obj)} {o o' : Obj} (F : Fr h₀ L h m) (N : News h₀ L h ((I, o) :: news)) (hoff : Off I news)
    (ho : h'.get? I = some o') (hs : Heap.SameBut I h h') : Fr h₀ L h' m ∧ News h₀ L h' ((I, o') :: news) := by
  have hI := N (I, o) (.head _)
  refine ⟨⟨F.ns.sameBut hs (Ne.symm hI.2.1), fun b ob e => (hs.2 b (fun q => ?_)).trans (F.keep b ob e), F.above⟩, ?_⟩
  · rw [q, hI.2.2] at e; cases e
  · intro p hp
    rcases List.mem_cons.mp hp with rfl | hp
    · exact ⟨ho, hI.2⟩
    · exact ⟨(hs.2 p.1 (hoff p hp)).trans (N p (.tail _ hp)).1, (N p (.tail _ hp)).2⟩
theorem news_ext {h₀ h h' : Heap} {L I : Addr} {m : Str → Option Value} {news : List (Addr × Obj)} {o : Obj} (F : Fr h₀ L h m) (N : News h₀ L h ((I, o) :: news)) (hoff : Off I news)
    (hs : Heap.ExtBut I h h') : Fr h₀ L h' m ∧ News h₀ L h' news := by
  have hI := N (I, o) (.head _)
  refine ⟨⟨F.ns.at' fun o' e => hs L o' (Ne.symm hI.2.1) e, fun b ob e => hs b ob (fun q => ?_) (F.keep b ob e), F.above⟩, ?_⟩
  · rw [q, hI.2.2] at e; cases e
  · intro p hp
    exact ⟨hs p.1 p.2 (hoff p hp) (N p (.tail _ hp)).1, (N p (.tail _ hp)).2⟩
section
variable {prog : Program} {w : World} {A : Around} {h₀ : Heap} {L : Addr}
def ItList (l : Addr) (i : Nat) (o : Obj) : Prop := o.cls = .type "list_iterator" ∧ o.data = .fields #[.ref l, .int i 0]
theorem IterOk.list (hh : A.handled = none) (I l : Addr) (items : Array Value) (e : Nat) :
    IterOk prog w A h₀ L I (ItList l) items.size (fun i v => items[i]? = some v) (fun news => (l, W.listOf items e) ∈ news) where
  item := fun i s m news o Q E hi hI hK hoff F N hQ => by
    have hit : s.heap.IsListIter I l i := ⟨o, (N _ (.head _)).1, hI.1, hI.2⟩
    have hl : s.heap.IsList l items := ⟨_, (N _ (.tail _ hK)).1, rfl, _, rfl⟩
    refine wpAny_pyNext_list_item hit hl (x := items[i]) (by simp [hi]) fun h' hit' hs' => ?_
    obtain ⟨o', ho', hc, hd⟩ := hit'
    obtain ⟨F', N'⟩ := news_same F N hoff ho' hs'
    exact hQ _ o' h' s.toks (by simp [hi]) ⟨hc, hd⟩ F' N'
  done := fun s m news o Q E hI hK hoff F N hQ => by
    have hit : s.heap.IsListIter I l items.size := ⟨o, (N _ (.head _)).1, hI.1, hI.2⟩
    have hl : s.heap.IsList l items := ⟨_, (N _ (.tail _ hK)).1, rfl, _, rfl⟩
    refine wpAny_pyNext_list_end hh hit hl (by simp) fun h' he' => ?_
    obtain ⟨F', N'⟩ := news_ext F N hoff he'
    exact hQ h' s.toks F' N'
  go := fun i o s target v Q E hI ho hQ => letGo_listiter ⟨o, ho, hI.1, hI.2⟩ hQ
def ItRange (a c : Int) (n : Nat) (i : Nat) (o : Obj) : Prop := o = { cls := .type "range_iterator", dict := none, data := .fields #[rawInt (a + (i : Nat) * c), rawInt ((n : Int) - (i : Nat)), rawInt c], slots := #[] }
theorem IterOk.range (hh : A.handled = none) (I : Addr) (a c : Int) (n : Nat) :
    IterOk prog w A h₀ L I (ItRange a c n) n (fun i v => ∃ t, v = .int (a + i * c) t) (fun _ => True) where
  item := fun i s m news o Q E hi hI hK hoff F N hQ => by
    have st : IsRangeIter s.heap I (a + (i : Nat) * c) ((n : Int) - (i : Nat)) c := by
      have z := (N _ (.head _)).1
      rw [show (I, o).2 = _ from hI] at z
      exact z
    refine wpAny_pyNext_range_item st (by omega) fun h' hit' hs' => ?_
    have e1 : a + ((i + 1 : Nat) : Int) * c = a + (i : Int) * c + c := by push_cast; rw [Int.add_mul, Int.one_mul, Int.add_assoc]
    have e2 : (n : Int) - ((i + 1 : Nat) : Int) = (n : Int) - (i : Int) - 1 := by push_cast; omega
    rw [← e1, ← e2] at hit'
    obtain ⟨F', N'⟩ := news_same F N hoff hit' hs'
    exact hQ _ _ h' _ ⟨_, rfl⟩ rfl F' N'
  done := fun s m news o Q E hI hK hoff F N hQ => by
    have st : IsRangeIter s.heap I (a + (n : Nat) * c) ((n : Int) - (n : Nat)) c := by
      have z := (N _ (.head _)).1
      rw [show (I, o).2 = _ from hI] at z
      exact z
    refine wpAny_pyNext_range_end hh st (by omega) fun h' he' => ?_
    obtain ⟨F', N'⟩ := news_ext F N hoff he'
    exact hQ h' s.toks F' N'
  go := fun i o s target v Q E hI ho hQ => by
    unfold letOwnedTupleGo
    have hI' : o = _ := hI
    subst hI'
    cases target <;> first
      | exact wpAny_pure hQ
      | (cases v <;> first
          | exact wpAny_pure hQ
          | (refine wpAny_bind (wpAny_load ho ?_)
             exact wpAny_pure hQ))
end
section
variable {prog : Program} {w : World} {A : Around} {E : Value → Shared → Prop} {s s₀ : Shared} {env : Env} {h₀ : Heap} {Q : Flow → Shared → Prop} {m : Str → Option Value} {news : List (Addr × Obj)}
theorem forJ_range {target : Expr} {body : List Stmt} {r : Addr} {a b c : Int} {t u v : Tok} {n : Nat} (hh : A.handled = none) (hr : IsRange s.heap r a b c t u v) (hsm : Builtin.Range.small a b c = true) (hn : Builtin.Range.rangeSize a b c = (n : Int))
    (J : Nat → (Str → Option Value) → List (Addr × Obj) → Prop) (F : Fr h₀ env.locals s.heap m) (N : News h₀ env.locals s.heap news) (hS : Same s₀ s) (h0 : J 0 m news)
    (step : ∀ I i v m₁ news₁ s₁ o₁, i < n → (∃ t, v = .int (a + i * c) t) → J i m₁ news₁ → Off I news₁ → Same s₀ s₁ → Fr h₀ env.locals s₁.heap m₁ → News h₀ env.locals s₁.heap ((I, o₁) :: news₁) →
      wpAny (model prog w) A (assign target env v) (fun _ s₃ => wpAny (model prog w) A (execs body env) (TurnIt h₀ env.locals I o₁ (J (i + 1)) s₀ Q) E s₃) E s₁)
    (exit : ∀ s' m' news', Same s₀ s' → Fr h₀ env.locals s'.heap m' → News h₀ env.locals s'.heap news' → J n m' news' → Q .next s') :
    wpAny (model prog w) A (pyIter (.ref r)) (fun it s₂ => ForJ prog w A h₀ env target body s₀ Q E it s₂) E s := by
  refine wpAny_pyIter_range hr hsm ?_
  refine ⟨s.heap.objs.size, ItRange a c n, n, _, _, m, news, _, J, rfl, IterOk.range hh _ a c n, ?_, ?_, F.push _, N.push F _, hS.step, h0, fun _ _ _ _ => trivial, ?_, exit⟩
  · show _ = _
    rw [hn]; simp
  · exact fun p hp => Nat.ne_of_lt (Heap.lt_size (N p hp).1)
  · intro i v m₁ news₁ s₁ o₁ hi hP _ hJ hoff hS' F' N'
    exact step _ i v m₁ news₁ s₁ o₁ hi hP hJ hoff hS' F' N'
theorem forJ_list {target : Expr} {body : List Stmt} {l : Addr} {items : Array Value} {e : Nat} (hh : A.handled = none)
    (J : Nat → (Str → Option Value) → List (Addr × Obj) → Prop) (F : Fr h₀ env.locals s.heap m) (N : News h₀ env.locals s.heap news) (hl : (l, W.listOf items e) ∈ news) (hJl : ∀ i m news, J i m news → (l, W.listOf items e) ∈ news) (hS : Same s₀ s) (h0 : J 0 m news)
    (step : ∀ I i v m₁ news₁ s₁ o₁, i < items.size → items[i]? = some v → J i m₁ news₁ → Off I news₁ → Same s₀ s₁ → Fr h₀ env.locals s₁.heap m₁ → News h₀ env.locals s₁.heap ((I, o₁) :: news₁) →
      wpAny (model prog w) A (assign target env v) (fun _ s₃ => wpAny (model prog w) A (execs body env) (TurnIt h₀ env.locals I o₁ (J (i + 1)) s₀ Q) E s₃) E s₁)
    (exit : ∀ s' m' news', Same s₀ s' → Fr h₀ env.locals s'.heap m' → News h₀ env.locals s'.heap news' → J items.size m' news' → Q .next s') :
    wpAny (model prog w) A (pyIter (.ref l)) (fun it s₂ => ForJ prog w A h₀ env target body s₀ Q E it s₂) E s := by
  have hls : s.heap.IsList l items := ⟨_, (N _ hl).1, rfl, _, rfl⟩
  refine wpAny_pyIter_list hls ?_
  refine ⟨s.heap.objs.size, ItList l, items.size, _, _, m, news, _, J, rfl, IterOk.list hh _ l items e, ⟨rfl, rfl⟩, ?_, F.push _, N.push F _, hS.step, h0, hJl, ?_, exit⟩
  · exact fun p hp => Nat.ne_of_lt (Heap.lt_size (N p hp).1)
  · intro i v m₁ news₁ s₁ o₁ hi hP _ hJ hoff hS' F' N'
    exact step _ i v m₁ news₁ s₁ o₁ hi hP hJ hoff hS' F' N'
end
theorem Off.swap {I a : Addr} {o o' : Obj} {news : List (Addr × Obj)} (h : Off I ((a, o) :: news)) : Off I ((a, o') :: news) := fun p hp => by
  rcases List.mem_cons.mp hp with rfl | hp
  · exact h (a, o) (.head _)
  · exact h p (.tail _ hp)
theorem small_down {a : Int} (h : 0 ≤ a ∧ a ≤ 1000) : Builtin.Range.small a 0 (-1) = true := by
  obtain ⟨h0, h1⟩ := h
  have hf : ∀ x : Int, -2 ≤ x → x ≤ 1000 → Builtin.Range.rangeFitsLong x = true := fun x h2 h3 => by
    unfold Builtin.Range.rangeFitsLong
    simp
    omega
  have hs : Builtin.Range.rangeSize a 0 (-1) = a := by
    unfold Builtin.Range.rangeSize
    rw [if_neg (by decide)]
    split
    · simp
    · omega
  unfold Builtin.Range.small
  rw [hs, hf a (by omega) (by omega), hf 0 (by omega) (by omega), hf (-1) (by omega) (by omega), if_neg (by decide), hf (0 + (-1 + 1)) (by omega) (by omega)]
  simp
theorem size_down {a : Int} {n : Nat} (h : a = (n : Int)) : Builtin.Range.rangeSize a 0 (-1) = (n : Int) := by
  subst h
  unfold Builtin.Range.rangeSize
  rw [if_neg (by decide)]
  split
  · simp
  · omega
end
section
open PySem PySem.W PyProof.Rows PySem.Calls PySem.Spec
open PySem.Builtin.Str (occurrences)
theorem S_len (l : List Nat) : (S l).length = l.length := by simp [Str.length]
theorem S_append (a b : List Nat) : S a ++ S b = S (a ++ b) := by
  show (⟨a.toArray ++ b.toArray⟩ : Str) = _
  simp
theorem occ_hit {x : Str} {c k hi : Nat} (hk : k < hi) (hc : x.cps.toList[k]? = some c) : occurrences x ⟨#[c]⟩ k hi 1 = [k] := by
  have hl := StrLaws.occ_length_le x ⟨#[c]⟩ k hi 1
  have h0 : (occurrences x ⟨#[c]⟩ k hi 1)[0]? = some k := by
    rw [StrLaws.occ_eq, show hi + 1 - k = (hi - k) + 1 by omega, List.range'_succ, List.forIn_cons]
    unfold StrLaws.occBody
    have h1 := (StrLaws.subAt_one x c k).mpr hc
    rw [if_pos ⟨⟨⟨by simp, by simp⟩, by show k + 1 ≤ hi; omega⟩, h1.2⟩]
    rw [Array.getElem?_toList]
    exact StrLaws.occ_head_keeps x ⟨#[c]⟩ hi 1 k _ _ (by simp)
  match h : occurrences x ⟨#[c]⟩ k hi 1 with
  | [] => rw [h] at h0; cases h0
  | [a] => rw [h] at h0; simpa using h0
  | a :: b :: r => rw [h] at hl; simp at hl
theorem occ_miss {x y : Str} {lo hi : Nat} (h : hi < lo) : occurrences x y lo hi 1 = [] := by
  rw [StrLaws.occ_eq, show hi + 1 - lo = 0 by omega]
  rfl
theorem gives_find4 (x y : Str) (i j : Int) (t u v v' : Tok) (k : Int) (hk : (match occurrences x y (max 0 (if i < 0 then i + x.length else i)).toNat (min (max 0 (if j < 0 then j + x.length else j)).toNat x.length) 1 with | k :: _ => (k : Int) | [] => -1) = k) :
    Gives (Builtin.«str.find» ⟨[.str x t, .str y u, .int i v, .int j v'], []⟩) (.int k) := by
  show Gives (match occurrences x y (max 0 (if i < 0 then i + x.length else i)).toNat (min (max 0 (if j < 0 then j + x.length else j)).toNat x.length) 1 with | k :: _ => retInt k | [] => (do rule "str.find.not-found"; retInt (-1))) _
  revert hk
  cases occurrences x y (max 0 (if i < 0 then i + x.length else i)).toNat (min (max 0 (if j < 0 then j + x.length else j)).toNat x.length) 1 with
  | nil => intro hk; subst hk; exact .rule (.of_eq rfl)
  | cons a _ => intro hk; subst hk; exact .of_eq rfl
theorem args_find4 (a b c d : Value) : argsOk "str.find" ⟨[a, b, c, d], []⟩ := by unfold argsOk; kernel_rfl
section
variable {prog : Program} {w : World} {A : Around} {E : Value → Shared → Prop} {s : Shared} {h₀ : Heap} {L : Addr} {m : Str → Option Value} {news news' : List (Addr × Obj)}
theorem find_hit {P : List Nat} {c : Nat} {y : Str} {i j : Int} {t u v v' : Tok} {Q : Value → Shared → Prop} (hy : y = ⟨#[c]⟩) (h : 0 ≤ i ∧ i < j ∧ j ≤ P.length ∧ P[i.toNat]? = some c) (hq : Q (.int i s.toks) { s with toks := s.toks + 1 }) :
    wpAny (model prog w) A (call (.builtin "str.find") [.str (S P) t, .str y u, .int i v, .int j v']) Q E s := by
  subst hy
  obtain ⟨h0, h1, h2, h3⟩ := h
  refine call_gives F.slot_str_find (typeIs_str _ _ _) F.entry_str_find (args_find4 _ _ _ _) (gives_find4 (S P) ⟨#[c]⟩ i j t u v v' i ?_) hq
  have e1 : ¬ i < 0 := by omega
  have e2 : ¬ j < 0 := by omega
  rw [S_len, if_neg e1, if_neg e2, occ_hit (by omega) (by simpa [show (max 0 i).toNat = i.toNat by omega] using h3)]
  show (((max 0 i).toNat : Nat) : Int) = i
  omega
theorem find_miss {P : List Nat} {y : Str} {i j : Int} {t u v v' : Tok} {Q : Value → Shared → Prop} (h : 0 ≤ j ∧ j < i) (hq : Q (.int (-1) s.toks) { s with toks := s.toks + 1 }) :
    wpAny (model prog w) A (call (.builtin "str.find") [.str (S P) t, .str y u, .int i v, .int j v']) Q E s := by
  obtain ⟨h0, h1⟩ := h
  refine call_gives F.slot_str_find (typeIs_str _ _ _) F.entry_str_find (args_find4 _ _ _ _) (gives_find4 (S P) y i j t u v v' (-1) ?_) hq
  have e1 : ¬ i < 0 := by omega
  have e2 : ¬ j < 0 := by omega
  rw [S_len, if_neg e1, if_neg e2, occ_miss (by omega)]
theorem slice_mid {P u Y v : List Nat} (hP : P = u ++ (Y ++ v)) {a b : Int} (ha : a = u.length) (hb : b = u.length + Y.length) : Txt.slice (S P) (some a) (some b) = S Y := by
  have h : StrLaws.sliceText (S P) (some a) (some b) = _ := StrLaws.sliceText_plain ⟨by omega, by omega, by rw [hP]; simp; omega⟩
  refine Eq.trans (show _ = StrLaws.sliceText (S P) (some a) (some b) from rfl) (h.trans ?_)
  rw [show a.toNat = u.length by omega, show (b - a).toNat = Y.length by omega, hP]
  simp
theorem slice_tl {c : Nat} {Y : List Nat} : Txt.slice (S (c :: Y)) (some 1) none = S Y := by
  have h : StrLaws.sliceText (S (c :: Y)) (some 1) none = _ := StrLaws.sliceText_from ⟨by omega, by simp; omega⟩
  refine Eq.trans (show _ = StrLaws.sliceText (S (c :: Y)) (some 1) none from rfl) (h.trans ?_)
  rw [show (1 : Int).toNat = 1 from rfl]
  simp
theorem slice_in {c : Nat} {Y : List Nat} : Txt.slice (S (Y ++ [c])) none (some (-1)) = S Y := by
  have h : StrLaws.sliceText (S (Y ++ [c])) none (some (-1)) = _ := StrLaws.sliceText_to_neg (by omega) (by rw [S_len]; simp; omega)
  refine Eq.trans (show _ = StrLaws.sliceText (S (Y ++ [c])) none (some (-1)) from rfl) (h.trans ?_)
  rw [S_len]
  rw [show (-1 + ((Y ++ [c]).length : Int) - 0).toNat = Y.length by simp; omega]
  simp
theorem slice_ss_to {x y : Str} {value slice : PySem.Expr} {i j : Int} {t ui uj : Tok} {Q : Value → Shared → Prop} (hF : Fr h₀ L s.heap m) (hN : News h₀ L s.heap news) (e : Txt.slice x (some i) (some j) = y)
    (h : ∀ h' t' k, Fr h₀ L h' m → News h₀ L h' news → Q (.str y t') { s with heap := h', toks := k })
    (hs : subscripted slice false (.str x t) (.ref s.heap.objs.size) = operate [.ref s.heap.objs.size, .str x t] (getItem (.str x t) (.ref s.heap.objs.size)) := by with_unfolding_all rfl)
    (ht : ∀ r, letTemporaryGo value (.str x t) r = pure () := by intro _; with_unfolding_all rfl) (hsz : x.length ≤ sizeLine := by size_fits) :
    wpAny (model prog w) A (subscriptTail value slice (.str x t) (.ref s.heap.objs.size)) Q E { s with heap := s.heap.push { cls := .type "slice", data := .fields #[.int i ui, .int j uj, .none] } } :=
  slice_strN_ss hF hN (e ▸ h) hs ht hsz
theorem slice_sn_to {x y : Str} {value slice : PySem.Expr} {i : Int} {t ui : Tok} {Q : Value → Shared → Prop} (hF : Fr h₀ L s.heap m) (hN : News h₀ L s.heap news) (e : Txt.slice x (some i) none = y)
    (h : ∀ h' t' k, Fr h₀ L h' m → News h₀ L h' news → Q (.str y t') { s with heap := h', toks := k })
    (hs : subscripted slice false (.str x t) (.ref s.heap.objs.size) = operate [.ref s.heap.objs.size, .str x t] (getItem (.str x t) (.ref s.heap.objs.size)) := by with_unfolding_all rfl)
    (ht : ∀ r, letTemporaryGo value (.str x t) r = pure () := by intro _; with_unfolding_all rfl) (hsz : x.length ≤ sizeLine := by size_fits) :
    wpAny (model prog w) A (subscriptTail value slice (.str x t) (.ref s.heap.objs.size)) Q E { s with heap := s.heap.push { cls := .type "slice", data := .fields #[.int i ui, .none, .none] } } :=
  slice_strN_sn hF hN (e ▸ h) hs ht hsz
theorem slice_ns_to {x y : Str} {value slice : PySem.Expr} {j : Int} {t uj : Tok} {Q : Value → Shared → Prop} (hF : Fr h₀ L s.heap m) (hN : News h₀ L s.heap news) (e : Txt.slice x none (some j) = y)
    (h : ∀ h' t' k, Fr h₀ L h' m → News h₀ L h' news → Q (.str y t') { s with heap := h', toks := k })
    (hs : subscripted slice false (.str x t) (.ref s.heap.objs.size) = operate [.ref s.heap.objs.size, .str x t] (getItem (.str x t) (.ref s.heap.objs.size)) := by with_unfolding_all rfl)
    (ht : ∀ r, letTemporaryGo value (.str x t) r = pure () := by intro _; with_unfolding_all rfl) (hsz : x.length ≤ sizeLine := by size_fits) :
    wpAny (model prog w) A (subscriptTail value slice (.str x t) (.ref s.heap.objs.size)) Q E { s with heap := s.heap.push { cls := .type "slice", data := .fields #[.none, .int j uj, .none] } } :=
  slice_strN_ns hF hN (e ▸ h) hs ht hsz
def outsVal (l : List (Str × Tok)) : Array Value := (strValues l).toArray
theorem outsVal_push (l : List (Str × Tok)) (x : Str) (t : Tok) : (outsVal l).push (.str x t) = outsVal (l ++ [(x, t)]) := by
  unfold outsVal strValues; simp
theorem outsVal_size (l : List (Str × Tok)) : ((outsVal l).size : Int) = (l.length : Int) := by unfold outsVal strValues; simp
theorem outsVal_get {l1 r : List (Str × Tok)} {x : Str} {t : Tok} {k : Nat} (hk : k = l1.length) : (outsVal (l1 ++ (x, t) :: r))[k]? = some (.str x t) := by
  subst hk; unfold outsVal strValues; simp
theorem item_L {D : Addr} {l1 r : List (Str × Tok)} {x : Str} {tx u : Tok} {k : Int} {e : Nat} {value slice : PySem.Expr} {Q : Value → Shared → Prop} (N : News h₀ L s.heap news) (hm : (D, W.listOf (outsVal (l1 ++ (x, tx) :: r)) e) ∈ news) (hk : k = (l1.length : Nat) ∧ l1.length ≤ 1000)
    (h : Q (.str x tx) s) (hs : subscripted slice false (.ref D) (.int k u) = operate [.ref D, .int k u] (getItem (.ref D) (.int k u)) := by with_unfolding_all rfl) :
    wpAny (model prog w) A (subscriptTail value slice (.ref D) (.int k u)) Q E s := by
  obtain ⟨rfl, hle⟩ := hk
  have hl : s.heap.IsList D (outsVal (l1 ++ (x, tx) :: r)) := ⟨_, (N _ hm).1, rfl, _, rfl⟩
  exact tail_any hl.typeIs F.slot_list_getitem.lookup (wpAny_getItem_list hl (by omega) (by omega) (outsVal_get (by omega)) h) hs
theorem item_L1 {D : Addr} {l1 r : List (Str × Tok)} {y : Str × Tok} {x : Str} {tx u : Tok} {k : Int} {e : Nat} {value slice : PySem.Expr} {Q : Value → Shared → Prop} (N : News h₀ L s.heap news) (hm : (D, W.listOf (outsVal (l1 ++ y :: (x, tx) :: r)) e) ∈ news) (hk : k = ((l1.length + 1 : Nat) : Int) ∧ l1.length ≤ 1000)
    (h : Q (.str x tx) s) (hs : subscripted slice false (.ref D) (.int k u) = operate [.ref D, .int k u] (getItem (.ref D) (.int k u)) := by with_unfolding_all rfl) :
    wpAny (model prog w) A (subscriptTail value slice (.ref D) (.int k u)) Q E s := by
  obtain ⟨rfl, hle⟩ := hk
  have hl : s.heap.IsList D (outsVal (l1 ++ y :: (x, tx) :: r)) := ⟨_, (N _ hm).1, rfl, _, rfl⟩
  refine tail_any hl.typeIs F.slot_list_getitem.lookup (wpAny_getItem_list hl (by omega) (by omega) ?_ h) hs
  rw [show l1 ++ y :: (x, tx) :: r = (l1 ++ [y]) ++ (x, tx) :: r by simp]
  exact outsVal_get (by simp)
theorem setL_at (v z : Value) : ∀ (l1 r : List Value), ki_setL (l1 ++ v :: r) l1.length z = some (l1 ++ z :: r)
  | [], r => rfl
  | a :: l1, r => by
    show (match ki_setL (l1 ++ v :: r) l1.length z with | some q => some (a :: q) | none => none) = _
    rw [setL_at v z l1 r]; rfl
theorem delL_at (v : Value) : ∀ (l1 r : List Value), ki_delL (l1 ++ v :: r) l1.length = some (l1 ++ r)
  | [], r => rfl
  | a :: l1, r => by
    show (match ki_delL (l1 ++ v :: r) l1.length with | some q => some (a :: q) | none => none) = _
    rw [delL_at v l1 r]; rfl
theorem strValues_append (a b : List (Str × Tok)) : strValues (a ++ b) = strValues a ++ strValues b := by unfold strValues; simp
theorem set_L {D : Addr} {l1 r : List (Str × Tok)} {x y : Str} {tx ty u : Tok} {k : Int} {e : Nat} {Q : Unit → Shared → Prop} (F : Fr h₀ L s.heap m) (N : News h₀ L s.heap news) (hk : k = (l1.length : Nat) ∧ l1.length ≤ 1000)
    (U : Upd D (W.listOf (outsVal (l1 ++ (x, tx) :: r)) e) (W.listOf (outsVal (l1 ++ (y, ty) :: r)) e) news news')
    (h : ∀ h', Fr h₀ L h' m → News h₀ L h' news' → Q () { s with heap := h' }) : wpAny (model prog w) A (setItem (.ref D) (.int k u) (.str y ty)) Q E s := by
  obtain ⟨rfl, hle⟩ := hk
  refine ki_set F N (by omega) (by omega) (q := strValues (l1 ++ (y, ty) :: r)) ?_ U h
  unfold outsVal
  rw [List.toList_toArray, strValues_append, strValues_append]
  have := setL_at (.str x tx) (.str y ty) (strValues l1) (strValues r)
  rw [show (strValues l1).length = l1.length by unfold strValues; simp] at this
  exact this
theorem del_L {D : Addr} {l1 r : List (Str × Tok)} {x y : Str × Tok} {u : Tok} {k : Int} {e : Nat} {Q : Unit → Shared → Prop} (F : Fr h₀ L s.heap m) (N : News h₀ L s.heap news) (hk : k = ((l1.length + 1 : Nat) : Int) ∧ l1.length + r.length ≤ 1000)
    (U : Upd D (W.listOf (outsVal (l1 ++ y :: x :: r)) e) (W.listOf (outsVal (l1 ++ y :: r)) (e + 1)) news news')
    (h : ∀ h', Fr h₀ L h' m → News h₀ L h' news' → Q () { s with heap := h' }) : wpAny (model prog w) A (delItem (.ref D) (.int k u)) Q E s := by
  obtain ⟨rfl, hle⟩ := hk
  have hsz : (outsVal (l1 ++ y :: x :: r)).size = l1.length + 2 + r.length := by unfold outsVal strValues; simp; omega
  refine ki_del F N (fitsIndex_of (by omega) (by omega)) (k := l1.length + 1) ?_ (q := strValues (l1 ++ y :: r)) ?_ U ?_ h
  · rw [hsz]; unfold seqIndex?
    have h2 : ¬ (((l1.length + 1 : Nat) : Int)) < 0 := by omega
    simp only [h2, if_false]
    rw [if_pos (by simp; omega)]; rfl
  · unfold outsVal
    rw [List.toList_toArray, show l1 ++ y :: x :: r = (l1 ++ [y]) ++ x :: r by simp, show l1 ++ y :: r = (l1 ++ [y]) ++ r by simp, strValues_append, strValues_append (l1 ++ [y]) r]
    have := delL_at (.str x.1 x.2) (strValues (l1 ++ [y])) (strValues r)
    rw [show (strValues (l1 ++ [y])).length = l1.length + 1 by unfold strValues; simp] at this
    exact this
  · rw [Array.length_toList, hsz]; exact Nat.le_trans (show _ ≤ 1002 by omega) (by decide)
theorem item_last {Y : List Nat} {c : Nat} {value slice : PySem.Expr} {t u : Tok} {Q : Value → Shared → Prop} (hP : Y.length ≤ 1000)
    (h : ∀ t' tk', Q (.str ⟨#[c]⟩ t') { s with toks := tk' })
    (hs : subscripted slice false (.str (S (Y ++ [c])) t) (.int (-1) u) = operate [.str (S (Y ++ [c])) t, .int (-1) u] (getItem (.str (S (Y ++ [c])) t) (.int (-1) u)) := by with_unfolding_all rfl) :
    wpAny (model prog w) A (subscriptTail value slice (.str (S (Y ++ [c])) t) (.int (-1) u)) Q E s := by
  have h1 : Txt.charAt (S (Y ++ [c])) (-1) = some c := by
    unfold Txt.charAt seqIndex?
    have h4 : (decide ((0 : Int) ≤ -1 + ((S (Y ++ [c])).length : Int)) && decide (-1 + ((S (Y ++ [c])).length : Int) < ((S (Y ++ [c])).length : Int))) = true := by
      rw [S_len]; simp; omega
    simp only [show (-1 : Int) < 0 by decide, if_true]
    rw [if_pos h4]
    have : (-1 + ((S (Y ++ [c])).length : Int)).toNat = Y.length := by rw [S_len]; simp; omega
    show (S (Y ++ [c])).cps[_]? = _
    rw [this]
    simp
  have h3 : Txt.item (S (Y ++ [c])) (-1) = ⟨#[c]⟩ := by unfold Txt.item; rw [h1]; rfl
  refine tail_any (typeIs_str _ _ _) F.slot_str_getitem.lookup (SB.getItem ?_ (by rw [h1]; rfl) (by rw [h3]; exact h _ _)) hs
  unfold fitsSsize
  decide
theorem append_S {D : Addr} {l : List (Str × Tok)} {x : Str} {t : Tok} {e : Nat} {Q : Value → Shared → Prop} (F : Fr h₀ L s.heap m) (N : News h₀ L s.heap news) (U : Upd D (W.listOf (outsVal l) e) (W.listOf (outsVal (l ++ [(x, t)])) (e + 1)) news news') (hsz : l.length ≤ 1000)
    (h : ∀ h', Fr h₀ L h' m → News h₀ L h' news' → Q .none { s with heap := h' }) : wpAny (model prog w) A (call (.builtin "list.append") [.ref D, .str x t]) Q E s :=
  append_K F N (by rw [outsVal_push]; exact U) h (by unfold outsVal strValues; simp; exact Nat.le_trans hsz (by decide))
end
end
section
open PySem PySem.W PyProof.Rows PySem.Calls PySem.Spec
def stmts : Option Stmt → List Stmt
  | some (.FunctionDef _ _ b ..) => b
  | some (.While _ b ..) => b
  | some (.For _ _ b ..) => b
  | some (.If _ b ..) => b
  | _ => []
def elses : Option Stmt → List Stmt
  | some (.If _ _ b _) => b
  | _ => []
def scopeOf : Option Stmt → Scope
  | some (.FunctionDef _ _ _ _ _ _ s ..) => s
  | _ => default
def trF : Option Stmt := PR.main.body[6]?
def trSc : Scope := scopeOf trF
def trTurn : List Stmt := stmts (stmts trF)[3]?
def trBr : List Stmt := stmts (elses (elses trTurn[2]?)[0]?)[0]?
def trElse : List Stmt := elses trBr[4]?
def trBlk : List Stmt := elses trElse[1]?
def trTail : List Stmt := trElse.drop 2
def trFor : Stmt := (trBlk[5]?).getD default
theorem exec_of {a b : Stmt} (e : a = b) {M : Model} {A : Around} {env : Env} {Q : Flow → Shared → Prop} {E : Value → Shared → Prop} {s : Shared} (h : wpAny M A (exec b env) Q E s) : wpAny M A (exec a env) Q E s := e ▸ h
theorem execs_of {a b : List Stmt} (e : a = b) {M : Model} {A : Around} {env : Env} {Q : Flow → Shared → Prop} {E : Value → Shared → Prop} {s : Shared} (h : wpAny M A (execs b env) Q E s) : wpAny M A (execs a env) Q E s := e ▸ h
end
section
open PySem PySem.W PyProof.Rows PySem.Calls PySem.Spec
variable {w : World} {p : Program} {loose : List Str} {mean : ExcName → Option Value} {mg mb : Str → Option Value}
def Stop (P : Prop) : Prop := P
theorem Stop.out {P : Prop} (h : Stop P) : P := h
theorem ite_isF {b : Bool} {p q : Prop} (h : b = false) (hq : q) : if b = true then p else q := by rw [h]; exact hq
theorem truthy_S {prog : Program} {w : World} {A : Around} {E : Value → Shared → Prop} {s : Shared} {l : List Nat} {t : Tok} {Q : Bool → Shared → Prop} (hz : l ≠ [] ∧ l.length ≤ 2000) (h : Q true { s with toks := s.toks + 1 + 1 }) : wpAny (model prog w) A (truthy (.str (S l) t)) Q E s := by
  refine P.truthy_str (by rw [S_len]; omega) ?_
  have e : (((S l).length : Int) != 0) = true := by
    rw [S_len]
    have := List.length_pos_iff.mpr hz.1
    rw [bne_iff_ne]; omega
  rw [e]; exact h
theorem truthy_S0 {prog : Program} {w : World} {A : Around} {E : Value → Shared → Prop} {s : Shared} {l : List Nat} {t : Tok} {Q : Bool → Shared → Prop} (hz : l = []) (h : Q false { s with toks := s.toks + 1 + 1 }) : wpAny (model prog w) A (truthy (.str (S l) t)) Q E s := by
  subst hz
  exact P.truthy_str (by decide) h
theorem allLt_mem {d : Addr} : ∀ {l : List (Addr × Obj)}, AllLt d l → ∀ p ∈ l, p.1 < d
  | [], _, p, hp => nomatch hp
  | q :: r, h, p, hp => by
    rcases List.mem_cons.mp hp with rfl | hp
    · exact h.1
    · exact allLt_mem h.2 p hp
abbrev tab1 (cg : Addr) : Array Value := #[rawInt 57, rawInt 37, .ref cg]
abbrev tab2 (cg cl : Addr) : Array Value := #[rawInt 57, rawInt 37, .ref cg, rawInt 58, rawInt 39, .ref cl]
def Agree (xs : List Str) (m m' : Str → Option Value) : Prop := ∀ x, x ∉ xs → m' x = m x
def IntIs (o : Option Value) (v : Int) : Prop := ∃ t, o = some (.int v t)
theorem int_is {o : Option Value} {v v' : Int} {t : Tok} (h : o = some (.int v' t)) (e : v' = v) : IntIs o v := ⟨t, e ▸ h⟩
def JF (P : List Nat) (t : Tok) (i0 : Int) (lc : Addr) (ps : Pairs) (m₀ : Str → Option Value) (news₀ : List (Addr × Obj)) (n : Nat) (m : Str → Option Value) (news : List (Addr × Obj)) : Prop :=
  ∃ (a b : Pairs) (l : List (Str × Tok)) (e : Nat), ps = a ++ b ∧ n = b.length ∧ m "pat" = some (.str (S P) t) ∧ m "chunks" = some (.ref lc) ∧
    IntIs (m "i") (i0 + 3 * a.length - (lastp [] a).length) ∧ IntIs (m "k") (i0 + 1 + 3 * a.length) ∧ IntIs (m "j") (i0 + 3 * ps.length) ∧
    l.map (·.1) = (heads [] a).map S ∧ news = (lc, W.listOf (outsVal l) e) :: news₀ ∧ (∀ x ∈ news₀, x.1 ≠ lc) ∧ Agree ["chunks", "k", "chunk", "i", "stuff"] m₀ m
def JM (lc : Addr) (ps : Pairs) (m₀ : Str → Option Value) (news₀ : List (Addr × Obj)) (i : Nat) (m : Str → Option Value) (news : List (Addr × Obj)) : Prop :=
  ∃ (a b : Pairs) (l : List (Str × Tok)) (e : Nat), ps = a ++ b ∧ b.length = i ∧ m "chunks" = some (.ref lc) ∧
    l.map (·.1) = (heads [] a ++ merged (lastp [] a) b).map S ∧ news = (lc, W.listOf (outsVal l) e) :: news₀ ∧ (∀ x ∈ news₀, x.1 ≠ lc) ∧ Agree ["chunks", "k", "chunk", "i", "stuff"] m₀ m
end
section
open PySem PySem.W PyProof.Rows
def kept (ps : Pairs) : Pairs := ps.filter fun q => ! decide (q.2 < q.1)
def setStep (t : List Nat) (q : Nat × Nat) : List Nat := if q.2 < q.1 then t else t ++ (plainL q.1 (decide (t = [])) ++ (45 :: plainL q.2 false))
def setText (ps : Pairs) : List Nat := ps.foldl setStep []
def lawSet (ps : Pairs) : List Nat := if setText ps = [] then [40, 63, 33, 41] else 91 :: (setText ps ++ [93])
theorem chunks_head (q : Nat) (pre : List Nat) (K : Pairs) : ∃ h tl, chunks [q] K = (q :: h) :: tl ∧ chunks pre K = (pre ++ h) :: tl := by
  cases K with
  | nil => exact ⟨[], [], rfl, by simp [chunks]⟩
  | cons a r => exact ⟨[a.1], chunks [a.2] r, rfl, rfl⟩
theorem merged_chunks (ps : Pairs) : ∀ pre, merged pre ps = chunks pre (kept ps) := by
  induction ps with
  | nil => intro pre; rfl
  | cons q r ih =>
    intro pre
    unfold merged
    rw [ih]
    obtain ⟨h, tl, e1, e2⟩ := chunks_head q.2 pre (kept r)
    rw [e1]
    dsimp only
    by_cases hlt : q.2 < q.1
    · rw [if_pos hlt]
      have : kept (q :: r) = kept r := by unfold kept; rw [List.filter_cons]; simp [hlt]
      rw [this, e2]; rfl
    · rw [if_neg hlt]
      have : kept (q :: r) = q :: kept r := by unfold kept; rw [List.filter_cons]; simp [hlt]
      rw [this]
      show _ = (pre ++ [q.1]) :: chunks [q.2] (kept r)
      rw [e1]
def rng (q : Nat × Nat) : List Nat := esc1 q.1 ++ 45 :: esc1 q.2
theorem esc_append (a b : List Nat) : esc (a ++ b) = esc a ++ esc b := List.flatMap_append
theorem esc_one (c : Nat) : esc [c] = esc1 c := by unfold esc; simp
theorem glue_cons (x : List Nat) (y : List Nat) (r : List (List Nat)) : glue (x :: y :: r) = x ++ 45 :: glue (y :: r) := by
  unfold glue
  rw [List.intercalate, List.intercalate]
  simp [List.intersperse]
theorem glue_chunks (K : Pairs) : ∀ pre, glue ((chunks pre K).map esc) = esc pre ++ K.flatMap rng := by
  induction K with
  | nil => intro pre; simp [chunks, glue, List.intercalate, List.intersperse]
  | cons q r ih =>
    intro pre
    obtain ⟨h, tl, e1, e2⟩ := chunks_head q.2 pre r
    show glue ((( pre ++ [q.1]) :: chunks [q.2] r).map esc) = _
    have := ih [q.2]
    rw [e1] at this ⊢
    rw [List.map_cons, List.map_cons, glue_cons, ← List.map_cons (f := esc) (a := q.2 :: h), this, esc_append, esc_one, esc_one, List.flatMap_cons]
    unfold rng
    simp
theorem escA_append (a b : List Nat) : escA (a ++ b) = escA a ++ escA b := List.flatMap_append
theorem escA_esc1 (c : Nat) : escA (esc1 c) = plainL c false := by
  unfold esc1 plainL escA
  by_cases h1 : c = 92
  · subst h1; rfl
  · by_cases h2 : c = 45
    · subst h2; rfl
    · rw [if_neg h1, if_neg h2]
      by_cases h3 : c = 38
      · subst h3; rfl
      · by_cases h4 : c = 124
        · subst h4; rfl
        · by_cases h5 : c = 126
          · subst h5; rfl
          · simp [h1, h2, h3, h4, h5]
theorem escA_rng (q : Nat × Nat) : escA (rng q) = plainL q.1 false ++ 45 :: plainL q.2 false := by
  unfold rng
  rw [escA_append, escA_esc1]
  show _ ++ (escA ([45] ++ esc1 q.2)) = _
  rw [escA_append, escA_esc1]; rfl
def prng (q : Nat × Nat) : List Nat := plainL q.1 false ++ 45 :: plainL q.2 false
theorem escA_flat (K : Pairs) : escA (K.flatMap rng) = K.flatMap prng := by
  induction K with
  | nil => rfl
  | cons q r ih => rw [List.flatMap_cons, escA_append, escA_rng, ih]; rfl
theorem stuff_eq (ps : Pairs) : stuff ps = (kept ps).flatMap prng := by
  unfold stuff
  rw [merged_chunks, glue_chunks]
  show escA ([] ++ _) = _
  rw [List.nil_append, escA_flat]
theorem plainL_ne (c : Nat) (b : Bool) : plainL c b ≠ [] := by unfold plainL; split <;> simp
theorem frontEsc_cons (c : Nat) (r : List Nat) : frontEsc (c :: r) = if c = 94 ∨ c = 91 then 92 :: c :: r else c :: r := rfl
theorem frontEsc_plain (c : Nat) (r : List Nat) : frontEsc (plainL c false ++ r) = plainL c true ++ r := by
  unfold plainL
  by_cases h1 : c = 92 ∨ c = 45 ∨ c = 38 ∨ c = 126 ∨ c = 124
  · rw [if_pos (by simp; omega), if_pos (by simp; omega)]; rfl
  · by_cases h2 : c = 94 ∨ c = 91
    · rw [if_neg (by simp; omega), if_pos (by simp; omega)]
      show frontEsc (c :: r) = _
      rw [frontEsc_cons, if_pos h2]; rfl
    · rw [if_neg (by simp; omega), if_neg (by simp; omega)]
      show frontEsc (c :: r) = _
      rw [frontEsc_cons, if_neg h2]; rfl
theorem fold_ne (ps : Pairs) : ∀ t, t ≠ [] → ps.foldl setStep t = t ++ (kept ps).flatMap prng := by
  induction ps with
  | nil => intro t _; simp [kept]
  | cons q r ih =>
    intro t ht
    rw [List.foldl_cons]
    unfold setStep
    by_cases hlt : q.2 < q.1
    · have : kept (q :: r) = kept r := by unfold kept; rw [List.filter_cons]; simp [hlt]
      rw [if_pos hlt, this]
      exact ih t ht
    · have : kept (q :: r) = q :: kept r := by unfold kept; rw [List.filter_cons]; simp [hlt]
      rw [if_neg hlt, this, List.flatMap_cons]
      have e := ih (t ++ (plainL q.1 (decide (t = [])) ++ (45 :: plainL q.2 false))) (by simp [ht])
      unfold setStep at e
      rw [e, decide_eq_false ht]
      unfold prng
      simp
theorem setText_eq (ps : Pairs) : setText ps = frontEsc (stuff ps) := by
  rw [stuff_eq]
  unfold setText
  induction ps with
  | nil => rfl
  | cons q r ih =>
    rw [List.foldl_cons]
    by_cases hlt : q.2 < q.1
    · have : kept (q :: r) = kept r := by unfold kept; rw [List.filter_cons]; simp [hlt]
      rw [this, ← ih]
      unfold setStep
      rw [if_pos hlt]
    · have : kept (q :: r) = q :: kept r := by unfold kept; rw [List.filter_cons]; simp [hlt]
      rw [this, List.flatMap_cons]
      have hs : setStep [] q = plainL q.1 true ++ (45 :: plainL q.2 false) := by
        unfold setStep; rw [if_neg hlt]; rfl
      rw [hs, fold_ne _ _ (by simp [plainL_ne])]
      have e : ∀ X : List Nat, prng q ++ X = plainL q.1 false ++ (45 :: plainL q.2 false ++ X) := fun X => by unfold prng; rw [List.append_assoc]
      rw [e, frontEsc_plain, List.append_assoc]
theorem frontEsc_nil (l : List Nat) : frontEsc l = [] ↔ l = [] := by
  cases l with
  | nil => simp [frontEsc]
  | cons c r =>
    have e : frontEsc (c :: r) = if c = 94 ∨ c = 91 then 92 :: c :: r else c :: r := rfl
    rw [e]; split <;> simp
theorem lawSet_eq (ps : Pairs) : lawSet ps = out ps := by
  unfold lawSet out
  rw [setText_eq]
  by_cases h : stuff ps = []
  · rw [if_pos h, if_pos ((frontEsc_nil _).mpr h)]
  · rw [if_neg h, if_neg (fun e => h ((frontEsc_nil _).mp e))]
theorem out_one (a b : Nat) : out [(a, b)] = [40, 63, 33, 41] ↔ b < a := by
  rw [← lawSet_eq]
  unfold lawSet setText
  rw [List.foldl_cons, List.foldl_nil]
  unfold setStep
  by_cases h : b < a
  · simp [h]
  · simp [h, plainL_ne]
def orderL : List Nat → List Nat → Int
  | [], [] => 0
  | [], _ :: _ => -1
  | _ :: _, [] => 1
  | a :: as, b :: bs => if b < a then 1 else if a < b then -1 else orderL as bs
theorem coll_cons (a b : Nat) (as bs : List Nat) : collL (a :: as) (b :: bs) = if b < a then 1 else if a < b then -1 else collL as bs := by
  unfold collL
  by_cases h1 : b < a
  · have h2 : ¬ a < b := by omega
    have h3 : a ≠ b := by omega
    have h4 : b ≠ a := by omega
    simp [List.cons_lt_cons_iff, h1, h2, h3, h4, b2i]
  · by_cases h2 : a < b
    · have h3 : a ≠ b := by omega
      have h4 : b ≠ a := by omega
      simp [List.cons_lt_cons_iff, h1, h2, h3, h4, b2i]
    · obtain rfl : a = b := by omega
      simp [List.cons_lt_cons_iff, b2i]
theorem coll_order : ∀ a b : List Nat, collL a b = orderL a b
  | [], [] => by simp [collL, orderL, b2i]
  | [], b :: bs => by simp [collL, orderL, b2i]
  | a :: as, [] => by simp [collL, orderL, b2i]
  | a :: as, b :: bs => by
    rw [coll_cons]
    unfold orderL
    rw [coll_order as bs]
theorem coll_one (a b : Nat) : collL [a] [b] = 1 ↔ b < a := by
  rw [coll_order]
  unfold orderL
  by_cases h1 : b < a
  · simp [h1]
  · by_cases h2 : a < b
    · simp [h1, h2]
    · simp [h1, h2, orderL]
end
section
open PySem PySem.W PyProof.Rows PySem.Calls PySem.Spec
theorem ct_use {w : World} {p : Program} {loose : List Str} {mean : ExcName → Option Value} {mg mb : Str → Option Value} {f : Addr} {vs : List Value} {dn un' : Nat}
    {Pre : List (Addr × Obj) → Prop} {R : List (Addr × Obj) → Value → List (Addr × Obj) → Prop}
    {dp un : Nat} {gd : Option (List Code)} {cn : Str} {cs : Scope} {a : Addr} {ccd : Value} {cl : List (Str × Addr)} {outer : List Env} {A₀ : Around} {base h₀ : Heap} {L : Addr} {m : Str → Option Value} {news : List (Addr × Obj)} {s : Shared}
    {Q E : Value → Shared → Prop} (C : Ct w p loose mean mg mb f vs dn un' Pre R)
    (B : Below A₀ base outer h₀) (F : Fr h₀ L s.heap m) (X : (heapL w.params).In h₀) (N : News h₀ L s.heap news) (T : Top p loose mean mg mb h₀) (hk : cs.kind = .function) (hpre : Pre news)
    (hdp : dp + dn < recursionLimit) (hun : un + un' < cLine)
    (h : ∀ r news' s', Fr h₀ L s'.heap m → News h₀ L s'.heap news' → Same s s' → R news r news' → Q r s') :
    wpAny (model PR w) (ktrTop dp un gd cn cs L a ccd cl outer) (call (.ref f) vs) Q E s :=
  C dp un gd cn cs a ccd cl outer A₀ base h₀ L m news s Q E B F X N T hk hpre hdp hun fun r news' s' F' N' h1 h2 hR => h r news' s' F' N' ⟨h1, h2⟩ hR
theorem ctP_use {w : World} {p : Program} {loose : List Str} {mean : ExcName → Option Value} {mg mb : Str → Option Value} {f : Addr} {vs : List Value} {dn un' : Nat}
    {Pre : List (Addr × Obj) → Prop} {R : List (Addr × Obj) → Value → List (Addr × Obj) → Prop}
    {dp un : Nat} {gd : Option (List Code)} {cn : Str} {cs : Scope} {a : Addr} {ccd : Value} {cl : List (Str × Addr)} {outer : List Env} {A₀ : Around} {base h₀ : Heap} {L : Addr} {m : Str → Option Value} {news : List (Addr × Obj)} {s : Shared}
    {Q E : Value → Shared → Prop} (C : CtP w p loose mean mg mb f vs dn un' Pre R)
    (B : Below A₀ base outer h₀) (F : Fr h₀ L s.heap m) (X : (heapL w.params).In h₀) (N : News h₀ L s.heap news) (T : Top p loose mean mg mb h₀) (hk : cs.kind = .function) (hpre : Pre news)
    (hdp : dp + dn < recursionLimit) (hun : un + un' < cLine)
    (h : ∀ r news' h' tk', Fr h₀ L h' m → News h₀ L h' news' → R news r news' → Q r { s with heap := h', toks := tk' }) :
    wpAny (model PR w) (ktrTop dp un gd cn cs L a ccd cl outer) (call (.ref f) vs) Q E s :=
  C dp un gd cn cs a ccd cl outer A₀ base h₀ L m news s Q E B F X N T hk hpre hdp hun h
theorem ct_useS {w : World} {p : Program} {loose : List Str} {mean : ExcName → Option Value} {mg mb : Str → Option Value} {f : Addr} {vs : List Value} {dn un' : Nat}
    {Pre : List (Addr × Obj) → Prop}
    {dp un : Nat} {gd : Option (List Code)} {cn : Str} {cs : Scope} {a : Addr} {ccd : Value} {cl : List (Str × Addr)} {outer : List Env} {A₀ : Around} {base h₀ : Heap} {L : Addr} {m : Str → Option Value} {news : List (Addr × Obj)} {s : Shared}
    {Q E : Value → Shared → Prop} {x : Str} (C : CtP w p loose mean mg mb f vs dn un' Pre (RStr x))
    (B : Below A₀ base outer h₀) (F : Fr h₀ L s.heap m) (X : (heapL w.params).In h₀) (N : News h₀ L s.heap news) (T : Top p loose mean mg mb h₀) (hk : cs.kind = .function) (hpre : Pre news)
    (hdp : dp + dn < recursionLimit) (hun : un + un' < cLine)
    (h : ∀ t h' tk', Fr h₀ L h' m → News h₀ L h' news → Q (.str x t) { s with heap := h', toks := tk' }) :
    wpAny (model PR w) (ktrTop dp un gd cn cs L a ccd cl outer) (call (.ref f) vs) Q E s :=
  ctP_use C B F X N T hk hpre hdp hun fun r news' h' tk' F' N' hR => by
    obtain ⟨rfl, t, rfl⟩ := hR
    exact h t h' tk' F' N'
theorem ct_useI {w : World} {p : Program} {loose : List Str} {mean : ExcName → Option Value} {mg mb : Str → Option Value} {f : Addr} {vs : List Value} {dn un' : Nat}
    {Pre : List (Addr × Obj) → Prop}
    {dp un : Nat} {gd : Option (List Code)} {cn : Str} {cs : Scope} {a : Addr} {ccd : Value} {cl : List (Str × Addr)} {outer : List Env} {A₀ : Around} {base h₀ : Heap} {L : Addr} {m : Str → Option Value} {news : List (Addr × Obj)} {s : Shared}
    {Q E : Value → Shared → Prop} {x : Int} (C : CtP w p loose mean mg mb f vs dn un' Pre (RInt x))
    (B : Below A₀ base outer h₀) (F : Fr h₀ L s.heap m) (X : (heapL w.params).In h₀) (N : News h₀ L s.heap news) (T : Top p loose mean mg mb h₀) (hk : cs.kind = .function) (hpre : Pre news)
    (hdp : dp + dn < recursionLimit) (hun : un + un' < cLine)
    (h : ∀ t h' tk', Fr h₀ L h' m → News h₀ L h' news → Q (.int x t) { s with heap := h', toks := tk' }) :
    wpAny (model PR w) (ktrTop dp un gd cn cs L a ccd cl outer) (call (.ref f) vs) Q E s :=
  ctP_use C B F X N T hk hpre hdp hun fun r news' h' tk' F' N' hR => by
    obtain ⟨rfl, t, rfl⟩ := hR
    exact h t h' tk' F' N'
theorem ct_useB {w : World} {p : Program} {loose : List Str} {mean : ExcName → Option Value} {mg mb : Str → Option Value} {f : Addr} {vs : List Value} {dn un' : Nat}
    {Pre : List (Addr × Obj) → Prop}
    {dp un : Nat} {gd : Option (List Code)} {cn : Str} {cs : Scope} {a : Addr} {ccd : Value} {cl : List (Str × Addr)} {outer : List Env} {A₀ : Around} {base h₀ : Heap} {L : Addr} {m : Str → Option Value} {news : List (Addr × Obj)} {s : Shared}
    {Q E : Value → Shared → Prop} {x : Bool} (C : CtP w p loose mean mg mb f vs dn un' Pre (RBool x))
    (B : Below A₀ base outer h₀) (F : Fr h₀ L s.heap m) (X : (heapL w.params).In h₀) (N : News h₀ L s.heap news) (T : Top p loose mean mg mb h₀) (hk : cs.kind = .function) (hpre : Pre news)
    (hdp : dp + dn < recursionLimit) (hun : un + un' < cLine)
    (h : ∀ h' tk', Fr h₀ L h' m → News h₀ L h' news → Q (.bool x) { s with heap := h', toks := tk' }) :
    wpAny (model PR w) (ktrTop dp un gd cn cs L a ccd cl outer) (call (.ref f) vs) Q E s :=
  ctP_use C B F X N T hk hpre hdp hun fun r news' h' tk' F' N' hR => by
    obtain ⟨rfl, rfl⟩ := hR
    exact h h' tk' F' N'
def StrIs (o : Option Value) (x : Str) : Prop := ∃ t, o = some (.str x t)
theorem str_is {o : Option Value} {x x' : Str} {t : Tok} (h : o = some (.str x' t)) (e : x' = x) : StrIs o x := ⟨t, e ▸ h⟩
abbrev tupObj (x : Str) (tx : Tok) (y : Str) (ty : Tok) : Obj := { cls := .type "tuple", data := .seq #[.str x tx, .str y ty] }
def PairsIn (news : List (Addr × Obj)) (lp : Addr) (ps : Pairs) : Prop :=
  ∃ (items : Array Value) (e : Nat), (lp, W.listOf items e) ∈ news ∧ items.size = ps.length ∧ ∀ (i : Nat) (q : Nat × Nat), ps[i]? = some q → ∃ (T : Addr) (ta tb : Tok), items[i]? = some (Value.ref T) ∧ (T, tupObj (S [q.1]) ta (S [q.2]) tb) ∈ news
theorem setText_take {ps : Pairs} {i : Nat} {q : Nat × Nat} (h : ps[i]? = some q) : setText (ps.take (i + 1)) = setStep (setText (ps.take i)) q := by
  unfold setText
  rw [List.take_add_one, h, List.foldl_append]
  rfl
theorem setStep_length (t : List Nat) (q : Nat × Nat) : (setStep t q).length ≤ t.length + 5 := by
  have h1 : ∀ c b, (plainL c b).length ≤ 2 := fun c b => by unfold plainL; split <;> simp
  unfold setStep
  split
  · omega
  · have := h1 q.1 (decide (t = [])); have := h1 q.2 false
    simp only [List.length_append, List.length_cons]; omega
theorem setText_length (ps : Pairs) : (setText ps).length ≤ 5 * ps.length := by
  have key : ∀ (ps : Pairs) (t : List Nat), (ps.foldl setStep t).length ≤ t.length + 5 * ps.length := by
    intro ps
    induction ps with
    | nil => intro t; simp
    | cons q r ih =>
      intro t
      rw [List.foldl_cons]
      have := ih (setStep t q); have := setStep_length t q
      simp only [List.length_cons]; omega
  have := key ps []
  simpa [setText] using this
theorem For_JF {prog : Program} {w : World} {A : Around} {E : Value → Shared → Prop} {s : Shared} {env : Env} {h₀ : Heap} {m : Str → Option Value} {Q : Flow → Shared → Prop} {target iter : Expr} {body : List Stmt} {pos : Pos} (F : Fr h₀ env.locals s.heap m) (hE : PassesOwn (model prog w) A env E)
    (h : wpAny (model prog w) A (eval iter env) (fun xv s₁ => wpAny (model prog w) A (pyIter xv) (fun it s₂ => ForJ prog w A h₀ env target body s Q E it s₂) E s₁) E s)
    (hs : ∀ x, foldedSetIterable iter env x = pure x := by intro _; rfl) :
    wpAny (model prog w) A (exec (.For target iter body [] pos) env) Q E s := For_J h₀ hE h hs
theorem item_La {prog : Program} {w : World} {A : Around} {E : Value → Shared → Prop} {s : Shared} {h₀ : Heap} {L : Addr} {news : List (Addr × Obj)} {D : Addr} {l1 r : List (Str × Tok)} {x : Str} {tx u : Tok} {k : Int} {e : Nat} {value slice : PySem.Expr} {Q : Value → Shared → Prop} (hm : (D, W.listOf (outsVal (l1 ++ (x, tx) :: r)) e) ∈ news) (N : News h₀ L s.heap news) (hk : k = (l1.length : Nat)) (hk2 : l1.length ≤ 1000)
    (h : Q (.str x tx) s) (hs : subscripted slice false (.ref D) (.int k u) = operate [.ref D, .int k u] (getItem (.ref D) (.int k u)) := by with_unfolding_all rfl) :
    wpAny (model prog w) A (subscriptTail value slice (.ref D) (.int k u)) Q E s := item_L N hm ⟨hk, hk2⟩ h hs
theorem news_tail {h₀ h : Heap} {L : Addr} {q : Addr × Obj} {news : List (Addr × Obj)} (N : News h₀ L h (q :: news)) : News h₀ L h news := fun p hp => N p (.tail _ hp)
theorem eq_nil (l : List Nat) : (S l == Str.ofString "") = decide (l = []) := by
  rw [show Str.ofString "" = S [] from by decide +kernel]
  cases l with
  | nil => rfl
  | cons a r => 
    rw [decide_eq_false (by simp)]
    simp
end
section
open PySem PySem.W PyProof.Rows PySem.Calls PySem.Spec
section
variable {prog : Program} {w : World} {A : Around} {E : Value → Shared → Prop} {s : Shared} {h₀ : Heap} {L a c P : Addr} {m mg mb : Str → Option Value} {cn : Str} {cs : Scope} {ccd : Value} {news : List (Addr × Obj)}
  {p : Program} {loose : List Str} {mean : ExcName → Option Value} {ps : Array Value} {pos : Pos}
def TabRel (pos : Pos) (ps ps' : Array Value) : Prop := (ps' = ps ∧ (codeAmong pos ps.toList).isSome = true) ∨ (codeAmong pos ps.toList = none ∧ ∃ c' : Addr, ps' = ps ++ #[rawInt pos.line, rawInt pos.col, .ref c'])
theorem gen_J {elt : PySem.Expr} {x y : Str} {px py : Pos} {scope : Scope} {clos : List (Str × Addr)} {Q : Value → Shared → Prop} {l : Addr} {items : Array Value} {e : Nat} (Fv : Nat → Value → Prop)
    (F : Fr h₀ L s.heap m) (N : News h₀ L s.heap news) (T : Top p loose mean mg mb h₀) (C : CodeHd h₀ c P) (hcd : ccd = .ref c) (hP : (P, tabObj ps) ∈ news) (ht : TriplesOk ps.toList)
    (hh : A.handled = none) (hco : scope.isCoroutine = false) (hclos : closureFor scope (envOf cn cs L a ccd) = pure clos) (hcell : ∀ y ∈ scope.names, y.2 ≠ .cell) (h0 : scope.names.lookup (".0" : Str) = some NameKind.local)
    (hx : scope.names.lookup x = some .local) (hkind : scope.kind = .function) (hroom : A.depth < recursionLimit)
    (hl : (l, W.listOf items e) ∈ news) (hv : m y = some (.ref l)) (hck : cs.kind = .function) (hcl : (envOf cn cs L a ccd).kindOf y = some .local) (hcd2 : (y == ("__debug__" : Str)) = false)
    (hq : ∀ (A' : Around) E' i v (s₂ : Shared) m₂ (Cd : Addr) (ce : Value), A'.handled = none → items[i]? = some v → s₂.heap.Ns Cd m₂ → m₂ x = some v →
      wpAny (model prog w) A' (eval elt (genEnv scope clos Cd ce builtinsNs (envOf cn cs L a ccd))) (fun y s₃ => Fv i y ∧ Keeps s₂ s₃) E' s₂)
    (h : ∀ ps' a' s₅, TabRel pos ps ps' → Fr h₀ L s₅.heap m → (∀ q ∈ news, q.1 ≠ P → s₅.heap.get? q.1 = some q.2) → s₅.heap.get? P = some (tabObj ps') → Same s s₅ →
      Gen prog w A (s.heap.objs.size - 1) a' (passing (fun _ => true) items.size 0).length (fun j y => ∃ i, (passing (fun _ => true) items.size 0)[j]? = some i ∧ Fv i y) s₅ → Q (.ref a') s₅)
    (hs : ∀ v, genFold (.Name y py) (envOf cn cs L a ccd) v = pure v := by intro _; rfl) :
    wpAny (model prog w) A (eval (.GeneratorExp elt [⟨.Name x px, .Name y py, [], 0⟩] scope pos) (envOf cn cs L a ccd)) Q E s := by
  refine wpAny_GeneratorExp_walksQ hh hco hclos hcell h0 hx hkind hroom (ld F hv ?_ hck hcl hcd2) hs
  have hls : s.heap.IsList l items := ⟨_, (N _ hl).1, rfl, _, rfl⟩
  refine wpAny_pyIter_list hls ?_
  have hm := N _ hP
  have hnl : s.heap.NoLimit := T.nolimit.keeps F.keep
  refine ⟨hnl.push _, ?_⟩
  have F₂ := F.push (h := s.heap) { cls := .type "list_iterator", data := .fields #[.ref l, .int 0 0] }
  have hgs := T.g.keeps F₂.keep
  obtain ⟨bm, ob, b1, b2, b3, b4, b5, b6⟩ := T.bmain
  have hm2 := Heap.get?_push_of_some (h := s.heap) { cls := .type "list_iterator", data := .fields #[.ref l, .int 0 0] } hm.1
  have hgP : mainGlobals ≠ P := fun q => by
    obtain ⟨o, es, ep, e, hd, _⟩ := hgs
    rw [q, hm2] at e; cases e; cases hd
  have hbP : bm ≠ P := fun q => by
    have e := F₂.keep _ _ b3
    rw [q, hm2] at e; cases e; cases b4
  have hcP : cStatics ≠ P := fun q => by
    obtain ⟨_, ⟨o, es, ep, e, hd, _⟩, _⟩ := hnl
    rw [q, hm.1] at e; cases e; cases hd
  have hlP : l ≠ P := fun q => by
    have e := (N _ hl).1
    rw [show (l, W.listOf items _).1 = P from q, hm.1] at e
    cases e
  have hlt : l < s.heap.objs.size := Heap.lt_size (N _ hl).1
  have hPlt : P < s.heap.objs.size := Heap.lt_size hm.1
  have hclt : cStatics < s.heap.objs.size := let ⟨_, hn, _⟩ := hnl; hn.lt
  have key : ∀ code h₃ tk₃ ps', TabRel pos ps ps' → Heap.ExtBut P (s.heap.push { cls := .type "list_iterator", data := .fields #[.ref l, .int 0 0] }) h₃ → (s.heap.push { cls := .type "list_iterator", data := .fields #[.ref l, .int 0 0] }).objs.size ≤ h₃.objs.size → h₃.get? P = some (tabObj ps') →
      wpAny (model prog w) A (builtinsFor (envOf cn cs L a ccd).globals (envOf cn cs L a ccd).builtins) (fun bi s₄ =>
        ∃ I fp wr n₀ Pi St₀ pz F, Value.ref s.heap.objs.size = .ref I ∧ (∀ A' : Around, A'.handled = none → Walks prog w A' I fp wr n₀ Pi St₀) ∧ St₀ 0 s₄.heap ∧ (∀ b ∈ fp, b < s₄.heap.objs.size) ∧ s₄.heap.NoLimit ∧ cStatics ∉ wr ∧
          (∀ href : Heap, (∀ b o, s₄.heap.get? b = some o → href.get? b = some o) →
            QuietGen prog w (genEnv scope clos s₄.heap.objs.size code bi (envOf cn cs L a ccd)) x [] elt (List.range s₄.heap.objs.size) wr Pi pz F href) ∧
          (∀ a h₅ tk gs, gs.bare = true → s₄.heap.objs.size < a → h₅.objs.size = a + 1 → (∀ b o, s₄.heap.get? b = some o → h₅.get? b = some o) →
            WalksS prog w A.in4 a (a :: s₄.heap.objs.size :: List.range s₄.heap.objs.size) (s₄.heap.objs.size :: wr) (GenOnlyQ s₄.gens.size) (passing pz n₀ 0).length
              (fun j y => ∃ i, (passing pz n₀ 0)[j]? = some i ∧ F i y) (GenAt prog w A.in4 a s₄.gens.size s₄.heap.objs.size (List.range s₄.heap.objs.size) wr pz n₀ F) →
            GenAt prog w A.in4 a s₄.gens.size s₄.heap.objs.size (List.range s₄.heap.objs.size) wr pz n₀ F 0 { s₄ with gens := s₄.gens.push gs, toks := tk, heap := h₅ } →
            Q (.ref a) { s₄ with gens := s₄.gens.push gs, toks := tk, heap := h₅ })) E { heap := h₃, gens := s.gens, drawn := s.drawn, toks := tk₃, os := s.os } := by
    intro code h₃ tk₃ ps' hrel hx₃ hge hP₃
    rw [Heap.size_push] at hge
    have hl₃ : h₃.NoLimit := (hnl.push _).extBut hx₃ hcP
    have hls₃ : h₃.IsList l items := (hls.push _).at fun o e => hx₃ l o hlP e
    have F₃ : Fr h₀ L h₃ m := ⟨F₂.ns.extBut hx₃ (Ne.symm hm.2.1), fun b o e => hx₃ b o (fun q => by rw [q, hm.2.2] at e; cases e) (F₂.keep b o e), F.above⟩
    refine wpAny_builtinsFor (hgs.extBut hx₃ hgP) b1 b2 (hx₃ _ _ hbP (F₂.keep _ _ b3)) b4 b5 b6 ?_
    refine ⟨s.heap.objs.size, [s.heap.objs.size, l], [s.heap.objs.size], items.size, _, _, fun _ => true, Fv, rfl, (fun A' hA => Walks.list hA _ _ (Nat.ne_of_lt hlt) items), ?_, ?_, hl₃, ?_, ?_, ?_⟩
    · exact ⟨⟨_, hx₃ _ _ (Nat.ne_of_gt hPlt) (Heap.get?_push_size _ rfl), rfl, rfl⟩, hls₃⟩
    · intro b hb
      show b < h₃.objs.size
      rcases List.mem_cons.mp hb with rfl | hb
      · exact Nat.lt_of_lt_of_le (Nat.lt_succ_self _) hge
      · rw [List.mem_singleton.mp hb]; exact Nat.lt_of_lt_of_le (Nat.lt_succ_of_lt hlt) hge
    · intro hb
      exact absurd hclt (by rw [List.mem_singleton.mp hb]; exact Nat.lt_irrefl _)
    · intro href hhref
      exact ⟨fun A' E' i v s₂ m₂ hA hp hns hmx _ => wpAny_pure ⟨rfl, s₂.heap, s₂.toks, rfl, fun _ _ e => e⟩, fun A' E' i v s₂ m₂ hA hp _ hns hmx _ => hq A' E' i v s₂ m₂ _ _ hA hp hns hmx⟩
    · intro a' h₅ tk gs hgb hag hsz₅ hk₅ W hat
      refine h ps' a' _ hrel (F₃.keeps hk₅) (fun q hq' hne => hk₅ _ _ (hx₃ _ _ hne (Heap.get?_push_of_some _ (N q hq').1))) (hk₅ _ _ hP₃) ⟨rfl, fun G => G.push hgb⟩ ⟨_, _, _, _, W, hat, (fun i s' st => st.1.typeIs), List.mem_cons_self, ?_, ?_⟩
      · intro b hb
        show b < h₅.objs.size
        rw [hsz₅]
        rcases List.mem_cons.mp hb with rfl | hb
        · exact Nat.lt_succ_self _
        · rcases List.mem_cons.mp hb with rfl | hb
          · exact Nat.lt_succ_of_lt hag
          · exact Nat.lt_succ_of_lt (Nat.lt_trans (List.mem_range.mp hb) hag)
      · intro b hb
        rcases List.mem_cons.mp hb with rfl | hb
        · exact Nat.lt_of_le_of_lt (Nat.sub_le _ _) hge
        · rw [List.mem_singleton.mp hb]; exact Nat.sub_lt (Nat.lt_of_le_of_lt (Nat.zero_le _) hlt) Nat.one_pos
  have C₂ := (C.keeps F.keep).keeps fun b o e => Heap.get?_push_of_some (h := s.heap) { cls := .type "list_iterator", data := .fields #[.ref l, .int 0 0] } e
  cases hnf : codeAmong pos ps.toList with
  | none =>
    refine wpAny_genexprCodeX hcd (C₂.code hm2 ht) (C₂.tab hm2) hnf fun c' h₃ tk₃ hx₃ hge hlt₃ _ _ htab₃ _ => ?_
    exact key (.ref c') h₃ tk₃ _ (.inr ⟨hnf, c', rfl⟩) hx₃ (Nat.le_trans hge (Nat.le_of_lt hlt₃)) htab₃.2
  | some cv =>
    refine wpAny_genexprCode_hit hcd (C₂.code hm2 ht) hnf ?_
    exact key cv _ s.toks ps (.inl ⟨rfl, by rw [hnf]; rfl⟩) (Heap.ExtBut.refl _ _) (Nat.le_refl _) hm2
theorem join_J {sep : Str} {t : Tok} {K a' : Addr} {n : Nat} {Fn : Nat → Value → Prop} {Q : Value → Shared → Prop} (F : Fr h₀ L s.heap m) (N : News h₀ L s.heap news) (X : Gen prog w A K a' n Fn s) (hLK : L ≤ K) (hK : ∀ q ∈ news, q.1 ≤ K) (tx : Nat → Str) (htx : ∀ j v, Fn j v → ∃ u, v = .str (tx j) u)
    (hok : JoinOk sep ((List.range n).map tx) = true)
    (hQ : ∀ s' t', Fr h₀ L s'.heap m → News h₀ L s'.heap news → Same s s' → Q (.str (Txt.join sep ((List.range n).map tx)) t') s')
    (hsz : n ≤ sizeLine := by size_fits) : wpAny (model prog w) A (call (.builtin "str.join") [.str sep t, .ref a']) Q E s := by
  obtain ⟨fp, wr, g, St, W, hst, hT, ha, hfp, hwr⟩ := X
  have W := W.in4_2
  refine SC.joinGen W hT hst hfp ha (fun j v hv => let ⟨u, e⟩ := htx j v hv; ⟨_, u, e⟩) (fun s' lt hm hacc => ?_) hsz
  have hl : lt.map (·.1) = (List.range n).map tx := by
    apply List.ext_getElem?
    intro j
    have hsz : lt.length = n := by simpa [strValues] using hacc.1
    by_cases hj : j < n
    · have hj' : j < lt.length := hsz ▸ hj
      obtain ⟨u, hv⟩ := htx j _ (hacc.2 j (.str lt[j].1 lt[j].2) (by simp [strValues, List.getElem?_eq_getElem hj']))
      injection hv with h1 _
      simp [List.getElem?_eq_getElem hj', hj, h1]
    · rw [List.getElem?_eq_none (by simpa [hsz] using Nat.le_of_not_lt hj), List.getElem?_eq_none (by simpa using Nat.le_of_not_lt hj)]
  rw [hl]
  have f1 := F.moved hm fun b hb => Nat.lt_of_le_of_lt hLK (hwr b hb)
  have n1 : News h₀ L s'.heap news := fun q hq => ⟨hm.heap _ _ (fun hmem => Nat.lt_irrefl _ (Nat.lt_of_lt_of_le (hwr q.1 hmem) (hK q hq))) (N q hq).1, (N q hq).2⟩
  have g1 : AllBare s.gens → AllBare s'.gens := fun G => AllBare.movedS G hm
  exact ⟨hok, fun t' k => hQ { s' with toks := k } t' f1 n1 ⟨hm.os, g1⟩⟩
theorem ld_gen {M : Model} {x : Str} {px : Pos} {v : Value} {scope : Scope} {clos : List (Str × Addr)} {Cd bi : Addr} {ce : Value} {env : Env} {Q : Value → Shared → Prop} (hn : s.heap.Ns Cd m) (hv : m x = some v) (h : Q v s) (hk : scope.kind = .function) (hl : (genEnv scope clos Cd ce bi env).kindOf x = some .local) (hd : (x == ("__debug__" : Str)) = false) :
    wpAny M A (eval (.Name x px) (genEnv scope clos Cd ce bi env)) Q E s := wpAny_Name (wpAny_loadName_local hk hl hn hv h) hd
end
end
section
open PySem PySem.W PyProof.Rows PySem.Calls PySem.Spec
section
variable {prog : Program} {w : World} {A : Around}
def EltDone (F : Value → Prop) (s₂ : Shared) (y : Value) (s₃ : Shared) : Prop := F y ∧ Keeps s₂ s₃
/-- an element of a generator over a list is told wherever the count of tokens is past nought -/
def Told0 (prog : Program) (w : World) (cenv : Env) (x : Str) (elt : PySem.Expr) (items : Array Value) (Fv : Nat → Value → Prop) : Prop :=
  ∀ (A' : Around) E' i v (s₂ : Shared) m₂, A'.handled = none → items[i]? = some v → s₂.toks ≠ 0 → s₂.heap.Ns cenv.locals m₂ → m₂ x = some v →
    wpAny (model prog w) A' (eval elt cenv) (EltDone (Fv i) s₂) E' s₂
abbrev allPass : Nat → Bool := fun _ => true
abbrev loopCode (elt iter : PySem.Expr) (x : Str) (px : Pos) (scope : Scope) (pos : Pos) (I : Addr) (cenv : Env) : Code := .compLoop (.GeneratorExp elt [⟨.Name x px, iter, [], 0⟩] scope pos) 0 (.ref I) .none cenv
theorem loop_told {elt iter : PySem.Expr} {x : Str} {px : Pos} {scope : Scope} {pos : Pos} {I l : Addr} {fp : List Addr} {items : Array Value} {cenv : Env} {Fv : Nat → Value → Prop} (hh : A.handled = none) (hlI : l ≠ I)
    (hx : cenv.kindOf x = some .local) (hp : (cenv.scope.kind == .class || (cenv.scope.kind == .module && cenv.locals != cenv.globals)) = false) (hco : cenv.scope.isCoroutine = false) (hCI : cenv.locals ≠ I) (hCl : cenv.locals ≠ l)
    (hIf : I ∈ fp) (hlf : l ∈ fp) (hq : Told0 prog w cenv x elt items Fv) : ∀ (d i : Nat) (s₀ s : Shared) (m : Str → Option Value), i + d = items.size → s.heap.IsListIter I l i → s.heap.IsList l items → s.heap.Ns cenv.locals m → GenSince cenv.locals [I] s₀ s →
      Seg (model prog w) A (fun n s₀ r s₁ => r = .ok .next ∧ (n = 0 ∧ GenSince cenv.locals [I] s₀ s₁)) (genProto cenv.locals fp [I] allPass items.size Fv) (passing allPass items.size i).length s₀
        (loopCode elt iter x px scope pos I cenv) ((model prog w).den (loopCode elt iter x px scope pos I cenv)) [] s := by
  have hW : ∀ A' : Around, A'.handled = none → Walks prog w A' I [I, l] [I] items.size (fun i v => items[i]? = some v) (fun i h => h.IsListIter I l i ∧ h.IsList l items) := fun A' hA => Walks.list hA I l hlI items
  have hA : (A.over (loopCode elt iter x px scope pos I cenv) []).handled = none := hh
  have hCw : cenv.locals ∉ [I] := fun h => hCI (List.mem_singleton.mp h)
  intro d
  induction d with
  | zero =>
    intro i s₀ s m hi hit hl hn hs
    obtain rfl : i = items.size := by omega
    show Seg _ A _ _ _ s₀ _ ((compTurn (.GeneratorExp elt [⟨.Name x px, iter, [], 0⟩] scope pos) 0 (.ref I) .none cenv).onRaise (leaving cenv)) [] s
    rw [compTurn_gen, Sem.onRaise_eq_wrap]
    refine seg_bind_wrap (wpAny_standAt (seg_bind_wrap ((hW _ hA).done s _ _ ⟨hit, hl⟩ fun h' tk hk' => ?_)))
    refine seg_end (.ok .next) ⟨rfl, ?_, hs.step fun b o _ hw e => hk' b o hw e⟩
    rw [passing_end]; rfl
  | succ d ih =>
    intro i s₀ s m hi hit hl hn hs
    have hlt : i < items.size := by omega
    show Seg _ A _ _ _ s₀ _ ((compTurn (.GeneratorExp elt [⟨.Name x px, iter, [], 0⟩] scope pos) 0 (.ref I) .none cenv).onRaise (leaving cenv)) [] s
    rw [compTurn_gen, Sem.onRaise_eq_wrap]
    refine seg_bind_wrap (wpAny_standAt (seg_bind_wrap ((hW _ hA).item i s _ _ hlt ⟨hit, hl⟩ fun v h₁ tk₁ hv hst₁ hk₁ => ?_)))
    refine seg_bind_wrap (wpAny_of_eq (rfl : letOwnedTupleGo (.Name x px) (.ref I) v = pure ()) (seg_bind_wrap (wpAny_assign_Name (wpAny_storeName_local hx (hn.at' fun o e => hk₁ _ o hCw e) (fun h₂ hn₂ hs₂ => ?_) hp))))
    have hk₂ : ∀ b o, b ≠ cenv.locals → b ∉ [I] → s.heap.get? b = some o → h₂.get? b = some o := fun b o h1 h2 e => hs₂.extBut b o h1 (hk₁ b o h2 e)
    have hit₂ : h₂.IsListIter I l (i + 1) := hst₁.1.at fun o e => hs₂.extBut I o (Ne.symm hCI) e
    have hl₂ : h₂.IsList l items := hst₁.2.at fun o e => hs₂.extBut l o (Ne.symm hCl) e
    refine seg_bind_wrap (wpAny_pure ?_)
    rw [passing_true hlt rfl, List.length_cons]
    simp only [if_true]
    have hy : ∀ v, yieldOut cenv v = yieldValue v := fun v => by simp only [yieldOut, hco, Bool.false_eq_true, if_false]
    simp only [hy]
    rw [Sem.bind_eq_wrap', Sem.bind_eq_wrap', Sem.wrap_wrap, Sem.wrap_wrap]
    refine seg_wrap (wpAny_mono (hq _ _ i v _ _ hA hv (Nat.succ_ne_zero _) hn₂ (by simp)) (fun y s₄ h₄ => ?_) fun _ _ e => e)
    obtain ⟨hF, h₄, tk₄, rfl, hk₄⟩ := h₄
    refine seg_at (seg_yield rfl rfl rfl ⟨⟨i, passing_here hlt rfl, hF⟩, hs.step fun b o h1 h2 e => hk₄ b o (hk₂ b o h1 h2 e), fun s'' hal => ?_⟩)
    exact seg_again rfl (ih (i + 1) s'' s'' _ (by omega) (hit₂.at fun o e => hal I (.tail _ hIf) o (hk₄ _ _ e)) (hl₂.at fun o e => hal l (.tail _ hlf) o (hk₄ _ _ e)) ((hn₂.keeps hk₄).at' fun o e => hal _ (.head _) o e) (GenSince.refl _ _ _))
theorem start_told {elt iter : PySem.Expr} {x : Str} {px : Pos} {scope : Scope} {pos : Pos} {I l a : Addr} {g : Nat} {fp : List Addr} {items : Array Value} {cenv : Env} {Fv : Nat → Value → Prop} {s : Shared} {m : Str → Option Value} (hh : A.handled = none) (hlI : l ≠ I)
    (hx : cenv.kindOf x = some .local) (hp : (cenv.scope.kind == .class || (cenv.scope.kind == .module && cenv.locals != cenv.globals)) = false) (hco : cenv.scope.isCoroutine = false) (hCI : cenv.locals ≠ I) (hCl : cenv.locals ≠ l)
    (hIf : I ∈ fp) (hlf : l ∈ fp) (hq : Told0 prog w cenv x elt items Fv)
    (hg : s.heap.IsGen a g) (hgs : s.gens[g]? = some (.fresh (.compStart (.GeneratorExp elt [⟨.Name x px, iter, [], 0⟩] scope pos) 0 (.ref I) .none cenv)))
    (hit : s.heap.IsListIter I l 0) (hl : s.heap.IsList l items) (hn : s.heap.Ns cenv.locals m) (hlim : s.heap.NoLimit) : GenAt prog w A a g cenv.locals fp [I] allPass items.size Fv 0 s := by
  refine ⟨hg, hlim, _, hgs, fun s'' hal => ⟨rfl, ?_⟩⟩
  have hit' : s''.heap.IsListIter I l 0 := hit.at fun o e => hal I (.tail _ hIf) o e
  have hl' : s''.heap.IsList l items := hl.at fun o e => hal l (.tail _ hlf) o e
  have hA : (A.in1.over (.compStart (.GeneratorExp elt [⟨.Name x px, iter, [], 0⟩] scope pos) 0 (.ref I) .none cenv) []).handled = none := hh
  have loop := loop_told (A := A.in1) (prog := prog) (w := w) (iter := iter) (px := px) (scope := scope) (pos := pos) (fp := fp) (Fv := Fv) hh hlI hx hp hco hCI hCl hIf hlf hq items.size 0 s'' s'' m (Nat.zero_add _) hit' hl' (hn.at' fun o e => hal _ (.head _) o e) (GenSince.refl _ _ _)
  show Seg _ A.in1 _ _ _ s'' _ ((compStart (.GeneratorExp elt [⟨.Name x px, iter, [], 0⟩] scope pos) 0 (.ref I) .none cenv).onRaise (leaving cenv)) [] s''
  unfold compStart
  rw [Sem.onRaise_eq_wrap]
  show Seg _ A.in1 _ _ _ s'' _ ((ask >>= _).wrap _ _ _ _) [] s''
  refine seg_bind_wrap (wpAny_askSetting ?_)
  split
  · exact seg_again rfl loop
  · refine seg_bind_wrap (wpAny_rule (seg_bind_wrap (wpAny_standAt (seg_bind_wrap ?_))))
    exact wpAny_pyIter_listiter hit' (seg_again rfl loop)
end
section
variable {prog : Program} {w : World} {A : Around} {E : Value → Shared → Prop} {s : Shared} {h₀ : Heap} {L a c P : Addr} {m mg mb : Str → Option Value} {cn : Str} {cs : Scope} {ccd : Value} {news : List (Addr × Obj)}
  {p : Program} {loose : List Str} {mean : ExcName → Option Value} {ps : Array Value} {pos : Pos}
theorem gen_T {elt : PySem.Expr} {x y : Str} {px py : Pos} {scope : Scope} {clos : List (Str × Addr)} {Q : Value → Shared → Prop} {l : Addr} {items : Array Value} {e : Nat} (Fv : Nat → Value → Prop)
    (F : Fr h₀ L s.heap m) (N : News h₀ L s.heap news) (T : Top p loose mean mg mb h₀) (C : CodeHd h₀ c P) (hcd : ccd = .ref c) (hP : (P, tabObj ps) ∈ news) (ht : TriplesOk ps.toList)
    (hh : A.handled = none) (hco : scope.isCoroutine = false) (hclos : closureFor scope (envOf cn cs L a ccd) = pure clos) (hcell : ∀ y ∈ scope.names, y.2 ≠ .cell) (h0 : scope.names.lookup (".0" : Str) = some NameKind.local)
    (hx : scope.names.lookup x = some .local) (hkind : scope.kind = .function) (hroom : A.depth < recursionLimit)
    (hl : (l, W.listOf items e) ∈ news) (hv : m y = some (.ref l)) (hck : cs.kind = .function) (hcl : (envOf cn cs L a ccd).kindOf y = some .local) (hcd2 : (y == ("__debug__" : Str)) = false)
    (hq : ∀ (Cd : Addr) (ce : Value), Told0 prog w (genEnv scope clos Cd ce builtinsNs (envOf cn cs L a ccd)) x elt items Fv)
    (h : ∀ ps' a' s₅, TabRel pos ps ps' → Fr h₀ L s₅.heap m → (∀ q ∈ news, q.1 ≠ P → s₅.heap.get? q.1 = some q.2) → s₅.heap.get? P = some (tabObj ps') → Same s s₅ →
      Gen prog w A (s.heap.objs.size - 1) a' (passing allPass items.size 0).length (fun j y => ∃ i, (passing allPass items.size 0)[j]? = some i ∧ Fv i y) s₅ → Q (.ref a') s₅)
    (hs : ∀ v, genFold (.Name y py) (envOf cn cs L a ccd) v = pure v := by intro _; rfl) :
    wpAny (model prog w) A (eval (.GeneratorExp elt [⟨.Name x px, .Name y py, [], 0⟩] scope pos) (envOf cn cs L a ccd)) Q E s := by
  refine wpAny_GeneratorExp_make hco hclos hcell h0 hkind hroom (ld F hv ?_ hck hcl hcd2) hs
  have hls : s.heap.IsList l items := ⟨_, (N _ hl).1, rfl, _, rfl⟩
  refine wpAny_pyIter_list hls ?_
  have hm := N _ hP
  have hnl : s.heap.NoLimit := T.nolimit.keeps F.keep
  refine ⟨hnl.push _, ?_⟩
  have F₂ := F.push (h := s.heap) { cls := .type "list_iterator", data := .fields #[.ref l, .int 0 0] }
  have hgs := T.g.keeps F₂.keep
  obtain ⟨bm, ob, b1, b2, b3, b4, b5, b6⟩ := T.bmain
  have hm2 := Heap.get?_push_of_some (h := s.heap) { cls := .type "list_iterator", data := .fields #[.ref l, .int 0 0] } hm.1
  have hgP : mainGlobals ≠ P := fun q => by
    obtain ⟨o, es, ep, e, hd, _⟩ := hgs
    rw [q, hm2] at e; cases e; cases hd
  have hbP : bm ≠ P := fun q => by
    have e := F₂.keep _ _ b3
    rw [q, hm2] at e; cases e; cases b4
  have hcP : cStatics ≠ P := fun q => by
    obtain ⟨_, ⟨o, es, ep, e, hd, _⟩, _⟩ := hnl
    rw [q, hm.1] at e; cases e; cases hd
  have hlP : l ≠ P := fun q => by
    have e := (N _ hl).1
    rw [show (l, W.listOf items _).1 = P from q, hm.1] at e
    cases e
  have hlt : l < s.heap.objs.size := Heap.lt_size (N _ hl).1
  have hPlt : P < s.heap.objs.size := Heap.lt_size hm.1
  have hclt : cStatics < s.heap.objs.size := let ⟨_, hn, _⟩ := hnl; hn.lt
  have key : ∀ code h₃ tk₃ ps', TabRel pos ps ps' → Heap.ExtBut P (s.heap.push { cls := .type "list_iterator", data := .fields #[.ref l, .int 0 0] }) h₃ → (s.heap.push { cls := .type "list_iterator", data := .fields #[.ref l, .int 0 0] }).objs.size ≤ h₃.objs.size → h₃.get? P = some (tabObj ps') →
      wpAny (model prog w) A (builtinsFor (envOf cn cs L a ccd).globals (envOf cn cs L a ccd).builtins) (fun bi s₄ =>
        ∀ h', h'.Ns s₄.heap.objs.size (fun y => if y = ".0" then some (.ref s.heap.objs.size) else none) → Heap.SameBut s₄.heap.objs.size (s₄.heap.push { cls := .type "frame", data := .dict #[] }) h' →
          Q (.ref h'.objs.size) { s₄ with
            gens := s₄.gens.push (.fresh (.compStart (.GeneratorExp elt [⟨.Name x px, .Name y py, [], 0⟩] scope pos) 0 (.ref s.heap.objs.size) .none (genEnv scope clos s₄.heap.objs.size code bi (envOf cn cs L a ccd)))),
            toks := s₄.toks + 1 + 1 + 1,
            heap := h'.push { cls := .type "generator", data := .fields #[.int s₄.gens.size 0, .str "<genexpr>" (s₄.toks + 1), .str ((envOf cn cs L a ccd).qual ++ "<genexpr>") (s₄.toks + 1 + 1)] } }) E { heap := h₃, gens := s.gens, drawn := s.drawn, toks := tk₃, os := s.os } := by
    intro code h₃ tk₃ ps' hrel hx₃ hge hP₃
    rw [Heap.size_push] at hge
    have hge2 : s.heap.objs.size < h₃.objs.size := hge
    have hl₃ : h₃.NoLimit := (hnl.push _).extBut hx₃ hcP
    have hls₃ : h₃.IsList l items := (hls.push _).at fun o e => hx₃ l o hlP e
    have hit₃ : h₃.IsListIter s.heap.objs.size l 0 := ⟨_, hx₃ _ _ (Nat.ne_of_gt hPlt) (Heap.get?_push_size _ rfl), rfl, rfl⟩
    have F₃ : Fr h₀ L h₃ m := ⟨F₂.ns.extBut hx₃ (Ne.symm hm.2.1), fun b o e => hx₃ b o (fun q => by rw [q, hm.2.2] at e; cases e) (F₂.keep b o e), F.above⟩
    refine wpAny_builtinsFor (hgs.extBut hx₃ hgP) b1 b2 (hx₃ _ _ hbP (F₂.keep _ _ b3)) b4 b5 b6 ?_
    intro h' hn' hs'
    have hsz : h'.objs.size = h₃.objs.size + 1 := by rw [hs'.1, Heap.size_push]
    have keep' : ∀ b o, h₃.get? b = some o → h'.get? b = some o := fun b o e => hs'.extBut b o (Nat.ne_of_lt (Heap.lt_size e)) (Heap.get?_push_of_some _ e)
    have haf : h'.objs.size ∉ List.range h₃.objs.size := fun hm => by have := List.mem_range.mp hm; omega
    have hW := WalksS.genexpQ (prog := prog) (w := w) (A := A.in4) hh h'.objs.size s.gens.size h₃.objs.size (List.range h₃.objs.size) [s.heap.objs.size] allPass items.size Fv (by rw [hsz]; exact Nat.succ_ne_self _) haf
      (fun b hb => by rw [List.mem_singleton.mp hb]; exact List.mem_range.mpr hge2) hroom (List.mem_range.mpr (Nat.lt_trans hclt hge2)) (Nat.ne_of_lt (Nat.lt_trans hclt hge2)) (fun hb => absurd hclt (by rw [List.mem_singleton.mp hb]; exact Nat.lt_irrefl _))
    have keep₅ : ∀ b o, h₃.get? b = some o → (h'.push { cls := .type "generator", data := .fields #[.int s.gens.size 0, .str "<genexpr>" (tk₃ + 1), .str ((envOf cn cs L a ccd).qual ++ "<genexpr>") (tk₃ + 1 + 1)] }).get? b = some o :=
      fun b o e => Heap.get?_push_of_some _ (keep' b o e)
    refine h ps' h'.objs.size _ hrel (F₃.keeps keep₅) (fun q hq' hne => keep₅ _ _ (hx₃ _ _ hne (Heap.get?_push_of_some _ (N q hq').1))) (keep₅ _ _ hP₃) ⟨rfl, fun G => G.push rfl⟩ ⟨_, _, _, _, hW, ?_, (fun i s' st => st.1.typeIs), List.mem_cons_self, ?_, ?_⟩
    · refine start_told (A := A.in4) (m := fun y => if y = ".0" then some (.ref s.heap.objs.size) else none) (iter := .Name y py) (px := px) (pos := pos) (scope := scope) (cenv := genEnv scope clos h₃.objs.size code builtinsNs (envOf cn cs L a ccd)) hh (Nat.ne_of_lt hlt) hx (by simp [genEnv, hkind]) hco
        (Nat.ne_of_gt hge2) (Nat.ne_of_gt (Nat.lt_trans hlt hge2)) (List.mem_range.mpr hge2) (List.mem_range.mpr (Nat.lt_trans hlt hge2)) (hq _ _) ⟨_, _, _, Heap.get?_push_size _ rfl, rfl, rfl, rfl⟩ (Array.getElem?_push_size ..) ?_ ?_ (hn'.push _) (hl₃.keeps keep₅)
      · exact hit₃.at fun o e => keep₅ _ o e
      · exact hls₃.at fun o e => keep₅ _ o e
    · intro b hb
      show b < (h'.push _).objs.size
      rw [Heap.size_push, hsz]
      rcases List.mem_cons.mp hb with rfl | hb
      · rw [hsz]; exact Nat.lt_succ_self _
      · rcases List.mem_cons.mp hb with rfl | hb
        · exact Nat.lt_succ_of_lt (Nat.lt_succ_self _)
        · exact Nat.lt_succ_of_lt (Nat.lt_succ_of_lt (List.mem_range.mp hb))
    · intro b hb
      rcases List.mem_cons.mp hb with rfl | hb
      · exact Nat.lt_of_le_of_lt (Nat.sub_le _ _) hge2
      · rw [List.mem_singleton.mp hb]; exact Nat.sub_lt (Nat.lt_of_le_of_lt (Nat.zero_le _) hlt) Nat.one_pos
  have C₂ := (C.keeps F.keep).keeps fun b o e => Heap.get?_push_of_some (h := s.heap) { cls := .type "list_iterator", data := .fields #[.ref l, .int 0 0] } e
  cases hnf : codeAmong pos ps.toList with
  | none =>
    refine wpAny_genexprCodeX hcd (C₂.code hm2 ht) (C₂.tab hm2) hnf fun c' h₃ tk₃ hx₃ hge hlt₃ _ _ htab₃ _ => ?_
    exact key (.ref c') h₃ tk₃ _ (.inr ⟨hnf, c', rfl⟩) hx₃ (Nat.le_trans hge (Nat.le_of_lt hlt₃)) htab₃.2
  | some cv =>
    refine wpAny_genexprCode_hit hcd (C₂.code hm2 ht) hnf ?_
    exact key cv _ s.toks ps (.inl ⟨rfl, by rw [hnf]; rfl⟩) (Heap.ExtBut.refl _ _) (Nat.le_refl _) hm2
end
end
section
open PySem PySem.W PyProof.Rows PySem.Calls PySem.Spec
def subst1 (c : Nat) (z : List Nat) (l : List Nat) : List Nat := l.flatMap fun k => if k = c then z else [k]
theorem subst1_append (c : Nat) (z a b : List Nat) : subst1 c z (a ++ b) = subst1 c z a ++ subst1 c z b := List.flatMap_append
theorem subst1_free (c : Nat) (z : List Nat) : ∀ l : List Nat, c ∉ l → subst1 c z l = l
  | [], _ => rfl
  | k :: r, h => by
    have h1 : ¬ k = c := fun e => h (e ▸ List.mem_cons_self ..)
    have ih := subst1_free c z r fun m => h (List.mem_cons_of_mem _ m)
    unfold subst1 at ih ⊢
    rw [List.flatMap_cons, if_neg h1, ih]; rfl
theorem subst1_join (c : Nat) (z : Str) : ∀ parts : List Str, (∀ p ∈ parts, c ∉ p.cps.toList) → subst1 c z.cps.toList (Str.join ⟨#[c]⟩ parts).cps.toList = (Str.join z parts).cps.toList
  | [], _ => rfl
  | [p], h => subst1_free c _ _ (h p (List.mem_singleton.mpr rfl))
  | p :: q :: r, h => by
    have ih := subst1_join c z (q :: r) fun a ha => h a (List.mem_cons_of_mem _ ha)
    show subst1 c z.cps.toList (p ++ ⟨#[c]⟩ ++ Str.join ⟨#[c]⟩ (q :: r)).cps.toList = (p ++ z ++ Str.join z (q :: r)).cps.toList
    simp only [Str.cps_append, Array.toList_append]
    rw [subst1_append, subst1_append, ih, subst1_free c _ _ (h p (List.mem_cons_self ..))]
    have e : subst1 c z.cps.toList [c] = z.cps.toList := by simp [subst1]
    show p.cps.toList ++ subst1 c z.cps.toList [c] ++ _ = _
    rw [e]
theorem replace_flat (x z : Str) (c : Nat) : (Txt.replace x ⟨#[c]⟩ z).cps.toList = subst1 c z.cps.toList x.cps.toList := by
  rw [StrLaws.replace_one, ← subst1_join c z _ (StrLaws.split_free x c), StrLaws.join_split]
theorem replace_S (y : List Nat) (c : Nat) (z : List Nat) : Txt.replace (S y) ⟨#[c]⟩ (S z) = S (subst1 c z y) := by
  have := replace_flat (S y) (S z) c
  apply Str.ext'
  apply Array.toList_inj.mp
  rw [this]
theorem subst_esc : ∀ y : List Nat, subst1 45 [92, 45] (subst1 92 [92, 92] y) = esc y
  | [] => rfl
  | k :: r => by
    have ih := subst_esc r
    have e1 : subst1 92 [92, 92] (k :: r) = (if k = 92 then [92, 92] else [k]) ++ subst1 92 [92, 92] r := rfl
    have e2 : esc (k :: r) = esc1 k ++ esc r := rfl
    rw [e1, e2, subst1_append, ih]
    congr 1
    unfold esc1
    by_cases h1 : k = 92
    · subst h1; rfl
    · rw [if_neg h1, if_neg h1]
      by_cases h2 : k = 45
      · subst h2; rfl
      · rw [if_neg h2]; unfold subst1; simp [h2]
theorem replace_esc (y : List Nat) : Txt.replace (Txt.replace (S y) (Str.ofString "\\") (Str.ofString "\\\\")) (Str.ofString "-") (Str.ofString "\\-") = S (esc y) := by
  rw [show Str.ofString "\\" = ⟨#[92]⟩ from by decide +kernel, show Str.ofString "\\\\" = S [92, 92] from by decide +kernel, show Str.ofString "-" = ⟨#[45]⟩ from by decide +kernel, show Str.ofString "\\-" = S [92, 45] from by decide +kernel, replace_S, replace_S, subst_esc]
theorem esc_length_le : ∀ y : List Nat, (esc y).length ≤ 2 * y.length
  | [] => Nat.le_refl _
  | k :: r => by
    have ih := esc_length_le r
    have e2 : esc (k :: r) = esc1 k ++ esc r := rfl
    rw [e2, List.length_append, List.length_cons]
    have : (esc1 k).length ≤ 2 := by unfold esc1; split <;> (try split) <;> simp
    omega
theorem subst1_length_le (c : Nat) (z : List Nat) (B : Nat) (hz : z.length ≤ B) (hB : 1 ≤ B) : ∀ y : List Nat, (subst1 c z y).length ≤ B * y.length
  | [] => Nat.zero_le _
  | k :: r => by
    have ih := subst1_length_le c z B hz hB r
    have e2 : subst1 c z (k :: r) = (if k = c then z else [k]) ++ subst1 c z r := rfl
    rw [e2, List.length_append, List.length_cons, Nat.mul_add, Nat.mul_one]
    have : (if k = c then z else [k]).length ≤ B := by
      by_cases h : k = c
      · rw [if_pos h]; exact hz
      · rw [if_neg h]; exact hB
    omega
theorem join_glue (sep : List Nat) : ∀ ls : List (List Nat), Str.join (S sep) (ls.map S) = S (sep.intercalate ls)
  | [] => rfl
  | [a] => by simp [Str.join, List.intercalate]
  | a :: b :: r => by
    have ih := join_glue sep (b :: r)
    show S a ++ S sep ++ Str.join (S sep) ((b :: r).map S) = _
    rw [ih, S_append, S_append]
    congr 1
    simp [List.intercalate]
theorem txt_join (sep : List Nat) (ls : List (List Nat)) : Txt.join (S sep) (ls.map S) = S (sep.intercalate ls) := by
  unfold Txt.join
  rw [StrLaws.glued_eq_join]
  exact join_glue sep ls
theorem foldl_len (sep : Str) (B : Nat) : ∀ (texts : List Str) (acc : Nat), (∀ x ∈ texts, x.length ≤ B) → texts.foldl (fun a x => a + x.length + sep.length) acc ≤ acc + texts.length * (B + sep.length)
  | [], acc, _ => by simp
  | x :: r, acc, h => by
    have h1 := h x (.head _)
    have ih := foldl_len sep B r (acc + x.length + sep.length) fun y hy => h y (.tail _ hy)
    rw [List.foldl_cons, List.length_cons, Nat.add_mul]
    omega
theorem joinOk_of_len {sep : Str} {texts : List Str} (B : Nat) (h : ∀ x ∈ texts, x.length ≤ B) (hb : texts.length * (B + sep.length) ≤ 16777215) : JoinOk sep texts = true := by
  unfold JoinOk
  have e : texts.toArray.foldl (fun a x => a + x.length + sep.length) 0 = texts.foldl (fun a x => a + x.length + sep.length) 0 := by simp
  rw [e]
  have h2 := foldl_len sep B texts 0 h
  unfold Builtin.Str.tooLong sizeLine
  rw [Bool.not_eq_true', decide_eq_false_iff_not]
  have e : (2 : Nat) ^ 24 = 16777216 := by decide
  omega
theorem outsVal_some {l : List (Str × Tok)} {i : Nat} {v : Value} (h : (outsVal l)[i]? = some v) : ∃ x t, l[i]? = some (x, t) ∧ v = .str x t := by
  unfold outsVal strValues at h
  rw [List.getElem?_toArray, List.getElem?_map] at h
  cases e : l[i]? with
  | none => rw [e] at h; cases h
  | some q => rw [e] at h; exact ⟨q.1, q.2, rfl, by simpa using h.symm⟩
theorem map_some {l : List (Str × Tok)} {M : List (List Nat)} (h : l.map (·.1) = M.map S) {i : Nat} {x : Str} {t : Tok} (hx : l[i]? = some (x, t)) : ∃ y, M[i]? = some y ∧ x = S y := by
  have e := congrArg (·[i]?) h
  simp only [List.getElem?_map, hx, Option.map_some] at e
  cases e2 : M[i]? with
  | none => rw [e2] at e; cases e
  | some y => rw [e2] at e; exact ⟨y, rfl, by simpa using e⟩
theorem passing_all (n : Nat) : passing (fun _ => true) n 0 = List.range n := by unfold passing; simp
theorem range_esc (M : List (List Nat)) : (List.range M.length).map (fun j => S (esc (M.getD j []))) = (M.map esc).map S := by
  apply List.ext_getElem
  · simp
  · intro i h1 h2
    simp at h1
    simp [h1]
section
variable {prog : Program} {w : World} {A : Around} {E : Value → Shared → Prop} {s : Shared} {x y z : Str} {t u v : Tok} {Q : Value → Shared → Prop}
/-- str.replace: the count of tokens does not fall -/
theorem replace_tok (hu : @LT.lt Nat _ 0 u ∧ @LT.lt Nat _ u v) (hyz : (y == z) = false) (hb : x.length ≤ 100000 ∧ z.length ≤ 10)
    (hq : ∀ t' k, s.toks ≤ k → Q (.str (Txt.replace x y z) t') { s with toks := k }) : wpAny (model prog w) A (call (.builtin "str.replace") [.str x t, .str y u, .str z v]) Q E s := by
  obtain ⟨h1', h3'⟩ := hu
  have h1 : u ≠ 0 := Nat.ne_of_gt h1'
  have h2 : v ≠ 0 := Nat.ne_of_gt (Nat.lt_trans h1' h3')
  have h3 : u ≠ v := Nat.ne_of_lt h3'
  have hbb : (x.length + 1) * z.length ≤ (x.length + 1) * 10 := Nat.mul_le_mul_left _ hb.2
  have hn : (Builtin.Str.occurrences x y 0 x.length (x.length + 1)).length * z.length ≤ (x.length + 1) * z.length := Nat.mul_le_mul_right _ (StrLaws.occ_length_le x y 0 x.length (x.length + 1))
  have hl : Builtin.Str.tooLong (x.length + (Builtin.Str.occurrences x y 0 x.length (x.length + 1)).length * z.length) = false := by
    unfold Builtin.Str.tooLong
    rw [decide_eq_false_iff_not, sizeLine_eq]
    omega
  refine call_gives F.slot_str_replace (typeIs_str _ _ _) F.entry_str_replace (F.args_str_replace_3 _ _ _) (gives_str_replace x y z t u v fun _ => ⟨by simp [h1, h2], by simp [h3], hyz, hl⟩) ?_
  unfold Txt.replace at hq
  by_cases hc : ((Builtin.Str.occurrences x y 0 x.length (x.length + 1)).isEmpty || (y.length == 0 && z.length == 0)) = true
  · rw [if_pos hc] at hq ⊢
    exact hq t s.toks (Nat.le_refl _)
  · rw [if_neg hc] at hq ⊢
    exact ⟨fits_replaced y (by omega), hq _ _ (by first | exact Nat.le_succ _ | exact Nat.le_refl _ | omega)⟩
end
end
section
open PySem PySem.W PyProof.Rows PySem.Calls PySem.Spec
abbrev lamQual : Str := Str.ofString "_translate" ++ Str.ofString ".<locals>." ++ Str.ofString "<lambda>"
def OcOk (oc : Obj) : Prop := ∃ vs tq, oc.data = .fields vs ∧ vs[1]? = some (.str lamQual tq)
/-- the place table of _translate: ahead of the first turn, behind the generator of the first turn, behind the lambda -/
def TabOk (tab : Array Value) (rest : List (Addr × Obj)) : Prop := tab = #[] ∨ ∃ cg cl oc, tab = tab2 cg cl ∧ (cl, oc) ∈ rest ∧ OcOk oc
def TabMid (tab : Array Value) (rest : List (Addr × Obj)) : Prop := ∃ cg, tab = tab1 cg ∨ ∃ cl oc, tab = tab2 cg cl ∧ (cl, oc) ∈ rest ∧ OcOk oc
theorem triples_tab1 (cg : Addr) : TriplesOk (tab1 cg).toList := by
  first | exact ⟨⟨_, rfl⟩, trivial⟩ | (unfold TriplesOk; trivial) | (simp [TriplesOk])
theorem triples_tab2 (cg cl : Addr) : TriplesOk (tab2 cg cl).toList := by
  first | exact ⟨⟨_, rfl⟩, ⟨_, rfl⟩, trivial⟩ | (unfold TriplesOk; trivial) | (simp [TriplesOk])
theorem triples_nil : TriplesOk (#[] : Array Value).toList := by
  first | trivial | simp [TriplesOk]
theorem tabOk_triples {tab : Array Value} {rest : List (Addr × Obj)} (h : TabOk tab rest) : TriplesOk tab.toList := by
  rcases h with rfl | ⟨cg, cl, oc, rfl, _⟩
  · exact triples_nil
  · exact triples_tab2 _ _
theorem tabRel_mid {l1 l2 l3 : Nat} {tab tab' : Array Value} {rest : List (Addr × Obj)} (h : TabOk tab rest) (r : TabRel ⟨57, 37, l2, l3⟩ tab tab') : TabMid tab' rest := by
  rcases h with rfl | ⟨cg, cl, oc, rfl, h1, h2⟩
  · rcases r with ⟨rfl, h⟩ | ⟨_, c', rfl⟩
    · exact absurd h Bool.false_ne_true
    · exact ⟨c', .inl rfl⟩
  · rcases r with ⟨rfl, h⟩ | ⟨h, c', rfl⟩
    · exact ⟨cg, .inr ⟨cl, oc, rfl, h1, h2⟩⟩
    · exact absurd h (by simp [codeAmong, rawInt])
section
variable {prog : Program} {w : World} {A : Around} {E : Value → Shared → Prop} {s : Shared} {h₀ : Heap} {L a : Addr} {m mg mb : Str → Option Value} {cs : Scope}
  {p : Program} {loose : List Str} {mean : ExcName → Option Value}
theorem lam_J {params : Arguments} {body : PySem.Expr} {scope : Scope} {l2 l3 : Nat} {tab : Array Value} {rest : List (Addr × Obj)} {Q : Value → Shared → Prop} (F : Fr h₀ L s.heap m) (N : News h₀ L s.heap ((50, tabObj tab) :: rest)) (hrest : ∀ x ∈ rest, x.1 ≠ 50) (hT : TabMid tab rest)
    (T : Top p loose mean mg mb h₀) (C : CodeHd h₀ 54 50) (hdef : defaultsOf params (envOf (Str.ofString "_translate") cs L a (.ref 54)) = ([], [])) (hcl : closureFor scope (envOf (Str.ofString "_translate") cs L a (.ref 54)) = pure [])
    (h : ∀ f cg c' oc ctv h' tk, Fr h₀ L h' m → News h₀ L h' ((f, kla_obj "<lambda>" lamQual params body scope [] ((mg "__name__").getD .none) c' ctv) :: (c', oc) :: (50, tabObj (tab2 cg c')) :: rest) → OcOk oc → c' ≠ 50 → (∀ x ∈ rest, x.1 < f) → c' < f → Q (.ref f) { s with heap := h', toks := tk }) :
    wpAny (model prog w) A (eval (.Lambda params body scope ⟨58, 39, l2, l3⟩) (envOf (Str.ofString "_translate") cs L a (.ref 54))) Q E s := by
  refine kla_eval hdef ?_
  obtain ⟨cg, rfl | ⟨c', oc, rfl, hmem, hoc⟩⟩ := hT
  · refine kla_nest (c := 54) (P := 50) (ps := tab1 cg) (g := fun o => (50, o) :: rest) (clos := []) F N T C rfl (.head hrest) (triples_tab1 _) rfl hcl fun f c' oc vs t ctv h' tk F' N' d1 d2 l1 l2 => ?_
    exact h f cg c' oc ctv h' tk F' N' ⟨vs, t, d1, d2⟩ (Nat.ne_of_gt (l1 _ (.head _))) (fun x hx => Nat.lt_trans (l1 x (.tail _ hx)) l2) l2
  · refine kla_hit (c := 54) (P := 50) (ps := tab2 cg c') (c' := c') (clos := []) F N T C rfl (.head _) (triples_tab2 _ _) rfl hcl fun f ctv h' tk F' N' l1 => ?_
    refine h f cg c' oc ctv h' tk F' (fun x hx => ?_) hoc (hrest _ hmem) (fun x hx => l1 x (.tail _ hx)) (l1 _ (.tail _ hmem))
    rcases List.mem_cons.mp hx with rfl | hx
    · exact N' _ (.head _)
    · rcases List.mem_cons.mp hx with rfl | hx
      · exact N' _ (.tail _ (.tail _ hmem))
      · exact N' _ (.tail _ hx)
end
end
section
open PySem PySem.W PyProof.Rows PySem.Calls PySem.Spec
def trSub : Stmt := (trTail[0]?).getD default
def trRest : List Stmt := trTail.drop 1
section
variable {prog : Program} {w : World} {A : Around} {E : Value → Shared → Prop} {s : Shared} {h₀ : Heap} {L : Addr} {m : Str → Option Value} {all rest : List (Addr × Obj)}
theorem news_sub {h₀ h : Heap} {L : Addr} {all news : List (Addr × Obj)} (N : News h₀ L h all) (hs : ∀ p ∈ news, p ∈ all) : News h₀ L h news := fun p hp => N p (hs p hp)
theorem news_cons {h₀ h : Heap} {L : Addr} {news : List (Addr × Obj)} {x : Addr × Obj} (hx : x ∈ news) (N : News h₀ L h news) : News h₀ L h (x :: news) := fun q hq => by
  rcases List.mem_cons.mp hq with rfl | hq
  · exact N _ hx
  · exact N _ hq
abbrev qr (q r : Addr) (la : List (Str × Tok)) (e : Nat) (rest : List (Addr × Obj)) : List (Addr × Obj) := (q, boundObj r) :: (r, W.listOf (outsVal la) e) :: rest
theorem add_one {q r : Addr} {la : List (Str × Tok)} {e : Nat} {x : Str} {t : Tok} {Q : Value → Shared → Prop} (F : Fr h₀ L s.heap m) (N : News h₀ L s.heap all) (hsub : ∀ p ∈ qr q r la e rest, p ∈ all) (hqr : @Ne Nat q r) (hr : ∀ x ∈ rest, x.1 ≠ r) (hla : la.length ≤ 1000)
    (h : ∀ h', Fr h₀ L h' m → News h₀ L h' (qr q r (la ++ [(x, t)]) (e + 1) rest) → Q .none { s with heap := h' }) : wpAny (model prog w) A (call (.ref q) [.str x t]) Q E s := by
  have N1 := news_sub N hsub
  refine call_boundN F N1 (.head _) (.tail hqr (.head hr)) (by have := outsVal_size la; rw [sizeLine_eq]; omega) fun h' F' N' => ?_
  rw [outsVal_push] at N'
  exact h h' F' N'
end
theorem escAmp_length_le (u : List Nat) : (escAmp u).length ≤ 2 * u.length := by
  induction u with
  | nil => exact Nat.le_refl _
  | cons k r ih =>
    have e2 : escAmp (k :: r) = (if amp k then [92, k] else [k]) ++ escAmp r := rfl
    rw [e2, List.length_append, List.length_cons]
    have : (if amp k = true then [92, k] else [k]).length ≤ 2 := by split <;> simp
    omega
theorem escAmp_ok {u : List Nat} (h : ∀ c ∈ u, c ≠ 33) : ∀ c ∈ escAmp u, c ≠ 33 := by
  intro c hc
  obtain ⟨k, hk, hc⟩ := List.mem_flatMap.mp hc
  have := h k hk
  by_cases ha : amp k = true
  · rw [if_pos ha] at hc; simp at hc; rcases hc with rfl | rfl
    · decide
    · exact this
  · rw [if_neg ha] at hc; simp at hc; subst hc; exact this
def outL (u : List Nat) : List Nat := if u = [] then [40, 63, 33, 41] else 91 :: (frontEsc u ++ [93])
end
section
open PySem PySem.W PyProof.Rows PySem.Calls PySem.Spec
variable {w : World} {p : Program} {loose : List Str} {mean : ExcName → Option Value} {mg mb : Str → Option Value}
def trIf1 : Stmt := (trElse[1]?).getD default
theorem escAmp_escA (l : List Nat) : escAmp l = escA l := by
  unfold escAmp escA
  congr 1
theorem glue_kept (ps : Pairs) : glue ((merged [] ps).map esc) = (kept ps).flatMap rng := by
  rw [merged_chunks, glue_chunks]; rfl
theorem esc1_ok {c k : Nat} (h : c ≠ 33) (hk : k ∈ esc1 c) : k ≠ 33 := by
  unfold esc1 at hk
  split at hk
  · simp at hk; omega
  · split at hk
    · simp at hk; omega
    · simp at hk; omega
theorem esc1_len (c : Nat) : (esc1 c).length ≤ 2 := by unfold esc1; split <;> (try split) <;> simp
theorem glue_ok {ps : Pairs} (h : ∀ q ∈ ps, okPair q) : ∀ c ∈ glue ((merged [] ps).map esc), c ≠ 33 := by
  rw [glue_kept]
  intro c hc
  obtain ⟨q, hq, hc⟩ := List.mem_flatMap.mp hc
  have hq' := h q (List.mem_filter.mp hq).1
  unfold rng at hc
  rcases List.mem_append.mp hc with hc | hc
  · exact esc1_ok hq'.1.1 hc
  · rcases List.mem_cons.mp hc with rfl | hc
    · decide
    · exact esc1_ok hq'.2.1 hc
theorem glue_len (ps : Pairs) : (glue ((merged [] ps).map esc)).length ≤ 5 * ps.length := by
  rw [glue_kept]
  have h1 : (kept ps).length ≤ ps.length := List.length_filter_le _ _
  have h2 : ∀ K : Pairs, (K.flatMap rng).length ≤ 5 * K.length := by
    intro K
    induction K with
    | nil => simp
    | cons q r ih =>
      rw [List.flatMap_cons, List.length_append, List.length_cons]
      have := esc1_len q.1; have := esc1_len q.2
      unfold rng at *
      simp only [List.length_append, List.length_cons] at *; omega
  have := h2 (kept ps)
  omega
theorem outL_out (ps : Pairs) : outL (escAmp (glue ((merged [] ps).map esc))) = out ps := by
  rw [escAmp_escA]; rfl
theorem hyphen_in (q : Nat × Nat) (qs : Pairs) : (Builtin.Str.occurrences (S (cont (q :: qs))) (Str.ofString "-") 0 (S (cont (q :: qs))).length 1).isEmpty = false := by
  rw [show Str.ofString "-" = (⟨#[45]⟩ : Str) from by decide +kernel]
  have := StrLaws.found_one (S (cont (q :: qs))) 45
  rw [decide_eq_true (by rw [cont_cons]; simp)] at this
  simpa using this
end
section
open PySem PySem.W PyProof.Rows PySem.Calls PySem.Spec
def TurnK (h₀ : Heap) (L I : Addr) (o : Obj) (J : (Str → Option Value) → List (Addr × Obj) → Prop) (s : Shared) (Q : Flow → Shared → Prop) (f : Flow) (s' : Shared) : Prop :=
  match f with
  | .ret v => Q (.ret v) s'
  | .brk => Q .next s'
  | _ => ∃ m' news' h' tk', s' = { s with heap := h', toks := tk' } ∧ Fr h₀ L h' m' ∧ News h₀ L h' ((I, o) :: news') ∧ Off I news' ∧ J m' news'
def ForK (prog : Program) (w : World) (A : Around) (h₀ : Heap) (env : Env) (target : Expr) (body : List Stmt) (s : Shared) (Q : Flow → Shared → Prop) (E : Value → Shared → Prop) (it : Value) (s₂ : Shared) : Prop :=
  ∃ (I : Addr) (It : Nat → Obj → Prop) (n : Nat) (P : Nat → Value → Prop) (K : List (Addr × Obj) → Prop) (m : Str → Option Value) (news : List (Addr × Obj)) (o : Obj) (J : Nat → (Str → Option Value) → List (Addr × Obj) → Prop) (h : Heap) (tk : Nat),
    it = .ref I ∧ s₂ = { s with heap := h, toks := tk } ∧ IterOk prog w A h₀ env.locals I It n P K ∧ It 0 o ∧ Off I news ∧ Fr h₀ env.locals h m ∧ News h₀ env.locals h ((I, o) :: news) ∧ J 0 m news ∧ (∀ i m news, J i m news → K news) ∧
    (∀ i v m₁ news₁ h₁ tk₁ o₁, i < n → P i v → It (i + 1) o₁ → J i m₁ news₁ → Off I news₁ → Fr h₀ env.locals h₁ m₁ → News h₀ env.locals h₁ ((I, o₁) :: news₁) →
      wpAny (model prog w) A (assign target env v) (fun _ s₃ => wpAny (model prog w) A (execs body env) (TurnK h₀ env.locals I o₁ (J (i + 1)) s Q) E s₃) E { s with heap := h₁, toks := tk₁ }) ∧
    ∀ h' tk' m' news', Fr h₀ env.locals h' m' → News h₀ env.locals h' news' → J n m' news' → Q .next { s with heap := h', toks := tk' }
section
variable {prog : Program} {w : World} {A : Around} {E : Value → Shared → Prop} {s : Shared} {env : Env} {h₀ : Heap} {Q : Flow → Shared → Prop}
theorem For_K {m : Str → Option Value} {target iter : Expr} {body : List Stmt} {pos : Pos} (F : Fr h₀ env.locals s.heap m) (hE : PassesOwn (model prog w) A env E)
    (h : wpAny (model prog w) A (eval iter env) (fun xv s₁ => wpAny (model prog w) A (pyIter xv) (fun it s₂ => ForK prog w A h₀ env target body s Q E it s₂) E s₁) E s)
    (hs : ∀ x, foldedSetIterable iter env x = pure x := by intro _; rfl) :
    wpAny (model prog w) A (exec (.For target iter body [] pos) env) Q E s := by
  refine wpAny_For (wpAny_mono h (fun xv s₁ h₁ => wpAny_mono h₁ (fun it s₂ h₂ => ?_) fun _ _ e => e) fun _ _ e => e) hs
  obtain ⟨I, It, n, P, K, m, news, o, J, hh, tk, rfl, rfl, W, hI, hoff, F, N, h0, hK, step, hR⟩ := h₂
  refine codeAny_forLoop_any (R := fun r s' => match r with | .ok f => Q f s' | .error e => cameBackBy (model prog w) A env E e s')
    (fun k s' => ∃ m' news' o' i h' tk', s' = { s with heap := h', toks := tk' } ∧ Fr h₀ env.locals h' m' ∧ News h₀ env.locals h' ((I, o') :: news') ∧ It i o' ∧ Off I news' ∧ J i m' news' ∧ i ≤ n ∧ k = n + 1 - i) ?_ (n + 1)
    ⟨m, news, o, 0, hh, tk, rfl, F, N, hI, hoff, h0, Nat.zero_le _, rfl⟩
  rintro k s' ⟨m', news', o', i, h', tk', rfl, F', N', hI', hoff', hJ, hi, rfl⟩
  by_cases hlt : i < n
  · refine W.item i _ _ _ _ _ _ hlt hI' (hK _ _ _ hJ) hoff' F' N' fun v o₁ h₁ tk₁ hP hI₁ F₁ N₁ => ?_
    refine W.go _ _ _ _ _ _ _ hI₁ (N₁ _ (.head _)).1 ?_
    refine wpAny_passesOwn hE (wpAny_mono (step i v m' news' h₁ tk₁ o₁ hlt hP hI₁ hJ hoff' F₁ N₁) (fun _ s₂ h₂ => wpAny_passesOwn hE (wpAny_mono h₂ (fun f s₃ h₃ => ?_) fun _ _ e => e)) fun _ _ e => e)
    cases f with
    | next => obtain ⟨m', news', h₃, tk₃, rfl, F', N', ho, hj⟩ := h₃; exact ⟨n + 1 - (i + 1), by omega, m', news', o₁, i + 1, h₃, tk₃, rfl, F', N', hI₁, ho, hj, hlt, rfl⟩
    | cont => obtain ⟨m', news', h₃, tk₃, rfl, F', N', ho, hj⟩ := h₃; exact ⟨n + 1 - (i + 1), by omega, m', news', o₁, i + 1, h₃, tk₃, rfl, F', N', hI₁, ho, hj, hlt, rfl⟩
    | brk => exact h₃
    | ret v => exact h₃
  · have hin : i = n := by omega
    subst hin
    refine W.done _ _ _ _ _ _ hI' (hK _ _ _ hJ) hoff' F' N' fun h₁ tk₁ F₁ N₁ => wpAny_execs_nil ?_
    exact hR _ _ m' news' F₁ N₁ hJ
end
section
variable {prog : Program} {w : World} {A : Around} {E : Value → Shared → Prop} {s₀ : Shared} {hp : Heap} {tkp : Nat} {env : Env} {h₀ : Heap} {Q : Flow → Shared → Prop} {m : Str → Option Value} {news : List (Addr × Obj)}
theorem forK_range {target : Expr} {body : List Stmt} {r : Addr} {a b c : Int} {t u v : Tok} {n : Nat} (hh : A.handled = none) (hr : IsRange hp r a b c t u v) (hsm : Builtin.Range.small a b c = true) (hn : Builtin.Range.rangeSize a b c = (n : Int))
    (J : Nat → (Str → Option Value) → List (Addr × Obj) → Prop) (F : Fr h₀ env.locals hp m) (N : News h₀ env.locals hp news) (h0 : J 0 m news)
    (step : ∀ I i v m₁ news₁ h₁ tk₁ o₁, i < n → (∃ t, v = .int (a + i * c) t) → J i m₁ news₁ → Off I news₁ → Fr h₀ env.locals h₁ m₁ → News h₀ env.locals h₁ ((I, o₁) :: news₁) →
      wpAny (model prog w) A (assign target env v) (fun _ s₃ => wpAny (model prog w) A (execs body env) (TurnK h₀ env.locals I o₁ (J (i + 1)) s₀ Q) E s₃) E { s₀ with heap := h₁, toks := tk₁ })
    (exit : ∀ h' tk' m' news', Fr h₀ env.locals h' m' → News h₀ env.locals h' news' → J n m' news' → Q .next { s₀ with heap := h', toks := tk' }) :
    wpAny (model prog w) A (pyIter (.ref r)) (fun it s₂ => ForK prog w A h₀ env target body s₀ Q E it s₂) E { s₀ with heap := hp, toks := tkp } := by
  refine wpAny_pyIter_range (s := { s₀ with heap := hp, toks := tkp }) hr hsm ?_
  refine ⟨hp.objs.size, ItRange a c n, n, _, _, m, news, _, J, _, _, rfl, rfl, IterOk.range hh _ a c n, ?_, ?_, F.push _, N.push F _, h0, fun _ _ _ _ => trivial, ?_, exit⟩
  · show _ = _
    rw [hn]; simp
  · exact fun p hp => Nat.ne_of_lt (Heap.lt_size (N p hp).1)
  · intro i v m₁ news₁ h₁ tk₁ o₁ hi hP _ hJ hoff F' N'
    exact step _ i v m₁ news₁ h₁ tk₁ o₁ hi hP hJ hoff F' N'
theorem forK_list {target : Expr} {body : List Stmt} {l : Addr} {items : Array Value} {e : Nat} (hh : A.handled = none)
    (J : Nat → (Str → Option Value) → List (Addr × Obj) → Prop) (F : Fr h₀ env.locals hp m) (N : News h₀ env.locals hp news) (hl : (l, W.listOf items e) ∈ news) (hJl : ∀ i m news, J i m news → (l, W.listOf items e) ∈ news) (h0 : J 0 m news)
    (step : ∀ I i v m₁ news₁ h₁ tk₁ o₁, i < items.size → items[i]? = some v → J i m₁ news₁ → Off I news₁ → Fr h₀ env.locals h₁ m₁ → News h₀ env.locals h₁ ((I, o₁) :: news₁) →
      wpAny (model prog w) A (assign target env v) (fun _ s₃ => wpAny (model prog w) A (execs body env) (TurnK h₀ env.locals I o₁ (J (i + 1)) s₀ Q) E s₃) E { s₀ with heap := h₁, toks := tk₁ })
    (exit : ∀ h' tk' m' news', Fr h₀ env.locals h' m' → News h₀ env.locals h' news' → J items.size m' news' → Q .next { s₀ with heap := h', toks := tk' }) :
    wpAny (model prog w) A (pyIter (.ref l)) (fun it s₂ => ForK prog w A h₀ env target body s₀ Q E it s₂) E { s₀ with heap := hp, toks := tkp } := by
  have hls : hp.IsList l items := ⟨_, (N _ hl).1, rfl, _, rfl⟩
  refine wpAny_pyIter_list (s := { s₀ with heap := hp, toks := tkp }) hls ?_
  refine ⟨hp.objs.size, ItList l, items.size, _, _, m, news, _, J, _, _, rfl, rfl, IterOk.list hh _ l items e, ⟨rfl, rfl⟩, ?_, F.push _, N.push F _, h0, hJl, ?_, exit⟩
  · exact fun p hp => Nat.ne_of_lt (Heap.lt_size (N p hp).1)
  · intro i v m₁ news₁ h₁ tk₁ o₁ hi hP _ hJ hoff F' N'
    exact step _ i v m₁ news₁ h₁ tk₁ o₁ hi hP hJ hoff F' N'
end
theorem size_up {a : Int} {n : Nat} (h : a = (n : Int)) : Builtin.Range.rangeSize 0 a 1 = (n : Int) := by
  subst h
  unfold Builtin.Range.rangeSize
  rw [if_pos (by decide)]
  split
  · simp
  · omega
theorem small_up {a : Int} (h : 0 ≤ a ∧ a ≤ 1000) : Builtin.Range.small 0 a 1 = true := by
  obtain ⟨h0, h1⟩ := h
  have hf : ∀ x : Int, -2 ≤ x → x ≤ 2000 → Builtin.Range.rangeFitsLong x = true := fun x h2 h3 => by
    unfold Builtin.Range.rangeFitsLong
    simp
    omega
  have hs : Builtin.Range.rangeSize 0 a 1 = a := by
    have := size_up (a := a) (n := a.toNat) (by omega)
    omega
  unfold Builtin.Range.small
  rw [hs]
  simp [hf a (by omega) (by omega), hf 0 (by omega) (by omega), hf 1 (by omega) (by omega), hf (a + 1) (by omega) (by omega), hf (a - 1) (by omega) (by omega), h0, h1]
  try omega
end
section
open PySem PySem.W PyProof.Rows PySem.Calls PySem.Spec
section
variable {prog : Program} {w : World} {A : Around} {E : Value → Shared → Prop} {s : Shared}
abbrev zipObj (I : Addr) (f0 : Value) (f1 : Bool) : Obj := { cls := .type "zip", dict := none, data := .fields #[f0, .bool f1, .bool false, .ref (I + 2), .ref (I + 3)], slots := #[] }
abbrev prObj (a b : Value) : Obj := { cls := .type "tuple", data := .seq #[a, b] }
def SI (h : Heap) (I : Addr) (x : Str) (t : Tok) (i : Nat) : Prop := h.IsStrIter I (strIterType x) x t i
theorem SI.bump {h h' : Heap} {I b : Addr} {x : Str} {t : Tok} {i : Nat} (y : SI h I x t i) (hs : Heap.ExtBut b h h') (hab : @Ne Nat I b) : SI h' I x t i := Heap.IsStrIter.extBut y hs hab
theorem SI.keep {h h' : Heap} {I : Addr} {x : Str} {t : Tok} {i : Nat} (y : SI h I x t i) (hs : ∀ o, h.get? I = some o → h'.get? I = some o) : SI h' I x t i := let ⟨o, e, r⟩ := y; ⟨o, hs o e, r⟩
theorem SI.lt {h : Heap} {I : Addr} {x : Str} {t : Tok} {i : Nat} (y : SI h I x t i) : @LT.lt Nat _ I h.objs.size := let ⟨_, e, _⟩ := y; Heap.lt_size e
theorem nextSI_item {I : Addr} {x : Str} {t : Tok} {i c : Nat} {Q : Value → Shared → Prop} (hit : SI s.heap I x t i) (hx : x.cps[i]? = some c)
    (hQ : ∀ u h', SI h' I x t (i + 1) → Heap.SameBut I s.heap h' → Q (.str ⟨#[c]⟩ u) { s with heap := h', toks := s.toks + 1 }) : wpAny (model prog w) A (Builtin.SmallTypes.nextOf (.ref I)) Q E s := by
  unfold SI strIterType at hit hQ
  cases ha : x.cps.all (· < 128)
  · rw [ha] at hit hQ
    exact wpAny_nextOf_wide_item hit hx fun h' h1 h2 => hQ _ h' h1 h2
  · rw [ha] at hit hQ
    exact wpAny_nextOf_ascii_item hit hx fun h' h1 h2 => hQ _ h' h1 h2
theorem nextSI_end {I : Addr} {x : Str} {t : Tok} {i : Nat} {Q : Value → Shared → Prop} (hh : A.handled = none) (hit : SI s.heap I x t i) (hx : x.cps[i]? = none)
    (hE : ∀ h' e, Heap.ExtBut I s.heap h' → (∃ o, h'.get? e = some o ∧ o.cls = .type "StopIteration") → E (.ref e) { s with heap := h' }) : wpAny (model prog w) A (Builtin.SmallTypes.nextOf (.ref I)) Q E s := by
  unfold SI strIterType at hit
  cases ha : x.cps.all (· < 128)
  · rw [ha] at hit
    exact wpAny_nextOf_wide_end hh hit hx hE
  · rw [ha] at hit
    exact wpAny_nextOf_ascii_end hh hit hx hE
structure ZOk (h : Heap) (I : Addr) (x : Str) (tx : Tok) (y : Str) (ty : Tok) (j : Nat) (f0 : Value) (f1 : Bool) : Prop where
  z : h.get? (I + 4) = some (zipObj I f0 f1)
  ti : h.get? (I + 2) = some (prObj (.ref I) (.ref (I + 1)))
  to : ∃ a b, h.get? (I + 3) = some (prObj a b)
  a : SI h I x tx j
  b : SI h (I + 1) y ty j
theorem up_pair {T : Addr} {a b x : Value} {k : Nat} {Q : Unit → Shared → Prop} (hT : s.heap.get? T = some (prObj a b))
    (h : ∀ h', h'.get? T = some { cls := .type "tuple", data := .seq ((#[a, b] : Array Value).setIfInBounds k x) } → Heap.SameBut T s.heap h' → Q () { s with heap := h' }) :
    wpAny (model prog w) A (updateSeq T (·.setIfInBounds k x)) Q E s := wpAny_updateSeq_pair hT h
theorem a1 {I : Nat} : @Ne Nat (I + 4) I := by omega
def ZKeep (I : Addr) (h h' : Heap) : Prop := ∀ (c : Nat) o, (c < I ∨ @LT.lt Nat _ (I + 4) c) → h.get? c = some o → h'.get? c = some o
theorem zip_item_free {I : Addr} {x y : Str} {tx ty : Tok} {j c d : Nat} {Q : Value → Shared → Prop} (Z : ZOk s.heap I x tx y ty j .none false) (hx : x.cps[j]? = some c) (hy : y.cps[j]? = some d)
    (hQ : ∀ h' tk ta tb, ZOk h' I x tx y ty (j + 1) (rawInt s.heap.objs.size) false → h'.get? s.heap.objs.size = some (prObj (.str ⟨#[c]⟩ ta) (.str ⟨#[d]⟩ tb)) → ZKeep I s.heap h' → h'.objs.size = s.heap.objs.size + 1 → Q (.ref s.heap.objs.size) { s with heap := h', toks := tk }) :
    wpAny (model prog w) A (Builtin.«zip.__next__» ⟨[.ref (I + 4)], []⟩) (fun fin s' => ∃ v, fin = .done (.ret v) ∧ Q v s') E s := by
  obtain ⟨hz, hTI, ⟨a, b, hTO⟩, h1, h2⟩ := Z
  have hzl : @LT.lt Nat _ (I + 4) s.heap.objs.size := Heap.lt_size hz
  show wpAny _ _ (field (.ref (I + 4)) 2 >>= _) _ _ _
  refine wpAny_bind (wpAny_field hz rfl (x := .bool false) rfl ?_)
  show wpAny _ _ (field (.ref (I + 4)) 3 >>= _) _ _ _
  refine wpAny_bind (wpAny_field hz rfl (x := .ref (I + 2)) rfl ?_)
  refine wpAny_bind (wpAny_seqItems hTI rfl ?_)
  show wpAny _ _ (Builtin.SmallTypes.ownedTupleIsFree (.ref (I + 4)) >>= _) _ _ _
  refine wpAny_bind ?_
  unfold Builtin.SmallTypes.ownedTupleIsFree
  refine wpAny_bind (wpAny_field hz rfl (x := .none) rfl (wpAny_pure ?_))
  simp only [if_true]
  refine wpAny_bind (wpAny_rule ?_)
  refine wpAny_bind (wpAny_field hz rfl (x := .ref (I + 3)) rfl ?_)
  refine wpAny_bind (wpAny_setField_rec hz (by simp) fun k1 hz1 s1 => ?_)
  replace hz1 : k1.get? (I + 4) = some (zipObj I .ellipsis false) := hz1
  refine wpAny_bind ?_
  simp only [List.zipIdx_cons, List.zipIdx_nil, List.forIn_cons, List.forIn_nil]
  refine wpAny_bind (wpAny_bind (wpAny_onRaise ?_))
  show wpAny _ _ (Builtin.SmallTypes.nextOf (.ref I) >>= _) _ _ _
  refine wpAny_bind (nextSI_item (h1.bump s1.extBut (by omega)) hx fun ua k2 h12 s2 => wpAny_pure ?_)
  have hTO2 : k2.get? (I + 3) = some (prObj a b) := s2.extBut _ _ (by show @Ne Nat _ _; omega) (s1.extBut _ _ (by show @Ne Nat _ _; omega) hTO)
  refine wpAny_bind (wpAny_seqItems hTO2 rfl ?_)
  refine wpAny_bind (up_pair hTO2 fun k3 hTO3 s3 => ?_)
  replace hTO3 : k3.get? (I + 3) = some (prObj (.str ⟨#[c]⟩ ua) b) := hTO3
  refine wpAny_bind (wpAny_letGo (wpAny_pure ?_))
  refine wpAny_bind (wpAny_bind (wpAny_onRaise ?_))
  show wpAny _ _ (Builtin.SmallTypes.nextOf (.ref (I + 1)) >>= _) _ _ _
  refine wpAny_bind (nextSI_item (((h2.bump s1.extBut (by omega)).bump s2.extBut (by omega)).bump s3.extBut (by omega)) hy fun ub k4 h24 s4 => wpAny_pure ?_)
  have hTO4 : k4.get? (I + 3) = some (prObj (.str ⟨#[c]⟩ ua) b) := s4.extBut _ _ (by show @Ne Nat _ _; omega) hTO3
  refine wpAny_bind (wpAny_seqItems hTO4 rfl ?_)
  refine wpAny_bind (up_pair hTO4 fun k5 hTO5 s5 => ?_)
  replace hTO5 : k5.get? (I + 3) = some (prObj (.str ⟨#[c]⟩ ua) (.str ⟨#[d]⟩ ub)) := hTO5
  refine wpAny_bind (wpAny_letGo (wpAny_pure (wpAny_pure ?_)))
  refine wpAny_bind (wpAny_seqItems hTO5 rfl ?_)
  refine wpAny_bind (wpAny_newTuple ?_)
  have hsz : k5.objs.size = s.heap.objs.size := by rw [s5.1, s4.1, s3.1, s2.1, s1.1]
  have kp : ∀ (q : Nat) o, q ≠ I + 4 → q ≠ I + 3 → q ≠ I → q ≠ I + 1 → s.heap.get? q = some o → k5.get? q = some o := fun q o c1 c2 c3 c4 e =>
    s5.extBut _ _ c2 (s4.extBut _ _ c4 (s3.extBut _ _ c2 (s2.extBut _ _ c3 (s1.extBut _ _ c1 e))))
  have hz5 : k5.get? (I + 4) = some (zipObj I .ellipsis false) := s5.extBut _ _ (by show @Ne Nat _ _; omega) (s4.extBut _ _ (by show @Ne Nat _ _; omega) (s3.extBut _ _ (by show @Ne Nat _ _; omega) (s2.extBut _ _ (by show @Ne Nat _ _; omega) hz1)))
  have h15 : SI k5 I x tx (j + 1) := ((h12.bump s3.extBut (by omega)).bump s4.extBut (by omega)).bump s5.extBut (by omega)
  have h25 : SI k5 (I + 1) y ty (j + 1) := h24.bump s5.extBut (by omega)
  show wpAny _ _ (Builtin.SmallTypes.ownedTupleHandOut (.ref (I + 4)) (.ref k5.objs.size) >>= _) _ _ _
  refine wpAny_bind ?_
  unfold Builtin.SmallTypes.ownedTupleHandOut
  have hz6 : (k5.push (prObj (.str ⟨#[c]⟩ ua) (.str ⟨#[d]⟩ ub))).get? (I + 4) = some (zipObj I .ellipsis false) := Heap.get?_push_of_some _ hz5
  refine wpAny_bind (wpAny_setField_rec hz6 (by simp) fun k7 hz7 s7 => ?_)
  replace hz7 : k7.get? (I + 4) = some (zipObj I (rawInt k5.objs.size) false) := hz7
  refine wpAny_setField_rec hz7 (by simp) fun k8 hz8 s8 => ?_
  replace hz8 : k8.get? (I + 4) = some (zipObj I (rawInt k5.objs.size) false) := hz8
  have up : ∀ (q : Nat) o, q ≠ I + 4 → k5.get? q = some o → k8.get? q = some o := fun q o c1 e => s8.extBut _ _ c1 (s7.extBut _ _ c1 (Heap.get?_push_of_some _ e))
  have hT8 : k8.get? k5.objs.size = some (prObj (.str ⟨#[c]⟩ ua) (.str ⟨#[d]⟩ ub)) := s8.extBut _ _ (by show @Ne Nat _ _; omega) (s7.extBut _ _ (by show @Ne Nat _ _; omega) (Heap.get?_push_size _ rfl))
  have hz8' : k8.objs.size = k5.objs.size + 1 := by rw [s8.1, s7.1, Heap.size_push]
  rw [hsz] at hz8 hT8 hz8'
  refine wpAny_pure ⟨_, rfl, ?_⟩
  show Q (.ref k5.objs.size) _
  rw [hsz]
  exact hQ k8 _ _ _ ⟨hz8, up _ _ (by omega) (kp _ _ (by omega) (by omega) (by omega) (by omega) hTI), ⟨_, _, up _ _ (by omega) hTO5⟩, h15.keep fun o e => up _ o (by omega) e, h25.keep fun o e => up _ o (by omega) e⟩ hT8
    (fun q o hq e => up _ _ (by omega) (kp _ _ (by omega) (by omega) (by omega) (by omega) e)) hz8'
end
end
section
open PySem PySem.W PyProof.Rows PySem.Calls PySem.Spec
section
variable {prog : Program} {w : World} {A : Around} {E : Value → Shared → Prop} {s : Shared}
theorem own_busy {I T0 : Addr} {f1 : Bool} {o0 : Obj} {Q : Bool → Shared → Prop} (hz : s.heap.get? (I + 4) = some (zipObj I (rawInt T0) f1)) (h0 : s.heap.get? T0 = some o0)
    (hQ : ∀ h', h'.get? (I + 4) = some (zipObj I (rawInt T0) true) → Heap.SameBut (I + 4) s.heap h' → Q false { s with heap := h' }) :
    wpAny (model prog w) A (Builtin.SmallTypes.ownedTupleIsFree (.ref (I + 4))) Q E s := by
  unfold Builtin.SmallTypes.ownedTupleIsFree
  refine wpAny_bind (wpAny_field hz rfl (x := rawInt T0) rfl ?_)
  show wpAny _ _ (loadIfAlive ((T0 : Int).toNat) >>= _) _ _ _
  rw [show ((T0 : Int).toNat) = T0 from Int.toNat_natCast T0]
  refine wpAny_bind (kdx_alive h0 ?_)
  simp only [Option.isNone_some, Bool.false_eq_true, if_false]
  refine wpAny_bind (wpAny_field hz rfl (x := .bool f1) rfl ?_)
  cases f1 with
  | true =>
    refine wpAny_ite_false (by simp) ?_
    exact wpAny_pure (hQ _ hz (Heap.SameBut.refl ..))
  | false =>
    refine wpAny_ite_true (by simp) ?_
    refine wpAny_bind (wpAny_setField_rec hz (by simp) fun k1 hz1 s1 => ?_)
    exact wpAny_pure (hQ k1 hz1 s1)
theorem zip_item_busy {I T0 : Addr} {f1 : Bool} {o0 : Obj} {x y : Str} {tx ty : Tok} {j c d : Nat} {Q : Value → Shared → Prop} (Z : ZOk s.heap I x tx y ty j (rawInt T0) f1) (h0 : s.heap.get? T0 = some o0) (hx : x.cps[j]? = some c) (hy : y.cps[j]? = some d)
    (hQ : ∀ h' tk ta tb, ZOk h' I x tx y ty (j + 1) (rawInt T0) true → h'.get? s.heap.objs.size = some (prObj (.str ⟨#[c]⟩ ta) (.str ⟨#[d]⟩ tb)) → ZKeep I s.heap h' → h'.objs.size = s.heap.objs.size + 1 → Q (.ref s.heap.objs.size) { s with heap := h', toks := tk }) :
    wpAny (model prog w) A (Builtin.«zip.__next__» ⟨[.ref (I + 4)], []⟩) (fun fin s' => ∃ v, fin = .done (.ret v) ∧ Q v s') E s := by
  obtain ⟨hz, hTI, ⟨a, b, hTO⟩, h1, h2⟩ := Z
  have hzl : @LT.lt Nat _ (I + 4) s.heap.objs.size := Heap.lt_size hz
  show wpAny _ _ (field (.ref (I + 4)) 2 >>= _) _ _ _
  refine wpAny_bind (wpAny_field hz rfl (x := .bool false) rfl ?_)
  show wpAny _ _ (field (.ref (I + 4)) 3 >>= _) _ _ _
  refine wpAny_bind (wpAny_field hz rfl (x := .ref (I + 2)) rfl ?_)
  refine wpAny_bind (wpAny_seqItems hTI rfl ?_)
  show wpAny _ _ (Builtin.SmallTypes.ownedTupleIsFree (.ref (I + 4)) >>= _) _ _ _
  refine wpAny_bind (own_busy hz h0 fun k1 hz1 s1 => ?_)
  simp only [Bool.false_eq_true, if_false]
  refine wpAny_bind ?_
  rw [← Array.forIn_toList]
  simp only [List.forIn_cons, List.forIn_nil]
  refine wpAny_bind (wpAny_bind (wpAny_holding ?_))
  show wpAny _ _ (Builtin.SmallTypes.nextOf (.ref I) >>= _) _ _ _
  refine wpAny_bind (nextSI_item (h1.bump s1.extBut (by omega)) hx fun ua k2 h12 s2 => wpAny_pure (wpAny_pure ?_))
  refine wpAny_bind (wpAny_bind (wpAny_holding ?_))
  show wpAny _ _ (Builtin.SmallTypes.nextOf (.ref (I + 1)) >>= _) _ _ _
  refine wpAny_bind (nextSI_item ((h2.bump s1.extBut (by omega)).bump s2.extBut (by omega)) hy fun ub k3 h23 s3 => wpAny_pure (wpAny_pure (wpAny_pure ?_)))
  refine wpAny_bind (wpAny_newTuple ?_ (by rw [sizeLine_eq]; simp))
  have hsz : k3.objs.size = s.heap.objs.size := by rw [s3.1, s2.1, s1.1]
  have kp : ∀ (q : Nat) o, q ≠ I + 4 → q ≠ I → q ≠ I + 1 → s.heap.get? q = some o → k3.get? q = some o := fun q o c1 c2 c3 e =>
    s3.extBut _ _ c3 (s2.extBut _ _ c2 (s1.extBut _ _ c1 e))
  have hz3 : k3.get? (I + 4) = some (zipObj I (rawInt T0) true) := s3.extBut _ _ (by show @Ne Nat _ _; omega) (s2.extBut _ _ (by show @Ne Nat _ _; omega) hz1)
  have h13 : SI k3 I x tx (j + 1) := h12.bump s3.extBut (by omega)
  have hp : ∀ (q : Nat) o, k3.get? q = some o → (k3.push (prObj (.str ⟨#[c]⟩ ua) (.str ⟨#[d]⟩ ub))).get? q = some o := fun q o e => Heap.get?_push_of_some _ e
  have hT : (k3.push (prObj (.str ⟨#[c]⟩ ua) (.str ⟨#[d]⟩ ub))).get? k3.objs.size = some (prObj (.str ⟨#[c]⟩ ua) (.str ⟨#[d]⟩ ub)) := Heap.get?_push_size _ rfl
  refine wpAny_pure ⟨_, rfl, ?_⟩
  show Q (.ref k3.objs.size) _
  rw [hsz] at hT ⊢
  exact hQ _ _ _ _ ⟨hp _ _ hz3, hp _ _ (kp _ _ (by omega) (by omega) (by omega) hTI), ⟨_, _, hp _ _ (kp _ _ (by omega) (by omega) (by omega) hTO)⟩, h13.keep fun o e => hp _ o e, h23.keep fun o e => hp _ o e⟩ hT
    (fun q o hq e => hp _ _ (kp _ _ (by omega) (by omega) (by omega) e)) (by rw [Heap.size_push, hsz])
theorem zip_end_free {I : Addr} {x y : Str} {tx ty : Tok} {j : Nat} {Q : PySem.Fin → Shared → Prop} (hh : A.handled = none) (Z : ZOk s.heap I x tx y ty j .none false) (hend : x.cps[j]? = none ∨ y.cps[j]? = none)
    (hE : ∀ h' tk e, ZKeep I s.heap h' → (∃ o, h'.get? e = some o ∧ o.cls = .type "StopIteration") → E (.ref e) { s with heap := h', toks := tk }) :
    wpAny (model prog w) A (Builtin.«zip.__next__» ⟨[.ref (I + 4)], []⟩) Q E s := by
  obtain ⟨hz, hTI, ⟨a, b, hTO⟩, h1, h2⟩ := Z
  have hzl : @LT.lt Nat _ (I + 4) s.heap.objs.size := Heap.lt_size hz
  show wpAny _ _ (field (.ref (I + 4)) 2 >>= _) _ _ _
  refine wpAny_bind (wpAny_field hz rfl (x := .bool false) rfl ?_)
  show wpAny _ _ (field (.ref (I + 4)) 3 >>= _) _ _ _
  refine wpAny_bind (wpAny_field hz rfl (x := .ref (I + 2)) rfl ?_)
  refine wpAny_bind (wpAny_seqItems hTI rfl ?_)
  show wpAny _ _ (Builtin.SmallTypes.ownedTupleIsFree (.ref (I + 4)) >>= _) _ _ _
  refine wpAny_bind ?_
  unfold Builtin.SmallTypes.ownedTupleIsFree
  refine wpAny_bind (wpAny_field hz rfl (x := .none) rfl (wpAny_pure ?_))
  simp only [if_true]
  refine wpAny_bind (wpAny_rule ?_)
  refine wpAny_bind (wpAny_field hz rfl (x := .ref (I + 3)) rfl ?_)
  refine wpAny_bind (wpAny_setField_rec hz (by simp) fun k1 hz1 s1 => ?_)
  replace hz1 : k1.get? (I + 4) = some (zipObj I .ellipsis false) := hz1
  refine wpAny_bind ?_
  simp only [List.zipIdx_cons, List.zipIdx_nil, List.forIn_cons, List.forIn_nil]
  refine wpAny_bind (wpAny_bind (wpAny_onRaise ?_))
  show wpAny _ _ (Builtin.SmallTypes.nextOf (.ref I) >>= _) _ _ _
  cases hx : x.cps[j]? with
  | none =>
    refine wpAny_bind (nextSI_end hh (h1.bump s1.extBut (by omega)) hx fun k2 e s2 he => ?_)
    obtain ⟨oe, hoe, hce⟩ := he
    have hz2 := s2 (I + 4) _ (by show @Ne Nat _ _; omega) hz1
    have hez : e ≠ I + 4 := fun q => by subst q; rw [hz2] at hoe; cases hoe; simp at hce
    refine wpAny_setField_rec hz2 (by simp) fun k3 _ s3 => hE k3 _ e (fun c o hc q => s3.extBut _ _ (by show @Ne Nat _ _; omega) (s2 _ _ (by show @Ne Nat _ _; omega) (s1.extBut _ _ (by show @Ne Nat _ _; omega) q))) ⟨oe, s3.extBut _ _ hez hoe, hce⟩
  | some c =>
    have hy : y.cps[j]? = none := by rcases hend with h | h; rw [hx] at h; cases h; exact h
    refine wpAny_bind (nextSI_item (h1.bump s1.extBut (by omega)) hx fun ua k2 h12 s2 => wpAny_pure ?_)
    have hTO2 : k2.get? (I + 3) = some (prObj a b) := s2.extBut _ _ (by show @Ne Nat _ _; omega) (s1.extBut _ _ (by show @Ne Nat _ _; omega) hTO)
    refine wpAny_bind (wpAny_seqItems hTO2 rfl ?_)
    refine wpAny_bind (up_pair hTO2 fun k3 hTO3 s3 => ?_)
    refine wpAny_bind (wpAny_letGo (wpAny_pure ?_))
    refine wpAny_bind (wpAny_bind (wpAny_onRaise ?_))
    show wpAny _ _ (Builtin.SmallTypes.nextOf (.ref (I + 1)) >>= _) _ _ _
    refine wpAny_bind (nextSI_end hh (((h2.bump s1.extBut (by omega)).bump s2.extBut (by omega)).bump s3.extBut (by omega)) hy fun k4 e s4 he => ?_)
    obtain ⟨oe, hoe, hce⟩ := he
    have hz4 := s4 (I + 4) _ (by show @Ne Nat _ _; omega) (s3.extBut _ _ (by show @Ne Nat _ _; omega) (s2.extBut _ _ (by show @Ne Nat _ _; omega) hz1))
    have hez : e ≠ I + 4 := fun q => by subst q; rw [hz4] at hoe; cases hoe; simp at hce
    refine wpAny_setField_rec hz4 (by simp) fun k5 _ s5 => hE k5 _ e (fun c o hc q => s5.extBut _ _ (by show @Ne Nat _ _; omega) (s4 _ _ (by show @Ne Nat _ _; omega) (s3.extBut _ _ (by show @Ne Nat _ _; omega) (s2.extBut _ _ (by show @Ne Nat _ _; omega) (s1.extBut _ _ (by show @Ne Nat _ _; omega) q))))) ⟨oe, s5.extBut _ _ hez hoe, hce⟩
theorem zip_end_busy {I T0 : Addr} {f1 : Bool} {o0 : Obj} {x y : Str} {tx ty : Tok} {j : Nat} {Q : PySem.Fin → Shared → Prop} (hh : A.handled = none) (Z : ZOk s.heap I x tx y ty j (rawInt T0) f1) (h0 : s.heap.get? T0 = some o0) (hend : x.cps[j]? = none ∨ y.cps[j]? = none)
    (hE : ∀ h' tk e, ZKeep I s.heap h' → (∃ o, h'.get? e = some o ∧ o.cls = .type "StopIteration") → E (.ref e) { s with heap := h', toks := tk }) :
    wpAny (model prog w) A (Builtin.«zip.__next__» ⟨[.ref (I + 4)], []⟩) Q E s := by
  obtain ⟨hz, hTI, ⟨a, b, hTO⟩, h1, h2⟩ := Z
  show wpAny _ _ (field (.ref (I + 4)) 2 >>= _) _ _ _
  refine wpAny_bind (wpAny_field hz rfl (x := .bool false) rfl ?_)
  show wpAny _ _ (field (.ref (I + 4)) 3 >>= _) _ _ _
  refine wpAny_bind (wpAny_field hz rfl (x := .ref (I + 2)) rfl ?_)
  refine wpAny_bind (wpAny_seqItems hTI rfl ?_)
  show wpAny _ _ (Builtin.SmallTypes.ownedTupleIsFree (.ref (I + 4)) >>= _) _ _ _
  refine wpAny_bind (own_busy hz h0 fun k1 hz1 s1 => ?_)
  simp only [Bool.false_eq_true, if_false]
  refine wpAny_bind ?_
  rw [← Array.forIn_toList]
  simp only [List.forIn_cons, List.forIn_nil]
  refine wpAny_bind (wpAny_bind (wpAny_holding ?_))
  show wpAny _ _ (Builtin.SmallTypes.nextOf (.ref I) >>= _) _ _ _
  cases hx : x.cps[j]? with
  | none =>
    refine wpAny_bind (nextSI_end hh (h1.bump s1.extBut (by omega)) hx fun k2 e s2 he => ?_)
    exact hE k2 _ e (fun c o hc q => s2 _ _ (by show @Ne Nat _ _; omega) (s1.extBut _ _ (by show @Ne Nat _ _; omega) q)) he
  | some c =>
    have hy : y.cps[j]? = none := by rcases hend with h | h; rw [hx] at h; cases h; exact h
    refine wpAny_bind (nextSI_item (h1.bump s1.extBut (by omega)) hx fun ua k2 h12 s2 => wpAny_pure (wpAny_pure ?_))
    refine wpAny_bind (wpAny_bind (wpAny_holding ?_))
    show wpAny _ _ (Builtin.SmallTypes.nextOf (.ref (I + 1)) >>= _) _ _ _
    refine wpAny_bind (nextSI_end hh ((h2.bump s1.extBut (by omega)).bump s2.extBut (by omega)) hy fun k3 e s3 he => ?_)
    exact hE k3 _ e (fun c o hc q => s3 _ _ (by show @Ne Nat _ _; omega) (s2.extBut _ _ (by show @Ne Nat _ _; omega) (s1.extBut _ _ (by show @Ne Nat _ _; omega) q))) he
end
end
section
open PySem PySem.W PyProof.Rows PySem.Calls PySem.Spec
section
variable {prog : Program} {w : World} {A : Around} {E : Value → Shared → Prop} {s : Shared}
abbrev siObj (x : Str) (t : Tok) : Obj := { cls := .type (strIterType x), data := .fields #[.str x t, .int 0 0] }
abbrev zH2 (h : Heap) (x : Str) (tx : Tok) (y : Str) (ty : Tok) : Heap := (h.push (siObj x tx)).push (siObj y ty)
abbrev zH3 (h : Heap) (x : Str) (tx : Tok) (y : Str) (ty : Tok) : Heap := (zH2 h x tx y ty).push { cls := .type "tuple", data := .seq #[.ref h.objs.size, .ref (h.push (siObj x tx)).objs.size] }
abbrev zH4 (h : Heap) (x : Str) (tx : Tok) (y : Str) (ty : Tok) : Heap := (zH3 h x tx y ty).push { cls := .type "tuple", data := .seq #[.none, .none] }
abbrev zH5 (h : Heap) (x : Str) (tx : Tok) (y : Str) (ty : Tok) : Heap := (zH4 h x tx y ty).push { cls := .type "zip", data := .fields #[.none, .bool false, .bool false, .ref (zH2 h x tx y ty).objs.size, .ref (zH3 h x tx y ty).objs.size] }
set_option maxHeartbeats 1000000 in
theorem meets_zip_newS (x : Str) (tx : Tok) (y : Str) (ty : Tok) :
    Meets (Builtin.«zip.__new__» ⟨[.type "zip", .str x tx, .str y ty], []⟩) (fun _ R s => R (.ok (.ret (.ref (zH4 s.heap x tx y ty).objs.size))) { s with heap := zH5 s.heap x tx y ty }) :=
  .of_wp fun prog w A R s h => by
    obtain ⟨hp, g, d, tk, os⟩ := s
    have hsub := sub_zip
    wp_walk using wpAny_pyIter_strU
    exact ⟨_, rfl, h⟩
theorem call_zip_SS {x y : Str} {tx ty : Tok} {Q : Value → Shared → Prop}
    (h : ∀ h', ZOk h' s.heap.objs.size x tx y ty 0 .none false → h'.objs.size = s.heap.objs.size + 5 → (∀ c o, s.heap.get? c = some o → h'.get? c = some o) → Q (.ref (s.heap.objs.size + 4)) { s with heap := h' }) :
    wpAny (model prog w) A (call (.type "zip") [.str x tx, .str y ty]) Q E s := by
  refine callType_new F.called_zip (by decide) (F.typeCall_zip_2 _ _) (F.newCall_zip_2 _ _) (fun obj => F.args_object_init_3 obj _ _) F.entry_zip_new (meets_zip_newS x tx y ty) ?_
  have z1 : (s.heap.push (siObj x tx)).objs.size = s.heap.objs.size + 1 := Heap.size_push ..
  have z2 : (zH2 s.heap x tx y ty).objs.size = s.heap.objs.size + 2 := by rw [Heap.size_push, z1]
  have z3 : (zH3 s.heap x tx y ty).objs.size = s.heap.objs.size + 3 := by rw [Heap.size_push, z2]
  have z4 : (zH4 s.heap x tx y ty).objs.size = s.heap.objs.size + 4 := by rw [Heap.size_push, z3]
  have z5 : (zH5 s.heap x tx y ty).objs.size = s.heap.objs.size + 5 := by rw [Heap.size_push, z4]
  have up4 : ∀ c o, (zH4 s.heap x tx y ty).get? c = some o → (zH5 s.heap x tx y ty).get? c = some o := fun c o e => Heap.get?_push_of_some _ e
  have up3 : ∀ c o, (zH3 s.heap x tx y ty).get? c = some o → (zH5 s.heap x tx y ty).get? c = some o := fun c o e => up4 _ _ (Heap.get?_push_of_some _ e)
  have up2 : ∀ c o, (zH2 s.heap x tx y ty).get? c = some o → (zH5 s.heap x tx y ty).get? c = some o := fun c o e => up3 _ _ (Heap.get?_push_of_some _ e)
  have up1 : ∀ c o, (s.heap.push (siObj x tx)).get? c = some o → (zH5 s.heap x tx y ty).get? c = some o := fun c o e => up2 _ _ (Heap.get?_push_of_some _ e)
  have g5 : (zH5 s.heap x tx y ty).get? (zH4 s.heap x tx y ty).objs.size = some _ := Heap.get?_push_size _ rfl
  have g4 : (zH5 s.heap x tx y ty).get? (zH3 s.heap x tx y ty).objs.size = some _ := up4 _ _ (Heap.get?_push_size _ rfl)
  have g3 : (zH5 s.heap x tx y ty).get? (zH2 s.heap x tx y ty).objs.size = some _ := up3 _ _ (Heap.get?_push_size _ rfl)
  have g2 : (zH5 s.heap x tx y ty).get? (s.heap.push (siObj x tx)).objs.size = some _ := up2 _ _ (Heap.get?_push_size _ rfl)
  have g1 : (zH5 s.heap x tx y ty).get? s.heap.objs.size = some _ := up1 _ _ (Heap.get?_push_size _ rfl)
  show _ ∧ _
  rw [z2, z3, z4] at g5
  rw [z1, z2] at g3
  rw [z3] at g4
  rw [z1] at g2
  rw [z4]
  exact ⟨⟨_, g5, rfl⟩, h _ ⟨g5, g3, ⟨_, _, g4⟩, ⟨_, g1, rfl, rfl⟩, ⟨_, g2, rfl, rfl⟩⟩ z5 fun c o e => up1 _ _ (Heap.get?_push_of_some _ e)⟩
theorem zip_typeIs {h : Heap} {I : Addr} {x y : Str} {tx ty : Tok} {j : Nat} {f0 : Value} {f1 : Bool} {gs dr tk os} (Z : ZOk h I x tx y ty j f0 f1) : (⟨h, gs, dr, tk, os⟩ : Shared).TypeIs (.ref (I + 4)) "zip" := ⟨_, Z.z, rfl⟩
/-- the state between the turns: free, or the last pair handed out lives on -/
def ZSt (h : Heap) (I : Addr) (x : Str) (tx : Tok) (y : Str) (ty : Tok) (j : Nat) : Prop :=
  ZOk h I x tx y ty j .none false ∨ ∃ (T0 : Addr) (o0 : Obj) (f1 : Bool), ZOk h I x tx y ty j (rawInt T0) f1 ∧ h.get? T0 = some o0
def ZOut (h : Heap) (I : Addr) (x : Str) (tx : Tok) (y : Str) (ty : Tok) (j : Nat) : Prop := ∃ (T0 : Addr) (o0 : Obj) (f1 : Bool), ZOk h I x tx y ty j (rawInt T0) f1 ∧ h.get? T0 = some o0
theorem pyNext_zip_free {I : Addr} {x y : Str} {tx ty : Tok} {j c d : Nat} {Q : Option Value → Shared → Prop} (Z : ZOk s.heap I x tx y ty j .none false) (hx : x.cps[j]? = some c) (hy : y.cps[j]? = some d)
    (hQ : ∀ h' tk ta tb, ZOk h' I x tx y ty (j + 1) (rawInt s.heap.objs.size) false → h'.get? s.heap.objs.size = some (prObj (.str ⟨#[c]⟩ ta) (.str ⟨#[d]⟩ tb)) → ZKeep I s.heap h' → h'.objs.size = s.heap.objs.size + 1 → Q (some (.ref s.heap.objs.size)) { s with heap := h', toks := tk }) :
    wpAny (model prog w) A (pyNext (.ref (I + 4))) Q E s := by
  have hT : s.TypeIs (.ref (I + 4)) "zip" := ⟨_, Z.z, rfl⟩
  unfold pyNext
  exact wpAny_bind (wpAny_attempt (wpAny_callSpecial?_slot (name := Str.ofString "__next__") hT F.slot_zip_next
    (wpAny_call_entry F.slot_zip_next hT F.entry_zip_next (zip_item_free Z hx hy fun h' tk ta tb a1 a2 a3 a4 => wpAny_pure (hQ h' tk ta tb a1 a2 a3 a4)) (F.args_zip_next_1 _))))
theorem pyNext_zip_busy {I : Addr} {x y : Str} {tx ty : Tok} {j c d : Nat} {Q : Option Value → Shared → Prop} (Z : ZOut s.heap I x tx y ty j) (hx : x.cps[j]? = some c) (hy : y.cps[j]? = some d)
    (hQ : ∀ h' tk ta tb, ZOut h' I x tx y ty (j + 1) → h'.get? s.heap.objs.size = some (prObj (.str ⟨#[c]⟩ ta) (.str ⟨#[d]⟩ tb)) → ZKeep I s.heap h' → h'.objs.size = s.heap.objs.size + 1 → Q (some (.ref s.heap.objs.size)) { s with heap := h', toks := tk })
    (hT0 : ∀ (T0 : Addr) o0 f1 h', ZOk s.heap I x tx y ty j (rawInt T0) f1 → s.heap.get? T0 = some o0 → ZKeep I s.heap h' → ∃ o1, h'.get? T0 = some o1) :
    wpAny (model prog w) A (pyNext (.ref (I + 4))) Q E s := by
  obtain ⟨T0, o0, f1, Z, h0⟩ := Z
  have hT : s.TypeIs (.ref (I + 4)) "zip" := ⟨_, Z.z, rfl⟩
  unfold pyNext
  exact wpAny_bind (wpAny_attempt (wpAny_callSpecial?_slot (name := Str.ofString "__next__") hT F.slot_zip_next
    (wpAny_call_entry F.slot_zip_next hT F.entry_zip_next (zip_item_busy Z h0 hx hy fun h' tk ta tb a1 a2 a3 a4 => wpAny_pure (hQ h' tk ta tb (let ⟨o1, e1⟩ := hT0 T0 o0 f1 h' Z h0 a3; ⟨T0, o1, true, a1, e1⟩) a2 a3 a4)) (F.args_zip_next_1 _))))
theorem pyNext_zip_end {I : Addr} {x y : Str} {tx ty : Tok} {j : Nat} {Q : Option Value → Shared → Prop} (hh : A.handled = none) (Z : ZSt s.heap I x tx y ty j) (hend : x.cps[j]? = none ∨ y.cps[j]? = none)
    (hQ : ∀ h' tk, ZKeep I s.heap h' → Q none { s with heap := h', toks := tk }) : wpAny (model prog w) A (pyNext (.ref (I + 4))) Q E s := by
  have hT : s.TypeIs (.ref (I + 4)) "zip" := by
    rcases Z with Z | ⟨_, _, _, Z, _⟩
    · exact ⟨_, Z.z, rfl⟩
    · exact ⟨_, Z.z, rfl⟩
  unfold pyNext
  refine wpAny_bind (wpAny_attempt (wpAny_callSpecial?_slot (name := Str.ofString "__next__") hT F.slot_zip_next
    (wpAny_call_entry F.slot_zip_next hT F.entry_zip_next ?_ (F.args_zip_next_1 _))))
  rcases Z with Z | ⟨_, _, _, Z, h0⟩
  · refine zip_end_free hh Z hend fun h' tk e hk he => ?_
    obtain ⟨o, ho, hc⟩ := he
    refine wpAny_bind (wpAny_isInstance (T := "StopIteration") (b := true) ⟨o, ho, hc⟩ isSubtype_stop ?_)
    exact wpAny_pure (hQ _ _ hk)
  · refine zip_end_busy hh Z h0 hend fun h' tk e hk he => ?_
    obtain ⟨o, ho, hc⟩ := he
    refine wpAny_bind (wpAny_isInstance (T := "StopIteration") (b := true) ⟨o, ho, hc⟩ isSubtype_stop ?_)
    exact wpAny_pure (hQ _ _ hk)
theorem pyIter_zip {I : Addr} {x y : Str} {tx ty : Tok} {j : Nat} {f0 : Value} {f1 : Bool} {Q : Value → Shared → Prop} (Z : ZOk s.heap I x tx y ty j f0 f1) (h : Q (.ref (I + 4)) s) : wpAny (model prog w) A (pyIter (.ref (I + 4))) Q E s := by
  have hT : s.TypeIs (.ref (I + 4)) "zip" := ⟨_, Z.z, rfl⟩
  refine wpAny_pyIter_slot hT F.slot_zip_iter (wpAny_call_entry F.slot_zip_iter hT F.entry_zip_iter ?_ (F.args_zip_iter_1 _))
  show wpAny _ _ (ret (.ref (I + 4))) _ _ s
  exact wpAny_pure ⟨_, rfl, "zip", _, hT, F.slot_zip_next.lookup, h⟩
theorem letGo_zip {elts : List Expr} {x1} {pos : Pos} {I T : Addr} {x y : Str} {tx ty : Tok} {j : Nat} {Q : Unit → Shared → Prop} (Z : ZOk s.heap I x tx y ty j (rawInt T) false)
    (hQ : ∀ h', ZOk h' I x tx y ty j .none false → Heap.SameBut (I + 4) s.heap h' → Q () { s with heap := h' }) :
    wpAny (model prog w) A (letOwnedTupleGo (.Tuple elts x1 pos) (.ref (I + 4)) (.ref T)) Q E s := by
  refine wpAny_letOwnedTupleGo_zip Z.z fun h' hz' hs' => hQ h' ⟨hz', hs'.extBut _ _ (by show @Ne Nat _ _; omega) Z.ti, ?_, Z.a.bump hs'.extBut (by omega), Z.b.bump hs'.extBut (by omega)⟩ hs'
  obtain ⟨a, b, e⟩ := Z.to
  exact ⟨a, b, hs'.extBut _ _ (by show @Ne Nat _ _; omega) e⟩
end
end
section
open PySem PySem.W PyProof.Rows PySem.Calls PySem.Spec
open PyProof.Rows.LCg
section
variable {prog : Program} {w : World} {A : Around} {E : Value → Shared → Prop} {s : Shared} {h₀ : Heap} {L : Addr} {m : Str → Option Value} {env : Env} {news : List (Addr × Obj)}
theorem ld_comp {M : Model} {v0 : Str} {px : Pos} {v : Value} {scope : Scope} {cl : List (Str × Addr)} {C : Addr} {Q : Value → Shared → Prop} {mc : Str → Option Value} (hn : s.heap.Ns C mc) (hv : mc v0 = some v) (h : Q v s) (hk : scope.kind = .function) (hl : (compEnvC scope cl C env).kindOf v0 = some .local) (hd : (v0 == ("__debug__" : Str)) = false) :
    wpAny M A (eval (.Name v0 px) (compEnvC scope cl C env)) Q E s := wpAny_Name (wpAny_loadName_local hk hl hn hv h) hd
def EltZ (prog : Program) (w : World) (A : Around) (env : Env) (scope : Scope) (cl : List (Str × Addr)) (x x₂ : Str) (elt : PySem.Expr) (g : Nat → Nat → Str) : Prop :=
  ∀ (C : Addr) (c d : Nat) (ta tb : Tok) (mc : Str → Option Value) (s₂ : Shared) (E' : Value → Shared → Prop), s₂.heap.Ns C mc → mc x = some (.str ⟨#[c]⟩ ta) → mc x₂ = some (.str ⟨#[d]⟩ tb) →
    wpAny (model prog w) A (eval elt (compEnvC scope cl C env)) (fun y s₃ => (∃ t, y = .str (g c d) t) ∧ ∃ tk, s₃ = { s₂ with toks := tk }) E' s₂
def SrcZ (prog : Program) (w : World) (A : Around) (h₀ : Heap) (L : Addr) (m : Str → Option Value) (env : Env) (elt : PySem.Expr) (x x₂ : Str) (scope : Scope) (cl : List (Str × Addr)) (y : Str) (Q : Flow → Shared → Prop) (xv : Value) (s₁ : Shared) : Prop :=
  ∃ (I : Addr) (X Y : Str) (tx ty : Tok) (news : List (Addr × Obj)) (g : Nat → Nat → Str), xv = .ref (I + 4) ∧ A.handled = none ∧ Fr h₀ L s₁.heap m ∧ News h₀ L s₁.heap news ∧ ZOk s₁.heap I X tx Y ty 0 .none false ∧ @LT.lt Nat _ L I ∧ (∀ p ∈ news, @LT.lt Nat _ p.1 I) ∧ (∀ b o, h₀.get? b = some o → @LT.lt Nat _ b I) ∧
    X.cps.size ≤ 1000 ∧ EltZ prog w A env scope cl x x₂ elt g ∧
    ∀ D h tk (l : List (Str × Tok)), Fr h₀ L h (fun z => if z = y then some (.ref D) else m z) → News h₀ L h ((D, W.listOf (outsVal l) l.length) :: news) → (∀ p ∈ news, p.1 ≠ D) → l.map (·.1) = (X.cps.toList.zip Y.cps.toList).map (fun q => g q.1 q.2) → Q .next { s₁ with heap := h, toks := tk }
theorem zkeep_fr {h h' : Heap} {I : Addr} (F : Fr h₀ L h m) (hL : @LT.lt Nat _ L I) (hb : ∀ b o, h₀.get? b = some o → @LT.lt Nat _ b I) (hk : ZKeep I h h') : Fr h₀ L h' m :=
  ⟨F.ns.at' fun o e => hk L o (.inl hL) e, fun b o e => hk b o (.inl (hb b o e)) (F.keep b o e), F.above⟩
theorem zkeep_news {h h' : Heap} {I : Addr} (N : News h₀ L h news) (hn : ∀ p ∈ news, @LT.lt Nat _ p.1 I) (hk : ZKeep I h h') : News h₀ L h' news := fun p hp => ⟨hk p.1 p.2 (.inl (hn p hp)) (N p hp).1, (N p hp).2⟩
theorem zkeep_z {h h' : Heap} {I J : Nat} {X Y : Str} {tx ty : Tok} {j : Nat} {f0 : Value} {f1 : Bool} (Z : ZOk h I X tx Y ty j f0 f1) (hk : ∀ c o, c < I + 5 → h.get? c = some o → h'.get? c = some o) : ZOk h' I X tx Y ty j f0 f1 :=
  ⟨hk _ _ (by show @LT.lt Nat _ _ _; omega) Z.z, hk _ _ (by show @LT.lt Nat _ _ _; omega) Z.ti, let ⟨a, b, e⟩ := Z.to; ⟨a, b, hk _ _ (by show @LT.lt Nat _ _ _; omega) e⟩, Z.a.keep fun o e => hk _ _ (by show @LT.lt Nat _ _ _; omega) e, Z.b.keep fun o e => hk _ _ (by show @LT.lt Nat _ _ _; omega) e⟩
set_option maxHeartbeats 4000000
theorem block_Z {elt iter : PySem.Expr} {x x₂ : Str} {px px₂ tp : Pos} {tk0} {scope : Scope} {cl : List (Str × Addr)} {pos : Pos} {s₁ : Shared} {I : Addr} {X Y : Str} {tx ty : Tok} {g : Nat → Nat → Str} {RR : Value → Addr → Result → Shared → Prop}
    (hcell : ∀ y ∈ scope.names, y.2 ≠ .cell) (hkind : scope.kind = .function) (hx : scope.names.lookup x = some .local) (hx₂ : scope.names.lookup x₂ = some .local) (hxx : x ≠ x₂) (hh : A.handled = none)
    (F : Fr h₀ L s₁.heap m) (N : News h₀ L s₁.heap news) (Z : ZOk s₁.heap I X tx Y ty 0 .none false) (hL : @LT.lt Nat _ L I) (hn : ∀ p ∈ news, @LT.lt Nat _ p.1 I) (hb : ∀ b o, h₀.get? b = some o → @LT.lt Nat _ b I) (hsz : X.cps.size ≤ 1000)
    (helt : EltZ prog w A env scope cl x x₂ elt g)
    (hRR : ∀ D C h tk m' (l : List (Str × Tok)), Fr h₀ L h m → News h₀ L h ((D, W.listOf (outsVal l) l.length) :: news) → (∀ p ∈ news, p.1 ≠ D) → h.Ns C m' → h₀.get? C = none → C ≠ L → C ≠ D → (∀ p ∈ news, p.1 ≠ C) → l.map (·.1) = (X.cps.toList.zip Y.cps.toList).map (fun q => g q.1 q.2) → RR (.ref D) C (.ok .next) { s₁ with heap := h, toks := tk }) :
    wpAny (model prog w) A (newList []) (fun acc s₃ => wpAny (model prog w) A (newFunctionEnv scope env.globals cl [] env.qual none .none (some env)) (fun cenv s₄ =>
      codeAny (model prog w) A (.compStart (.ListComp elt [⟨.Tuple [.Name x px, .Name x₂ px₂] tk0 tp, iter, [], 0⟩] scope pos) 0 (.ref (I + 4)) acc { cenv with scope := relabel scope env }) (RR acc cenv.locals) s₄) E s₃) E s₁ := by
  refine wpAny_newObj_type (wpAny_newFunctionEnv hcell (by intro y hy; simp at hy) (fun h₁ hns₁ hsb₁ => ?_) hkind)
  dsimp only at hns₁ hsb₁ ⊢
  generalize hH2 : s₁.heap.push { cls := .type "list", dict := none, data := .seq ([] : List Value).toArray } = H2 at hns₁ hsb₁ ⊢
  have hC : H2.objs.size = s₁.heap.objs.size + 1 := by rw [← hH2, Heap.size_push]
  have hzl : @LT.lt Nat _ (I + 4) s₁.heap.objs.size := Heap.lt_size Z.z
  have old : ∀ b o, s₁.heap.get? b = some o → h₁.get? b = some o := fun b o e => hsb₁.extBut b o (by have := Heap.lt_size e; show @Ne Nat _ _; rw [hC]; have h2 : @LT.lt Nat _ b s₁.heap.objs.size := this; omega) (Heap.get?_push_of_some _ (hH2 ▸ Heap.get?_push_of_some _ e))
  have hacc : h₁.get? s₁.heap.objs.size = some { cls := .type "list", dict := none, data := .seq ([] : List Value).toArray } := hsb₁.extBut _ _ (by show @Ne Nat _ _; rw [hC]; omega) (Heap.get?_push_of_some _ (hH2 ▸ Heap.get?_push_size _ rfl))
  have fresh₀ : ∀ a : Nat, s₁.heap.objs.size ≤ a → h₀.get? a = none := fun a ha => by
    cases e : h₀.get? a with
    | none => rfl
    | some o' => have h1 : @LT.lt Nat _ a I := hb _ _ e; omega
  have hD₀ := fresh₀ s₁.heap.objs.size (Nat.le_refl _)
  have hC₀ := fresh₀ H2.objs.size (by rw [hC]; omega)
  have hCL : @Ne Nat H2.objs.size L := by rw [hC]; have : @LT.lt Nat _ L I := hL; omega
  have hDL : @Ne Nat s₁.heap.objs.size L := by have : @LT.lt Nat _ L I := hL; omega
  have Z1 : ZOk h₁ I X tx Y ty 0 .none false := zkeep_z (J := 0) Z fun c o _ e => old c o e
  have offC : ∀ p ∈ news, p.1 ≠ H2.objs.size := fun p hp => by have h1 : @LT.lt Nat _ p.1 I := hn p hp; show @Ne Nat _ _; rw [hC]; omega
  have offD : ∀ p ∈ news, p.1 ≠ s₁.heap.objs.size := fun p hp => by have h1 : @LT.lt Nat _ p.1 I := hn p hp; show @Ne Nat _ _; omega
  have loop : ∀ s₃ : Shared, s₃ = { s₁ with heap := h₁, toks := s₁.toks + ([] : List (Str × Value)).length } →
      codeAny (model prog w) A (.compLoop (.ListComp elt [⟨.Tuple [.Name x px, .Name x₂ px₂] tk0 tp, iter, [], 0⟩] scope pos) 0 (.ref (I + 4)) (.ref s₁.heap.objs.size) (compEnvC scope cl H2.objs.size env))
        (RR (.ref s₁.heap.objs.size) H2.objs.size) s₃ := by
    rintro s₃ rfl
    refine LCp.codeAny_compLoop_pair
      (fun k s' => ∃ (h' : Heap) (tk i : Nat) (l : List (Str × Tok)) (m' : Str → Option Value), s' = { s₁ with heap := h', toks := tk } ∧ k = X.cps.size + 1 - i ∧ i ≤ X.cps.size ∧ l.length = i ∧ ZOk h' I X tx Y ty i .none false ∧ Fr h₀ L h' m ∧ News h₀ L h' news ∧ h'.Ns H2.objs.size m' ∧
        h'.get? s₁.heap.objs.size = some (W.listOf (outsVal l) l.length) ∧ l.map (·.1) = ((X.cps.toList.zip Y.cps.toList).take i).map (fun q => g q.1 q.2)) ?_ (X.cps.size + 1)
      ⟨h₁, _, 0, [], _, rfl, rfl, Nat.zero_le _, rfl, Z1, F.keeps old, N.grown old, hns₁, hacc, rfl⟩
    rintro k s' ⟨h', tk, i, l, m', rfl, rfl, hi, hl, Z', F', N', hns', hacc', hlm⟩
    by_cases hlt : i < X.cps.size ∧ i < Y.cps.size
    · obtain ⟨h1x, h1y⟩ := hlt
      refine pyNext_zip_free Z' (Array.getElem?_eq_getElem h1x) (Array.getElem?_eq_getElem h1y) fun h₂ tk₂ ta tb Z₂ hT₂ hk₂ hs₂ => ?_
      have F₂ := zkeep_fr F' hL hb hk₂
      have N₂ := zkeep_news N' hn hk₂
      have hns₂ : h₂.Ns H2.objs.size m' := hns'.at' fun o e => hk₂ _ o (.inr (by rw [hC]; omega)) e
      have hacc₂ := hk₂ _ _ (.inr (by show @LT.lt Nat _ _ _; omega)) hacc'
      refine letGo_zip Z₂ fun h₃ Z₃ s₃ => ?_
      have hzh : @LT.lt Nat _ (I + 4) h'.objs.size := Heap.lt_size Z'.z
      have hT₃ : IsTup h₃ h'.objs.size #[.str ⟨#[X.cps[i]]⟩ ta, .str ⟨#[Y.cps[i]]⟩ tb] := ⟨_, s₃.extBut _ _ (by show @Ne Nat _ _; omega) hT₂, rfl, _, rfl⟩
      have F₃ : Fr h₀ L h₃ m := F₂.change s₃ (by have : @LT.lt Nat _ L I := hL; show @Ne Nat _ _; omega) (by
        cases e : h₀.get? (I + 4) with
        | none => rfl
        | some o' => have h1 : @LT.lt Nat _ (I + 4) I := hb _ _ e; omega)
      have N₃ : News h₀ L h₃ news := fun p hp => ⟨s₃.extBut _ _ (by have h1 : @LT.lt Nat _ p.1 I := hn p hp; show @Ne Nat _ _; omega) (N₂ p hp).1, (N₂ p hp).2⟩
      have hns₃ : h₃.Ns H2.objs.size m' := hns₂.at' fun o e => s₃.extBut _ _ (by show @Ne Nat _ _; rw [hC]; omega) e
      have hacc₃ := s₃.extBut _ _ (by show @Ne Nat _ _; omega) hacc₂
      refine assign_Tuple_tuple hh hT₃ rfl rfl fun h₅ he => ?_
      have he' : ∀ b o, h₃.get? b = some o → h₅.get? b = some o := fun b o e => he b o (Nat.ne_of_lt (Heap.lt_size e)) e
      refine assignInOrder_cons (wpAny_assign_Name (wpAny_storeName_local (lookup_relabel_local hx) (hns₃.at' fun o e => he' _ o e) (fun h₆ hn₆ hs₆ => ?_) (by simp [compEnvC, relabel, hkind])))
      refine assignInOrder_cons (wpAny_assign_Name (wpAny_storeName_local (lookup_relabel_local hx₂) hn₆ (fun h₇ hn₇ hs₇ => ?_) (by simp [compEnvC, relabel, hkind])))
      refine assignInOrder_nil ?_
      have old7 : ∀ (b : Nat) o, b ≠ H2.objs.size → h₃.get? b = some o → h₇.get? b = some o := fun b o hbb e => hs₇.extBut b o hbb (hs₆.extBut b o hbb (he' b o e))
      have F₇ : Fr h₀ L h₇ m := ((F₃.keeps he').change hs₆ hCL hC₀).change hs₇ hCL hC₀
      have N₇ : News h₀ L h₇ news := fun p hp => ⟨old7 _ _ (offC p hp) (N₃ p hp).1, (N₃ p hp).2⟩
      have Z₇ : ZOk h₇ I X tx Y ty (i + 1) .none false := zkeep_z (J := 0) Z₃ fun c o hc e => old7 c o (by rw [hC]; omega) e
      have hacc₇ := old7 _ _ (by rw [hC]; omega) hacc₃
      refine wpAny_mono (helt H2.objs.size X.cps[i] Y.cps[i] ta tb _ _ _ hn₇ (by simp [hxx]) (by simp)) (fun v s₈ h₈ => ?_) fun _ _ e => e
      obtain ⟨⟨tv, rfl⟩, tk₈, rfl⟩ := h₈
      have hsl : (outsVal l).size ≤ sizeLine := by have := outsVal_size l; rw [sizeLine_eq]; omega
      refine append_at (hsz := hsl) hacc₇ fun h₉ hs₉ hD₉ => ?_
      have hlen : (X.cps.toList.zip Y.cps.toList)[i]? = some (X.cps[i], Y.cps[i]) := by
        rw [List.getElem?_zip_eq_some]; simp [h1x, h1y]
      refine ⟨X.cps.size + 1 - (i + 1), by omega, h₉, _, i + 1, l ++ [(g X.cps[i] Y.cps[i], tv)], _, rfl, rfl, by omega, by simp [hl], zkeep_z (J := 0) Z₇ (fun c o hc e => hs₉.extBut _ _ (by show @Ne Nat _ _; omega) e), F₇.change hs₉ hDL hD₀,
        fun p hp => ⟨hs₉.extBut _ _ (offD p hp) (N₇ p hp).1, (N₇ p hp).2⟩, hn₇.at' fun o e => hs₉.extBut _ _ (by show @Ne Nat H2.objs.size s₁.heap.objs.size; rw [hC]; omega) e, ?_, ?_⟩
      · rw [hD₉, ← outsVal_push, List.length_append]; rfl
      · rw [List.take_add_one, hlen, List.map_append, List.map_append, hlm]; rfl
    · have hend : X.cps[i]? = none ∨ Y.cps[i]? = none := by
        by_cases h1 : i < X.cps.size
        · exact .inr (Array.getElem?_eq_none (by omega))
        · exact .inl (Array.getElem?_eq_none (by omega))
      refine pyNext_zip_end hh (.inl Z') hend fun h₂ tk₂ hk₂ => ?_
      have htk : (X.cps.toList.zip Y.cps.toList).take i = X.cps.toList.zip Y.cps.toList := List.take_of_length_le (by rw [List.length_zip]; simp; omega)
      rw [htk] at hlm
      refine hRR _ _ h₂ tk₂ m' l (zkeep_fr F' hL hb hk₂) (fun p hp => ?_) offD (hns'.at' fun o e => hk₂ _ o (.inr (by rw [hC]; omega)) e) hC₀ hCL (by show @Ne Nat _ _; rw [hC]; omega) offC hlm
      rcases List.mem_cons.mp hp with rfl | hp
      · exact ⟨hk₂ _ _ (.inr (by show @LT.lt Nat _ _ _; omega)) hacc', hDL, hD₀⟩
      · exact zkeep_news N' hn hk₂ p hp
  exact codeAny_compStart_list (loop _ rfl) (pyIter_zip Z1 (loop _ rfl))
theorem Assign_ListComp_Z {elt iter : PySem.Expr} {x x₂ y : Str} {px px₂ tp py : Pos} {tk} {scope : Scope} {cl : List (Str × Addr)} {pos spos : Pos} {Q : Flow → Shared → Prop} (F₀ : Fr h₀ L s.heap m) (hLe : env.locals = L)
    (hsw : swapsWith (.ListComp elt [⟨.Tuple [.Name x px, .Name x₂ px₂] tk tp, iter, [], 0⟩] scope pos) (some (.Name y py)) spos.line env = pure true)
    (hclos : closureFor scope env = pure cl) (hcell : ∀ z ∈ scope.names, z.2 ≠ .cell) (hkind : scope.kind = .function)
    (hnames : ∀ z ∈ scope.names, z.2 = .local → scope.names.lookup z.1 = some .local) (hx : scope.names.lookup x = some .local) (hx₂ : scope.names.lookup x₂ = some .local) (hxx : x ≠ x₂)
    (hy : env.kindOf y = some .local) (hp : (env.scope.kind == .class || (env.scope.kind == .module && env.locals != env.globals)) = false)
    (h : wpAny (model prog w) A (eval iter env) (SrcZ prog w A h₀ L m env elt x x₂ scope cl y Q) E s)
    (hs : ∀ x, foldedSetIterable iter env x = pure x := by intro _; rfl) :
    wpAny (model prog w) A (exec (.Assign [.Name y py] (.ListComp elt [⟨.Tuple [.Name x px, .Name x₂ px₂] tk tp, iter, [], 0⟩] scope pos) spos) env) Q E s := by
  subst hLe
  rw [exec_Assign_Name_used _ _ _ _ hsw]
  refine wpAny_bind (wpAny_standAt (wpAny_bind ?_))
  show wpAny _ A (do let _ ← comprehension (.ListComp elt [⟨.Tuple [.Name x px, .Name x₂ px₂] tk tp, iter, [], 0⟩] scope pos) scope env _ (newList []) false (eval iter env) (some (assign (.Name y py) env))) _ _ s
  refine wpAny_bind (wpAny_mono (wpAny_comprehension_free (use := some (assign (.Name y py) env)) (Q := fun _ s' => Q .next s') rfl hs hclos hkind hnames
    (wpAny_mono h (fun xv s₁ h₁ => ?_) fun _ _ e => e)) (fun _ s' hq => wpAny_pure (wpAny_pure hq)) fun _ _ e => e)
  obtain ⟨I, X, Y, tx, ty, news, g, rfl, hh, F, N, Z, hL, hn, hb, hsz, helt, fin⟩ := h₁
  refine pyIter_zip Z ?_
  refine block_Z hcell hkind hx hx₂ hxx hh F N Z hL hn hb hsz helt ?_
  intro D C h' tk m' l F' N' offD hnC hC₀ hCL hCD offC hlm
  show wpAny _ A (assign (.Name y py) env (.ref D)) _ _ _
  refine wpAny_assign_Name (wpAny_storeName_local hy F'.ns (fun h₂ hn₂ hs₂ => ?_) hp)
  have hL₀ : h₀.get? env.locals = none := Heap.get?_none_of_le F'.above
  have F₂ : Fr h₀ env.locals h₂ (fun z => if z = y then some (.ref D) else m z) := ⟨hn₂, fun b o e => hs₂.extBut b o (fun q => by rw [q, hL₀] at e; cases e) (F'.keep b o e), F'.above⟩
  refine ⟨m', hnC.sameBut hs₂ hCL, fun h'' hs'' => fin D h'' _ l (F₂.change hs'' hCL hC₀) (fun p hp => ?_) offD hlm⟩
  have z : h₂.get? p.1 = some p.2 := hs₂.extBut _ _ (N' p hp).2.1 (N' p hp).1
  refine ⟨hs''.extBut _ _ ?_ z, (N' p hp).2⟩
  rcases List.mem_cons.mp hp with rfl | hp
  · exact Ne.symm hCD
  · exact offC p hp
end
end
section
open PySem PySem.W PyProof.Rows PySem.Calls PySem.Spec
def ZL (h : Heap) (I : Addr) (X : Str) (tx : Tok) (Y : Str) (ty : Tok) (i : Nat) : Prop :=
  ZOk h I X tx Y ty i .none false ∨ ∃ (T0 : Addr) (o0 : Obj) (f1 : Bool), ZOk h I X tx Y ty i (rawInt T0) f1 ∧ @LT.lt Nat _ (I + 4) T0 ∧ h.get? T0 = some o0
theorem ZL.typeIs {s : Shared} {I : Addr} {X Y : Str} {tx ty : Tok} {i : Nat} (Z : ZL s.heap I X tx Y ty i) : s.TypeIs (.ref (I + 4)) "zip" := by
  rcases Z with Z | ⟨_, _, _, Z, _⟩
  · exact ⟨_, Z.z, rfl⟩
  · exact ⟨_, Z.z, rfl⟩
theorem ZL.zlt {h : Heap} {I : Addr} {X Y : Str} {tx ty : Tok} {i : Nat} (Z : ZL h I X tx Y ty i) : @LT.lt Nat _ (I + 4) h.objs.size := by
  rcases Z with Z | ⟨_, _, _, Z, _⟩
  · exact Heap.lt_size Z.z
  · exact Heap.lt_size Z.z
theorem ZL.keep {h h' : Heap} {I S : Nat} {X Y : Str} {tx ty : Tok} {i : Nat} (Z : ZL h I X tx Y ty i) (hS : I + 4 < S) (hk : ∀ c o, c ≠ S → h.get? c = some o → h'.get? c = some o) (hS2 : ∀ o, h.get? S = some o → ∃ o', h'.get? S = some o') : ZL h' I X tx Y ty i := by
  rcases Z with Z | ⟨T0, o0, f1, Z, h1, h2⟩
  · exact .inl (zkeep_z (J := 0) Z fun c o hc e => hk c o (by omega) e)
  · refine .inr ?_
    have Z' := zkeep_z (J := 0) Z fun c o hc e => hk c o (by omega) e
    by_cases hT : @Eq Nat T0 S
    · obtain ⟨o', e'⟩ := hS2 o0 (hT ▸ h2)
      exact ⟨T0, o', f1, Z', h1, hT ▸ e'⟩
    · exact ⟨T0, o0, f1, Z', h1, hk _ _ hT h2⟩
section
variable {prog : Program} {w : World} {A : Around} {E : Value → Shared → Prop} {s : Shared}
theorem ZL.next {I : Addr} {X Y : Str} {tx ty : Tok} {j c d : Nat} {Q : Option Value → Shared → Prop} (Z : ZL s.heap I X tx Y ty j) (hx : X.cps[j]? = some c) (hy : Y.cps[j]? = some d)
    (hQ : ∀ h' tk ta tb, ZL h' I X tx Y ty (j + 1) → h'.get? s.heap.objs.size = some (prObj (.str ⟨#[c]⟩ ta) (.str ⟨#[d]⟩ tb)) → ZKeep I s.heap h' → h'.objs.size = s.heap.objs.size + 1 → Q (some (.ref s.heap.objs.size)) { s with heap := h', toks := tk }) :
    wpAny (model prog w) A (pyNext (.ref (I + 4))) Q E s := by
  have hzl := Z.zlt
  have hT := Z.typeIs
  rcases Z with Z | ⟨T0, o0, f1, Z, h1, h2⟩
  · exact pyNext_zip_free Z hx hy fun h' tk ta tb a1 a2 a3 a4 => hQ h' tk ta tb (.inr ⟨_, _, _, a1, hzl, a2⟩) a2 a3 a4
  · unfold pyNext
    exact wpAny_bind (wpAny_attempt (wpAny_callSpecial?_slot (name := Str.ofString "__next__") hT F.slot_zip_next
      (wpAny_call_entry F.slot_zip_next hT F.entry_zip_next (zip_item_busy Z h2 hx hy fun h' tk ta tb a1 a2 a3 a4 => wpAny_pure (hQ h' tk ta tb (.inr ⟨T0, o0, true, a1, h1, a3 _ _ (.inr h1) h2⟩) a2 a3 a4)) (F.args_zip_next_1 _))))
theorem ZL.fin {I : Addr} {X Y : Str} {tx ty : Tok} {j : Nat} {Q : Option Value → Shared → Prop} (hh : A.handled = none) (Z : ZL s.heap I X tx Y ty j) (hend : X.cps[j]? = none ∨ Y.cps[j]? = none)
    (hQ : ∀ h' tk, ZKeep I s.heap h' → Q none { s with heap := h', toks := tk }) : wpAny (model prog w) A (pyNext (.ref (I + 4))) Q E s :=
  pyNext_zip_end hh (by rcases Z with Z | ⟨T0, o0, f1, Z, h1, h2⟩; exact .inl Z; exact .inr ⟨T0, o0, f1, Z, h2⟩) hend hQ
end
/-- the pairs that a list holds behind i turns -/
structure Got (h : Heap) (X Y : Str) (lo : Nat) (as : List Addr) : Prop where
  above : ∀ a ∈ as, @LT.lt Nat _ lo a
  pairs : ∀ (j : Nat) (a : Addr), as[j]? = some a → ∃ c d ta tb, X.cps[j]? = some c ∧ Y.cps[j]? = some d ∧ h.get? a = some (prObj (.str ⟨#[c]⟩ ta) (.str ⟨#[d]⟩ tb))
section
variable {prog : Program} {w : World} {A : Around} {s : Shared} {R : Result → Shared → Prop}
theorem zl_loop {S I : Nat} {X Y : Str} {tx ty : Tok} {res : Value} {h₁ : Heap} (hh : A.handled = none) (hSI : I + 4 < S) (hX : X.cps.size ≤ 1000)
    (hR : ∀ h' tk acc c as, (∀ (b : Nat) o, b ≠ S → (b < I ∨ I + 4 < b) → h₁.get? b = some o → h'.get? b = some o) → h'.get? S = some { cls := .type "list", dict := none, data := .seq acc c, slots := #[] } → as.length = min X.cps.size Y.cps.size → Got h' X Y S as →
      acc.toList = as.map Value.ref → R (.ok (.ret res)) { s with heap := h', toks := tk }) :
    ∀ (k i : Nat) (h : Heap) (tk c : Nat) (acc : Array Value) (as : List Addr), X.cps.size - i = k → i ≤ X.cps.size → i ≤ Y.cps.size → ZL h I X tx Y ty i → (∀ (b : Nat) o, b ≠ S → (b < I ∨ I + 4 < b) → h₁.get? b = some o → h.get? b = some o) →
      h.get? S = some { cls := .type "list", dict := none, data := .seq acc c, slots := #[] } → acc.toList = as.map Value.ref → as.length = i → Got h X Y S as →
      codeAny (model prog w) A (.builtin "list.extend.loop" ⟨[.ref S, .ref (I + 4), res], []⟩) R { s with heap := h, toks := tk } := by
  intro k
  induction k with
  | zero =>
    intro i h tk c acc as hk hi hi2 Z hkp hS hacc hal G
    refine codeAny_builtin PySem.F.entry_extend_loop ?_
    rw [Around.under_plainId PySem.F.plain_extend_loop _]
    show wpAny _ A.in1 (pyNext (.ref (I + 4)) >>= _) _ _ _
    refine wpAny_bind (ZL.fin (s := { s with heap := h, toks := tk }) (A := A.in1) hh Z (.inl (Array.getElem?_eq_none (by omega))) fun h' tk' hz => ?_)
    refine wpAny_pure (hR h' tk' acc c as (fun b o h1 h2 e => hz b o h2 (hkp b o h1 h2 e)) (hz S _ (.inr hSI) hS) (by omega) ⟨G.above, fun j a hj => ?_⟩ hacc)
    obtain ⟨c, d, ta, tb, e1, e2, e3⟩ := G.pairs j a hj
    have h1 : @LT.lt Nat _ S a := G.above a (List.mem_of_getElem? hj)
    exact ⟨c, d, ta, tb, e1, e2, hz a _ (.inr (by omega)) e3⟩
  | succ k ih =>
    intro i h tk c acc as hk hi hi2 Z hkp hS hacc hal G
    have hlt : i < X.cps.size := by omega
    refine codeAny_builtin PySem.F.entry_extend_loop ?_
    rw [Around.under_plainId PySem.F.plain_extend_loop _]
    show wpAny _ A.in1 (pyNext (.ref (I + 4)) >>= _) _ _ _
    by_cases hlt2 : i < Y.cps.size
    · refine wpAny_bind (ZL.next (s := { s with heap := h, toks := tk }) Z (Array.getElem?_eq_getElem hlt) (Array.getElem?_eq_getElem hlt2) fun h' tk' ta tb Z' hT hz hsz => ?_)
      dsimp only at hT hz hsz ⊢
      have hzl := Z.zlt
      have hSl : @LT.lt Nat _ S h.objs.size := Heap.lt_size hS
      have hS' := hz S _ (.inr hSI) hS
      have hasz : acc.size = i := by rw [← Array.length_toList, hacc, List.length_map, hal]
      have up : ∀ (b : Nat) o, b ≠ S → h'.get? b = some o → (h'.update S (Obj.mapSeq (·.push (Value.ref h.objs.size)))).get? b = some o := fun b o hb e => (Heap.get?_update_other _ _ (Ne.symm hb)).trans e
      show wpAny _ A.in1 (updateSeq S (·.push (Value.ref h.objs.size)) >>= _) _ _ _
      refine wpAny_bind ?_
      refine wpAny_updateSeq hS' rfl (wpAny_pure ⟨plainId_quiet PySem.F.plain_extend_loop _, ih (i + 1) _ tk' _ (acc.push (Value.ref h.objs.size)) (as ++ [h.objs.size]) (by omega) hlt hlt2 (Z'.keep hSI (fun c o hc e => up c o hc e) fun o e => ⟨_, Heap.get?_update_self _ hS' rfl⟩)
        (fun b o h1 h2 e => up b o h1 (hz b o h2 (hkp b o h1 h2 e))) (Heap.get?_update_self _ hS' rfl) (by rw [Array.toList_push, hacc, List.map_append]; rfl) (by rw [List.length_append, hal]; rfl) ⟨?_, ?_⟩⟩) (by rw [hasz, sizeLine_eq]; omega) (by show (acc.push (Value.ref h.objs.size)).size ≤ sizeLine + 1; rw [Array.size_push, hasz, sizeLine_eq]; omega)
      · intro a ha
        rcases List.mem_append.mp ha with ha | ha
        · exact G.above a ha
        · rw [List.mem_singleton.mp ha]; exact hSl
      · intro j b hj
        rcases Nat.lt_trichotomy j as.length with h1 | h1 | h1
        · rw [List.getElem?_append_left h1] at hj
          obtain ⟨c, d, ta', tb', e1, e2, e3⟩ := G.pairs j b hj
          have hb : @LT.lt Nat _ S b := G.above b (List.mem_of_getElem? hj)
          exact ⟨c, d, ta', tb', e1, e2, up b _ (by show @Ne Nat _ _; omega) (hz b _ (.inr (by omega)) e3)⟩
        · subst h1
          have hb : h.objs.size = b := by simpa using hj
          subst hb
          exact ⟨_, _, ta, tb, by rw [hal]; exact Array.getElem?_eq_getElem hlt, by rw [hal]; exact Array.getElem?_eq_getElem hlt2, up _ _ (by show @Ne Nat _ _; omega) hT⟩
        · have hnone : (as ++ [h.objs.size])[j]? = none := List.getElem?_eq_none (by rw [List.length_append, List.length_singleton]; omega)
          rw [hnone] at hj; cases hj
    · refine wpAny_bind (ZL.fin (s := { s with heap := h, toks := tk }) (A := A.in1) hh Z (.inr (Array.getElem?_eq_none (by omega))) fun h' tk' hz => ?_)
      refine wpAny_pure (hR h' tk' acc c as (fun b o h1 h2 e => hz b o h2 (hkp b o h1 h2 e)) (hz S _ (.inr hSI) hS) (by omega) ⟨G.above, fun j a hj => ?_⟩ hacc)
      obtain ⟨c, d, ta, tb, e1, e2, e3⟩ := G.pairs j a hj
      have h1 : @LT.lt Nat _ S a := G.above a (List.mem_of_getElem? hj)
      exact ⟨c, d, ta, tb, e1, e2, hz a _ (.inr (by omega)) e3⟩
theorem zip_no_len : typeLookup (.type "zip") "__len__" = pure none := by rw [typeLookup_type, builtinLookup_eq_fast]; kernel_rfl
theorem zip_no_hint : typeLookup (.type "zip") "__length_hint__" = pure none := by rw [typeLookup_type, builtinLookup_eq_fast]; kernel_rfl
theorem zl_extend {S I : Nat} {X Y : Str} {tx ty : Tok} {res : Value} {c₀ : Nat} (hh : A.handled = none) (hSI : I + 4 < S) (hX : X.cps.size ≤ 1000) (Z : ZOk s.heap I X tx Y ty 0 .none false) (hS : s.heap.get? S = some { cls := .type "list", data := .seq #[] c₀ })
    (hR : ∀ h' tk acc c as, (∀ (b : Nat) o, b ≠ S → (b < I ∨ I + 4 < b) → s.heap.get? b = some o → h'.get? b = some o) → h'.get? S = some { cls := .type "list", dict := none, data := .seq acc c, slots := #[] } → as.length = min X.cps.size Y.cps.size → Got h' X Y S as →
      acc.toList = as.map Value.ref → R (.ok (.ret res)) { s with heap := h', toks := tk }) :
    wpAny (model prog w) A.in1 (Builtin.List.listExtendWith (.ref S) (.ref (I + 4)) res)
      (fun fin s' => match fin with | .done f => R (.ok f) s' | .again c' => c'.quiet = true ∧ codeAny (model prog w) A c' R s') (fun e s' => R (.error e) s') s := by
  have hT : ∀ h gs dr tk os, ZOk h I X tx Y ty 0 .none false → (⟨h, gs, dr, tk, os⟩ : Shared).TypeIs (.ref (I + 4)) "zip" := fun _ _ _ _ _ Z => ⟨_, Z.z, rfl⟩
  unfold Builtin.List.listExtendWith
  refine wpAny_bind (wpAny_typeOf (T := "zip") ⟨_, Z.z, rfl⟩ ?_)
  have hne : ¬ @Eq Nat S (I + 4) := by omega
  have h1 : Builtin.List.listSameRef (.ref S) (.ref (I + 4)) = false := by simp [Builtin.List.listSameRef]; exact hne
  have h2 : (Value.type "zip" == Value.type "list") = false := by decide
  have h3 : (Value.type "zip" == Value.type "tuple") = false := by decide
  simp only [h1, h2, h3, Bool.or_false, Bool.false_eq_true, if_false]
  refine wpAny_bind (pyIter_zip Z ?_)
  refine wpAny_bind (wpAny_holding ?_)
  unfold Builtin.List.listLengthHint
  refine wpAny_bind (wpAny_specialOf (T := "zip") ⟨_, Z.z, rfl⟩ zip_no_len ?_)
  show wpAny _ A.in1 (specialOf (Value.ref (I + 4)) (Str.ofString "__length_hint__") >>= _) _ _ _
  refine wpAny_bind (wpAny_specialOf (T := "zip") ⟨_, Z.z, rfl⟩ zip_no_hint ?_)
  refine wpAny_pure ?_
  show wpAny _ A.in1 (rule "list.extend.makes-room" >>= fun _ => Builtin.List.listTouch (.ref S) >>= fun _ =>
    again (.builtin "list.extend.loop" ⟨[.ref S, .ref (I + 4), res], []⟩)) _ _ _
  refine wpAny_bind (wpAny_rule ?_)
  refine wpAny_bind ?_
  show wpAny _ A.in1 (updateSeq S (·.push .none) >>= fun _ => updateSeq S (·.pop)) _ _ _
  refine wpAny_bind (wpAny_updateSeq hS rfl ?_)
  have hS₂ := Heap.get?_update_self (Obj.mapSeq (·.push Value.none)) hS rfl
  refine wpAny_updateSeq (hz := by seq_fits) hS₂ rfl ?_
  have hS₃ := Heap.get?_update_self (Obj.mapSeq (·.pop)) hS₂ rfl
  have oth : ∀ (b : Nat) o, b ≠ S → s.heap.get? b = some o → ((s.heap.update S (Obj.mapSeq (·.push Value.none))).update S (Obj.mapSeq (·.pop))).get? b = some o :=
    fun b o hb e => (Heap.get?_update_other _ _ (Ne.symm hb)).trans ((Heap.get?_update_other _ _ (Ne.symm hb)).trans e)
  exact wpAny_pure ⟨plainId_quiet PySem.F.plain_extend_loop _, zl_loop (s := s) (h₁ := s.heap) hh hSI hX hR X.cps.size 0 _ s.toks _ #[] [] (Nat.sub_zero _) (Nat.zero_le _) (Nat.zero_le _)
    (.inl (zkeep_z (J := 0) Z fun c o hc e => oth c o (by omega) e)) (fun b o hb _ e => oth b o hb e) hS₃ rfl rfl ⟨fun _ ha => (nomatch ha), fun j a hj => by simp at hj⟩⟩
theorem zl_init {S I : Nat} {X Y : Str} {tx ty : Tok} (hh : A.handled = none) (hSI : I + 4 < S) (hX : X.cps.size ≤ 1000) (Z : ZOk s.heap I X tx Y ty 0 .none false) (hS : s.heap.get? S = some { cls := .type "list", data := .seq #[] })
    (hR : ∀ h' tk acc c as, (∀ (b : Nat) o, b ≠ S → (b < I ∨ I + 4 < b) → s.heap.get? b = some o → h'.get? b = some o) → h'.get? S = some { cls := .type "list", dict := none, data := .seq acc c, slots := #[] } → as.length = min X.cps.size Y.cps.size → Got h' X Y S as →
      acc.toList = as.map Value.ref → R (.ok (.ret .none)) { s with heap := h', toks := tk }) :
    wpAny (model prog w) A.in1 (Builtin.«list.__init__» ⟨[.ref S, .ref (I + 4)], []⟩)
      (fun fin s' => match fin with | .done f => R (.ok f) s' | .again c' => c'.quiet = true ∧ codeAny (model prog w) A c' R s') (fun e s' => R (.error e) s') s := by
  show wpAny _ _ (do let old ← Builtin.List.listItems (.ref S); Builtin.List.listUpdate (.ref S) (fun _ => #[]); letGo old.toList.reverse; Builtin.List.listExtendWith (.ref S) (.ref (I + 4)) .none) _ _ s
  refine wpAny_bind ?_
  unfold Builtin.List.listItems
  refine wpAny_bind (wpAny_seqItems hS rfl (wpAny_pure ?_))
  show wpAny _ A.in1 (updateSeq S (fun _ => #[]) >>= fun _ => letGo (#[] : Array Value).toList.reverse >>= fun _ => Builtin.List.listExtendWith (.ref S) (.ref (I + 4)) .none) _ _ s
  refine wpAny_bind (wpAny_updateSeq hS rfl ?_)
  have hS₂ := Heap.get?_update_self (Obj.mapSeq (fun _ => (#[] : Array Value))) hS rfl
  have oth : ∀ (b : Nat) o, b ≠ S → s.heap.get? b = some o → (s.heap.update S (Obj.mapSeq (fun _ => (#[] : Array Value)))).get? b = some o :=
    fun b o hb e => (Heap.get?_update_other _ _ (Ne.symm hb)).trans e
  refine wpAny_bind (wpAny_letGo ?_)
  refine zl_extend hh hSI hX (zkeep_z (J := 0) Z fun c o hc e => oth c o (by omega) e) hS₂ fun h' tk acc c as hk hS' hl hG hacc => ?_
  exact hR h' tk acc c as (fun b o hb hb2 e => hk b o hb hb2 (oth b o hb e)) hS' hl hG hacc
end
section
variable {prog : Program} {w : World} {A : Around} {E : Value → Shared → Prop} {s : Shared} {h₀ : Heap} {L : Addr} {m : Str → Option Value} {news : List (Addr × Obj)}
theorem list_zip {I : Nat} {X Y : Str} {tx ty : Tok} {Q : Value → Shared → Prop} (hh : A.handled = none) (hX : X.cps.size ≤ 1000) (Z : ZOk s.heap I X tx Y ty 0 .none false)
    (F : Fr h₀ L s.heap m) (N : News h₀ L s.heap news) (hL : @LT.lt Nat _ L I) (hn : ∀ p ∈ news, @LT.lt Nat _ p.1 I) (hb : ∀ b o, h₀.get? b = some o → @LT.lt Nat _ b I)
    (hQ : ∀ D h' tk (as : List Addr) c (tups : List (Addr × Obj)), Fr h₀ L h' m → News h₀ L h' ((D, W.listOf (as.map Value.ref).toArray c) :: (tups ++ news)) → as.length = min X.cps.size Y.cps.size →
      (∀ (j : Nat) (x y : Nat), X.cps[j]? = some x → Y.cps[j]? = some y → ∃ a ta tb, as[j]? = some a ∧ (a, prObj (.str ⟨#[x]⟩ ta) (.str ⟨#[y]⟩ tb)) ∈ tups) → (∀ p ∈ tups ++ news, @Ne Nat p.1 D) → Q (.ref D) { s with heap := h', toks := tk }) :
    wpAny (model prog w) A (call (.type "list") [.ref (I + 4)]) Q E s := by
  have hzl : @LT.lt Nat _ (I + 4) s.heap.objs.size := Heap.lt_size Z.z
  refine callType_codes (Q₁ := fun obj s₁ => obj = .ref s.heap.objs.size ∧ s₁ = { s with heap := s.heap.push { cls := .type "list", data := .seq #[] } }) PySem.F.called_list (PySem.F.typeCall_list_1 _) PySem.F.entry_list_init
    (code_list_new _ ⟨rfl, rfl⟩) fun obj s₁ h₁ => ?_
  obtain ⟨rfl, rfl⟩ := h₁
  have hS : (s.heap.push { cls := .type "list", data := .seq #[] }).get? s.heap.objs.size = some { cls := .type "list", data := .seq #[] } := Heap.get?_push_size _ rfl
  refine ⟨⟨_, hS, rfl⟩, PySem.F.args_list_init_2 _ _, zl_init (A := A.in1) hh hzl hX (zkeep_z (J := 0) Z fun c o _ e => Heap.get?_push_of_some _ e) hS (fun h' tk acc c as hk hS' hl hG hacc => ?_)⟩
  refine ⟨rfl, ?_⟩
  have old : ∀ (b : Nat) o, b < I → s.heap.get? b = some o → h'.get? b = some o := fun b o hbI e => hk b o (by omega) (.inl hbI) (Heap.get?_push_of_some _ e)
  have F' : Fr h₀ L h' m := ⟨F.ns.at' fun o e => old _ o hL e, fun b o e => old b o (hb b o e) (F.keep b o e), F.above⟩
  have fresh : ∀ a : Nat, I ≤ a → h₀.get? a = none := fun a ha => by
    cases e : h₀.get? a with
    | none => rfl
    | some o' => have h1 : @LT.lt Nat _ a I := hb _ _ e; omega
  have hacc' : acc = (as.map Value.ref).toArray := by rw [← hacc]
  subst hacc'
  have hLI : @LT.lt Nat _ L I := hL
  refine hQ s.heap.objs.size h' tk as c (as.filterMap fun a => (h'.get? a).map fun o => (a, o)) F' ?_ hl ?_ ?_
  · intro p hp
    rcases List.mem_cons.mp hp with rfl | hp
    · exact ⟨hS', by show @Ne Nat _ _; omega, fresh _ (by omega)⟩
    · rcases List.mem_append.mp hp with hp | hp
      · obtain ⟨a, ha, e⟩ := List.mem_filterMap.mp hp
        have h1 : @LT.lt Nat _ s.heap.objs.size a := hG.above a ha
        cases e2 : h'.get? a with
        | none => rw [e2] at e; cases e
        | some o =>
          rw [e2] at e
          obtain rfl : (a, o) = p := by simpa using e
          exact ⟨e2, by show @Ne Nat _ _; omega, fresh _ (by omega)⟩
      · exact ⟨old _ _ (hn p hp) (N p hp).1, (N p hp).2⟩
  · intro j x y hx hy
    have hjl : j < as.length := by
      rw [hl]
      have h1 := (Array.getElem?_eq_some_iff.mp hx).1
      have h2 := (Array.getElem?_eq_some_iff.mp hy).1
      omega
    obtain ⟨c', d', ta, tb, e1, e2, e3⟩ := hG.pairs j as[j] (List.getElem?_eq_getElem hjl)
    rw [hx] at e1; rw [hy] at e2
    cases e1; cases e2
    refine ⟨as[j], ta, tb, List.getElem?_eq_getElem hjl, List.mem_filterMap.mpr ⟨as[j], List.getElem_mem hjl, ?_⟩⟩
    rw [e3]; rfl
  · intro p hp
    rcases List.mem_append.mp hp with hp | hp
    · obtain ⟨a, ha, e⟩ := List.mem_filterMap.mp hp
      have h1 : @LT.lt Nat _ s.heap.objs.size a := hG.above a ha
      cases e2 : h'.get? a with
      | none => rw [e2] at e; cases e
      | some o =>
        rw [e2] at e
        obtain rfl : (a, o) = p := by simpa using e
        show @Ne Nat _ _; omega
    · have h1 : @LT.lt Nat _ p.1 I := hn p hp
      show @Ne Nat _ _; omega
end
end
section
open PySem PySem.W PyProof.Rows PySem.Calls PySem.Spec
variable {w : World}
theorem eqvAll_strs : ∀ l : List Str, PyData.eqvAll (l.map PyData.str) (l.map PyData.str) = true
  | [] => by simp [PyData.eqvAll]
  | x :: r => by simp [PyData.eqvAll, PyData.eqv, eqvAll_strs r]
theorem canLay_strs : ∀ l : List Str, (∀ x ∈ l, PyData.strOk x = true) → PyData.canLayAll0 (l.map PyData.str) = true
  | [], _ => rfl
  | x :: r, h => by simp [PyData.canLayAll0, PyData.canLay0, h x (by simp), canLay_strs r fun y hy => h y (by simp [hy])]
theorem depth_strs : ∀ l : List Str, PyData.depthAll (l.map PyData.str) = 0
  | [] => rfl
  | _ :: r => by simp [PyData.depthAll, PyData.depth, depth_strs r]
theorem carried_strs : ∀ l : List (Str × Tok), CarriedAll (strValues l) ((l.map (·.1)).map PyData.str)
  | [] => .nil
  | x :: r => .cons (.str x.1 x.2) (carried_strs r)
section
variable {prog : Program} {A : Around} {E : Value → Shared → Prop} {s : Shared} {h₀ : Heap} {L : Addr} {m : Str → Option Value} {news : List (Addr × Obj)}
theorem ne_strs {a b : Addr} {la lb : List (Str × Tok)} {e1 e2 : Nat} {Q : Value → Shared → Prop} (N : News h₀ L s.heap news) (h1 : (a, W.listOf (outsVal la) e1) ∈ news) (h2 : (b, W.listOf (outsVal lb) e2) ∈ news) (heq : la.map (·.1) = lb.map (·.1)) (hok : ∀ x ∈ la.map (·.1), PyData.strOk x = true) (hu : A.units + 64 < cLine)
    (h : Q (.bool false) s) : wpAny (model prog w) A (compareOp .NotEq (.ref a) (.ref b)) Q E s := by
  have ha : s.heap.IsList a (strValues la).toArray := ⟨_, (N _ h1).1, rfl, _, rfl⟩
  have hb : s.heap.IsList b (strValues lb).toArray := ⟨_, (N _ h2).1, rfl, _, rfl⟩
  have sh : ∀ l : List Str, (∀ x ∈ l, PyData.strOk x = true) → SeqAt.shaped (.list (l.map PyData.str)) = true := fun l hl => by
    simp [SeqAt.shaped, PyData.canLay0, PyData.depth, canLay_strs l hl, depth_strs]
  refine ne_dataH (reads_newData ha (carried_strs la)) (reads_newData hb (carried_strs lb)) (sh _ hok) (sh _ (heq ▸ hok)) hu ?_
  have e : PyData.eqv (.list ((la.map (·.1)).map PyData.str)) (.list ((lb.map (·.1)).map PyData.str)) = true := by
    rw [heq]; simp only [PyData.eqv]; exact eqvAll_strs _
  rw [e]; exact h
end
theorem plainL_lt {c k : Nat} {b : Bool} (h : c < 1114112) (hk : k ∈ plainL c b) : k < 1114112 := by
  unfold plainL at hk
  split at hk
  · simp at hk; omega
  · simp at hk; omega
theorem setText_lt (ps : Pairs) (h : ∀ q ∈ ps, q.1 < 1114112 ∧ q.2 < 1114112) : ∀ c ∈ setText ps, c < 1114112 := by
  have key : ∀ (ps : Pairs) (t : List Nat), (∀ q ∈ ps, q.1 < 1114112 ∧ q.2 < 1114112) → (∀ c ∈ t, c < 1114112) → ∀ c ∈ ps.foldl setStep t, c < 1114112 := by
    intro ps
    induction ps with
    | nil => intro t _ ht; exact ht
    | cons q r ih =>
      intro t hps ht
      rw [List.foldl_cons]
      refine ih _ (fun x hx => hps x (by simp [hx])) ?_
      have hq := hps q (by simp)
      unfold setStep
      split
      · exact ht
      · intro c hc
        rcases List.mem_append.mp hc with hc | hc
        · exact ht c hc
        · rcases List.mem_append.mp hc with hc | hc
          · exact plainL_lt hq.1 hc
          · rcases List.mem_cons.mp hc with rfl | hc
            · decide
            · exact plainL_lt hq.2 hc
  exact key ps [] h fun c hc => nomatch hc
theorem out_lt (ps : Pairs) (h : ∀ q ∈ ps, q.1 < 1114112 ∧ q.2 < 1114112) : ∀ c ∈ out ps, c < 1114112 := by
  rw [← lawSet_eq]
  intro c hc
  unfold lawSet at hc
  split at hc
  · simp at hc; omega
  · rcases List.mem_cons.mp hc with rfl | hc
    · decide
    · rcases List.mem_append.mp hc with hc | hc
      · exact setText_lt ps h c hc
      · simp at hc; omega
theorem strOk_S {l : List Nat} (h : ∀ c ∈ l, c < 1114112) : PyData.strOk (S l) = true := by
  unfold PyData.strOk
  rw [Array.all_eq_true]
  intro i hi
  have : (S l).cps[i] ∈ l := by
    have := List.getElem_mem (l := l) (n := i) (by simpa using hi)
    simpa using this
  simpa using h _ this
end
section
open PySem PySem.W PyProof.Rows PySem.Calls PySem.Spec
local macro_rules | `(tactic| walk_at "getAttr ref") => `(tactic| (k_here; (with_reducible show wpAny _ _ (getAttr (Value.ref _) (PySem.Str.ofString "append") _) _ _ _); k_dflt (refine' getAttr_appendN ?k1 ?k2 ?k3 ?_; (case k1 => k_asm); (case k2 => k_asm); (case k3 => k_mem); k_whole); intro q' h' tk' F' N' l1; (try k_lt l1)))
local macro_rules | `(tactic| walk_at "eval Name") => `(tactic| (k_here; (with_reducible show wpAny _ _ (eval _ (envOf _ _ _ _ _)) _ _ _); k_dflt (refine' ld ?k1 ?k2 ?_; (case k1 => k_asm); (case k2 => assumption); k_whole)))
local macro_rules | `(tactic| walk_at "subscriptTail Name Name str int") => `(tactic| (k_here; (with_reducible show wpAny _ _ (subscriptTail _ _ (Value.str _ _) (Value.int _ _)) _ _ _); k_dflt (refine' item_S ?k1 ?k2 ?_; (case k1 => k_extra "char"); (case k2 => assumption); k_whole); intro t' tk'; (try dsimp only)))
local macro_rules | `(tactic| walk_at "exec While Compare cons nil") => `(tactic| refine Stop.out ?_)
local macro_rules | `(tactic| walk_at "exec While BoolOp cons nil") => `(tactic| refine Stop.out ?_)
local macro_rules | `(tactic| walk_at "exec While Constant cons nil") => `(tactic| refine Stop.out ?_)
local macro_rules | `(tactic| walk_at "exec For") => `(tactic| refine Stop.out ?_)
local macro_rules | `(tactic| walk_at "exec For Name Call cons nil") => `(tactic| refine Stop.out ?_)
local macro_rules | `(tactic| walk_at "ite") => `(tactic| (k_here; k_dflt (first | (refine ite_isF (by assumption) ?_; walk_say "CUT") | (refine ite_pos (by assumption) ?_; walk_say "CUT"))))
local macro_rules | `(tactic| k_all) => `(tactic| assumption)
local macro_rules | `(tactic| walk_at "binaryOp Add int int") => `(tactic| (with_reducible refine add_int ?_; (try dsimp only)))
local macro_rules | `(tactic| walk_at "binaryOp Sub int int") => `(tactic| (with_reducible refine sub_int ?_; (try dsimp only)))
local macro_rules | `(tactic| walk_at "call builtin:str.find") => `(tactic| (k_here; k_dflt (first | (refine find_hit (c := 45) ?fx1 ?fx2 ?_; (case fx2 => assumption); (case fx1 => decide +kernel)) | (refine find_miss ?fx2 ?_; (case fx2 => assumption))); (try dsimp only)))
local macro_rules | `(tactic| walk_at "subscriptTail Name Slice str ref") => `(tactic| ((with_reducible show wpAny _ _ (subscriptTail _ (Expr.Slice (some _) (some _) none _) _ _) _ _ _); (with_reducible rename Fr _ _ _ _ => F'); (with_reducible rename News _ _ _ _ => N'); (refine' slice_ss_to (hsz := ?fxz) (s := ⟨_, _, _, _, _⟩) F' N' ?fxe ?_; (case fxe => assumption); (case fxz => size_fits)); intro _ _ _ _ _; (try k_sweep)))
local macro_rules | `(tactic| walk_at "subscriptTail Name Slice str ref") => `(tactic| ((with_reducible rename Fr _ _ _ _ => F'); (with_reducible rename News _ _ _ _ => N'); (first | (refine' slice_sn_to (hsz := ?fxz) (s := ⟨_, _, _, _, _⟩) F' N' slice_tl ?_; (case fxz => size_fits)) | (refine' slice_ns_to (hsz := ?fxz) (s := ⟨_, _, _, _, _⟩) F' N' slice_in ?_; (case fxz => size_fits))); intro _ _ _ _ _; (try k_sweep)))
local macro_rules | `(tactic| walk_at "subscriptTail Name") => `(tactic| (k_here; (with_reducible show wpAny _ _ (subscriptTail _ _ (Value.ref _) (Value.int _ _)) _ _ _); k_dflt (first | (refine' item_L ?fx1 ?fx2 ?fx3 ?_; (case fx1 => k_asm); (case fx2 => k_mem); (case fx3 => (refine ⟨?_, by assumption⟩; first | omega | (simp only [List.length_append, List.length_cons, List.length_nil]; omega))); k_whole) | (refine' item_L1 ?fx1 ?fx2 ?fx3 ?_; (case fx1 => k_asm); (case fx2 => k_mem); (case fx3 => (refine ⟨?_, by assumption⟩; first | omega | (simp only [List.length_append, List.length_cons, List.length_nil]; omega))); k_whole))))
local macro_rules | `(tactic| walk_at "subscriptTail Name UnaryOp str int") => `(tactic| (k_here; k_dflt (refine' item_last ?fx1 ?_; (case fx1 => assumption); k_whole); intro t' tk'; (try dsimp only)))
local macro_rules | `(tactic| walk_at "subscriptTail Name Constant str int") => `(tactic| (k_here; k_dflt (refine' item_S ?k1 ?k2 ?_; (case k1 => k_extra "char"); (case k2 => assumption); k_whole); intro t' tk'; (try dsimp only)))
local macro_rules | `(tactic| walk_at "setItem ref int") => `(tactic| (k_here; k_dflt (refine' set_L ?fx1 ?fx2 ?fx3 ?fx4 ?_; (case fx1 => k_asm); (case fx2 => k_asm); (case fx4 => k_upd); (case fx3 => (refine ⟨?_, by assumption⟩; first | omega | (simp only [List.length_append, List.length_cons, List.length_nil]; omega)))); intro h' F' N'; (try k_sweep)))
local macro_rules | `(tactic| walk_at "delItem ref int") => `(tactic| (k_here; k_dflt (refine' del_L ?fx1 ?fx2 ?fx3 ?fx4 ?_; (case fx1 => k_asm); (case fx2 => k_asm); (case fx4 => k_upd); (case fx3 => (refine ⟨?_, by assumption⟩; first | omega | (simp only [List.length_append, List.length_cons, List.length_nil]; omega)))); intro h' F' N'; (try k_sweep)))
local macro_rules | `(tactic| walk_at "call builtin:list.append") => `(tactic| (k_here; k_dflt (refine' append_S ?fx1 ?fx2 ?fx3 ?fx4 ?_; (case fx1 => k_asm); (case fx2 => k_asm); (case fx3 => k_upd); (case fx4 => first | assumption | omega)); intro h' F' N'; (try k_sweep)))
local macro_rules | `(tactic| walk_at "truthy str") => `(tactic| (k_here; k_dflt (first | (refine' truthy_S ?fx1 ?_; (case fx1 => assumption)) | (refine' truthy_S0 ?fx1 ?_; (case fx1 => assumption))); (try dsimp only)))
local macro_rules | `(tactic| walk_at "call builtin:len") => `(tactic| (k_here; (with_reducible show wpAny _ _ (call (Value.builtin "len") [Value.ref _]) _ _ _); k_dflt (refine' kun_lenL ?fx1 ?fx2 ?fx3 ?_; (case fx1 => exact News.isList (by k_asm) (by k_mem)); (case fx2 => exact outsVal_size _); (case fx3 => ((try simp only [List.length_append, List.length_cons, List.length_nil]); omega)); (try dsimp only))))
local macro_rules | `(tactic| walk_at "eval Name") => `(tactic| ((with_reducible show wpAny _ _ (eval _ (genEnv _ _ _ _ _ _)) _ _ _); k_dflt (refine' ld_gen ?fx1 ?fx2 ?_ ?fx3 ?fx4 ?fx5; (case fx1 => assumption); (case fx2 => assumption); (case fx3 => exact rfl); (case fx4 => exact rfl); (case fx5 => decide))))
local macro_rules | `(tactic| walk_at "call builtin:str.replace") => `(tactic| (k_dflt (refine' replace_tok ?fx1 ?fx2 ?fx3 ?_; (case fx1 => ((try dsimp only); refine ⟨?_, ?_⟩ <;> omega)); (case fx2 => decide +kernel); (case fx3 => (refine ⟨?_, ?_⟩; (first | assumption | omega); decide +kernel))); intro t' k' hk'; (try dsimp only at hk'); (try dsimp only)))
local macro_rules | `(tactic| walk_at "getMethod ref") => `(tactic| ((with_reducible show wpAny _ _ (getMethod (Value.ref 36) _ _) _ _ _); k_dflt (refine' method_sub ?fx1 ?_; (case fx1 => exact Fr.keep (by assumption) _ _ (by assumption)))))
local macro_rules | `(tactic| walk_at "getMethod ref") => `(tactic| ((with_reducible show wpAny _ _ (getMethod (Value.ref _) (PySem.Str.ofString "group") _) _ _ _); k_dflt (refine' method_group ?fx1 ?_; (case fx1 => exact News.get (by assumption) (.head _)))))
local macro_rules | `(tactic| walk_at "call builtin:re.Match.group") => `(tactic| (k_dflt (refine' call_group ?fx1 ?fx2 ?fx3 ?fx4 ?_; (case fx3 => exact News.get (by assumption) (.head _)); (case fx4 => exact News.get (by assumption) (.tail _ (.head _))); (case fx2 => assumption); (case fx1 => assumption)); intro t' tk'; (try dsimp only)))
section
theorem calm2 : True := by
  w_top off
  k_with_none
  trivial
variable {w : World} {p : Program} {loose : List Str} {mean : ExcName → Option Value} {mg mb : Str → Option Value}
set_option maxRecDepth 100000 in
set_option maxHeartbeats 8000000 in
theorem blkFor (ps : Pairs) (hne : ps ≠ []) (hP : ps.length ≤ 333)
    (dp un : Nat) (gd : Option (List Code)) (cn : Str) (cs : Scope) (L0 c : Addr) (ccd : Value) (cl : List (Str × Addr)) (outer : List Env) (base h₀ : Heap) (L : Addr) (m : Str → Option Value) (news : List (Addr × Obj)) (s : Shared)
    (Q : Flow → Shared → Prop) (E : Value → Shared → Prop) (lc : Addr) (la : List (Str × Tok)) (e : Nat)
    (B : Below (ktrTop dp un gd cn cs L0 c ccd cl outer) base (envX cn cs L0 c ccd cl :: outer) h₀) (X : (heapL w.params).In h₀) (T : Top p loose mean mg mb h₀)
    (F : Fr h₀ L s.heap m) (N : News h₀ L s.heap ((lc, W.listOf (outsVal la) e) :: news)) (hE : PassesOwn (model PR w) ((ktrTop dp un gd cn cs L0 c ccd cl outer).deeper (envOf (Str.ofString "_translate") trSc L 55 (.ref 54))) (envOf (Str.ofString "_translate") trSc L 55 (.ref 54)) E)
    (hla : la.map (·.1) = (heads [] ps ++ [lastp [] ps]).map S) (hm2 : m "chunks" = some (.ref lc)) (hoff : ∀ x ∈ news, x.1 ≠ lc)
    (hQ : ∀ s' m' lb e', Same s s' → Fr h₀ L s'.heap m' → News h₀ L s'.heap ((lc, W.listOf (outsVal lb) e') :: news) → Agree ["chunks", "k", "chunk", "i", "stuff"] m m' → m' "chunks" = some (.ref lc) → lb.map (·.1) = (merged [] ps).map S → Q .next s') :
    wpAny (model PR w) ((ktrTop dp un gd cn cs L0 c ccd cl outer).deeper (envOf (Str.ofString "_translate") trSc L 55 (.ref 54))) (exec trFor (envOf (Str.ofString "_translate") trSc L 55 (.ref 54))) Q E s := by
  have hfill : PySem.Challenge.rw_ij0015_01 = PySem.Challenge.rw_ij0015_01 ∧ heapL = heapL := by
    k_fill
    exact ⟨rfl, rfl⟩
  clear hfill
  have hsc : trSc = ⟨_, _, _, _, _⟩ := rfl
  rw [hsc] at hE ⊢
  clear hsc
  refine exec_of (b := .For _ _ _ _ _) rfl ?_
  have hlal : la.length = ps.length + 1 := by have := congrArg List.length hla; simpa [heads_length] using this
  have hlal2 : la.length ≤ 1000 := by omega
  refine For_J h₀ hE ?_
  k_steps
  refine forJ_range (n := ps.length) rfl (by assumption) (small_down (by omega)) (size_down (by omega)) (JM lc ps m news) (by assumption) (by assumption) ⟨rfl, id⟩ ?_ ?_ ?_
  · exact ⟨ps, [], la, e, by simp, rfl, hm2, hla, rfl, hoff, fun x hx => rfl⟩
  · clear hm2 hla
    intro I i v m2 news2 s2 o2 hi hv hJ2 hoffI hS2 F2 N2
    obtain ⟨tv, rfl⟩ := hv
    obtain ⟨a, b, lb, e, hab2, hbi, hm2, hlb, rfl, hoff2, hag⟩ := hJ2
    obtain ⟨a', q, rfl⟩ : ∃ a' q, a = a' ++ [q] := by
      rcases List.eq_nil_or_concat a with rfl | ⟨a', q, rfl⟩
      · rw [hab2] at hi; simp at hi; omega
      · exact ⟨a', q, by simp⟩
    obtain ⟨hd, tl, hmg, hmq⟩ := merged_cons (lastp [] a') q b
    rw [lastp_snoc, hmg, heads_snoc, List.append_assoc, List.map_append] at hlb
    obtain ⟨l1, t1, t2, l2, rfl, hl1, hl2⟩ := map_mid hlb
    have hl1n : l1.length = a'.length := by have := congrArg List.length hl1; simpa [heads_length] using this
    have hvv : la.length = a'.length + 1 + b.length + 1 := by have := congrArg List.length hab2; simp only [List.length_append, List.length_cons, List.length_nil] at this; omega
    have hIlc : @Ne Nat lc I := hoffI (lc, _) (.head _)
    have hIlc2 : @Ne Nat I lc := Ne.symm hIlc
    have hml := merged_length_le [q.2] b
    have hms := merged_short [q.2] b (q.2 :: hd) (by rw [hmg]; simp)
    have hlp := lastp_le a'
    rw [hmg] at hml
    have hl2n : l2.length = tl.length := by have := congrArg List.length hl2; simpa using this
    simp only [List.length_cons, List.length_nil] at hml hms
    have hl1le : l1.length ≤ 1000 := by omega
    have hl12 : l1.length + l2.length ≤ 1000 := by omega
    have hlpp : (lastp [] a').length ≤ 1000 := by omega
    have hq2l : (q.2 :: hd).length ≤ 1000 := by simp only [List.length_cons]; omega
    have hz1 : (S (q.2 :: hd)).length ≤ 1000 := by rw [S_len]; exact hq2l
    have hz2 : (S (lastp [] a' ++ [q.1])).length ≤ 1000 := by rw [S_len]; simp only [List.length_append, List.length_cons, List.length_nil]; omega
    have hch : (0 : Int) ≤ 0 ∧ (q.2 :: hd)[(0 : Int).toNat]? = some q.2 := ⟨Int.le_refl _, rfl⟩
    k_with "char" => assumption
    k_steps
    · have hlt : q.2 < q.1 := by
        have h : ([q.2] : List Nat) < [q.1] := by assumption
        simpa [List.cons_lt_cons_iff] using h
      refine ⟨_, _, by assumption, by assumption, hoffI.swap, ⟨a', q :: b, _, _, by rw [hab2]; simp, by simp [hbi], ?_, ?_, rfl, hoff2, ?_⟩, ⟨hS2.1, hS2.2⟩⟩
      · exact hm2
      · rw [hmq, if_pos hlt]; simp [hl1, hl2, S_append]
      · intro x hx
        refine Eq.trans ?_ (hag x hx)
        simp only [List.mem_cons, not_or] at hx
        dsimp only
        rw [if_neg hx.2.1]
    · have hlt : ¬ q.2 < q.1 := by
        have h : ¬ ([q.2] : List Nat) < [q.1] := by assumption
        simpa [List.cons_lt_cons_iff] using h
      refine ⟨_, _, by assumption, by assumption, hoffI.swap, ⟨a', q :: b, _, _, by rw [hab2]; simp, by simp [hbi], ?_, ?_, rfl, hoff2, ?_⟩, ⟨hS2.1, hS2.2⟩⟩
      · exact hm2
      · rw [hmq, if_neg hlt]; simp [hl1, hl2]
      · intro x hx
        refine Eq.trans ?_ (hag x hx)
        simp only [List.mem_cons, not_or] at hx
        dsimp only
        rw [if_neg hx.2.1]
  · intro s' m' news' hS' F' N' hJ
    obtain ⟨a, b, lb, e', hab, hbl, hm2', hlb, rfl, hoff', hag⟩ := hJ
    obtain rfl : a = [] := by
      have := congrArg List.length hab
      simp only [List.length_append] at this
      exact List.length_eq_zero_iff.mp (by omega)
    obtain rfl : ps = b := by simpa using hab
    exact hQ s' m' lb e' hS' F' N' hag hm2' (by simpa [heads, lastp] using hlb)
end
section
theorem calm3 : True := by
  w_top off
  k_with_none
  trivial
variable {w : World} {p : Program} {loose : List Str} {mean : ExcName → Option Value} {mg mb : Str → Option Value}
set_option maxRecDepth 100000 in
set_option maxHeartbeats 8000000 in
theorem blk1 (P : List Nat) (ps : Pairs) (hps : okPairs ps) (hP : P.length ≤ 1000) (i0 : Int)
    (pre post : List Nat) (hPd : P = pre ++ (cont ps ++ post)) (hi0 : i0 = pre.length)
    (dp un : Nat) (gd : Option (List Code)) (cn : Str) (cs : Scope) (L0 c : Addr) (ccd : Value) (cl : List (Str × Addr)) (outer : List Env) (base h₀ : Heap) (L : Addr) (m : Str → Option Value) (tab : Array Value) (rest : List (Addr × Obj)) (s : Shared) (t ti tj : Tok)
    (Q : Flow → Shared → Prop) (E : Value → Shared → Prop)
    (B : Below (ktrTop dp un gd cn cs L0 c ccd cl outer) base (envX cn cs L0 c ccd cl :: outer) h₀) (X : (heapL w.params).In h₀) (T : Top p loose mean mg mb h₀)
    (F : Fr h₀ L s.heap m) (N : News h₀ L s.heap ((50, tabObj tab) :: rest)) (htr : TriplesOk tab.toList) (hrest : ∀ q ∈ rest, q.1 ≠ 50) (hE : PassesOwn (model PR w) ((ktrTop dp un gd cn cs L0 c ccd cl outer).deeper (envOf (Str.ofString "_translate") trSc L 55 (.ref 54))) (envOf (Str.ofString "_translate") trSc L 55 (.ref 54)) E)
    (hm1 : m "pat" = some (.str (S P) t)) (hm4 : m "i" = some (.int i0 ti)) (hm6 : m "j" = some (.int (i0 + 3 * ps.length) tj))
    (hroom : dp + 20 < recursionLimit)
    (hQ : ∀ s' m' ts tab', TabRel ⟨57, 37, 57, 98⟩ tab tab' → Same s s' → Fr h₀ L s'.heap m' → News h₀ L s'.heap ((50, tabObj tab') :: rest) → Agree ["chunks", "k", "chunk", "i", "stuff"] m m' → m' "stuff" = some (.str (S (glue ((merged [] ps).map esc))) ts) → Q .next s') :
    wpAny (model PR w) ((ktrTop dp un gd cn cs L0 c ccd cl outer).deeper (envOf (Str.ofString "_translate") trSc L 55 (.ref 54))) (execs trBlk (envOf (Str.ofString "_translate") trSc L 55 (.ref 54))) Q E s := by
  have hfill : PySem.Challenge.rw_ij0015_01 = PySem.Challenge.rw_ij0015_01 ∧ heapL = heapL := by
    k_fill
    exact ⟨rfl, rfl⟩
  clear hfill
  have hsc : trSc = ⟨_, _, _, _, _⟩ := rfl
  rw [hsc] at hE ⊢
  clear hsc
  refine execs_of (b := _ :: _) rfl ?_
  obtain ⟨q0, qs, rfl⟩ : ∃ q0 qs, ps = q0 :: qs := by
    obtain ⟨h1, _⟩ := hps
    cases ps with
    | nil => exact absurd rfl h1
    | cons a b => exact ⟨a, b, rfl⟩
  have hc0 : 0 ≤ i0 ∧ P[i0.toNat]? = some q0.1 := ⟨by omega, by rw [hPd, hi0, cont_cons]; simp⟩
  have hq0 := hps.2 q0 (by simp)
  have he1 : ((⟨#[q0.1]⟩ : Str) == Str.ofString "!") = false := by
    rw [show Str.ofString "!" = ⟨#[33]⟩ from by decide +kernel]; have := hq0.1.1; simpa using this
  k_with "char" => assumption
  k_steps
  unfold Stop
  rename_i lc ha hlt hb tk0 ts tk1 hh F1 N1
  refine While_J (JF P t i0 lc (q0 :: qs) m ((50, tabObj tab) :: rest)) (q0 :: qs).length (by assumption) (by assumption) hE ?_ ?_
  · refine ⟨[], q0 :: qs, [], 0, rfl, rfl, hm1, rfl, int_is hm4 (by show i0 = i0 + 3 * (0 : Nat) - (0 : Nat); omega), int_is rfl (by show i0 + 1 = i0 + 1 + 3 * (0 : Nat); omega), ⟨_, hm6⟩, rfl, rfl, fun x hx => Nat.ne_of_lt (allLt_mem (l := (50, tabObj tab) :: rest) hlt x hx), ?_⟩
    intro x hx
    simp only [List.mem_cons, not_or] at hx
    obtain ⟨x1, x2, _⟩ := hx
    dsimp only
    rw [if_neg x2, if_neg x1]
  · clear F1 N1 hm1 hm4 hm6
    intro n1 m1 news1 s1 hS hJ F1 N1
    obtain ⟨a, b, la, e, hab, rfl, hm1, hm2, ⟨ti1, hm4⟩, ⟨tk1, hm5⟩, ⟨tj1, hm6⟩, hla, rfl, hoff, hag⟩ := hJ
    have hlen : (S P).length = P.length := S_len P
    have hplen : P.length = pre.length + 3 * (q0 :: qs).length + post.length := by rw [hPd]; simp [cont_length]; omega
    have hlal : la.length = a.length := by have := congrArg List.length hla; simpa [heads_length] using this
    have hlal2 : la.length ≤ 1000 := by have := congrArg List.length hab; simp only [List.length_append] at this; omega
    cases b with
    | nil =>
      obtain rfl : q0 :: qs = a := by simpa using hab
      have hmiss : 0 ≤ i0 + 3 * (((q0 :: qs).length : Nat) : Int) ∧ i0 + 3 * (((q0 :: qs).length : Nat) : Int) < i0 + 1 + 3 * (((q0 :: qs).length : Nat) : Int) := ⟨by omega, by omega⟩
      obtain ⟨u, hu1, hu2⟩ := lastp_split (q0 :: qs)
      obtain ⟨z, hz⟩ := lastp_one (a := q0 :: qs) (by simp)
      have hP3 : P = (pre ++ u) ++ ([z] ++ post) := by
        rw [hPd, hu1, hz]; simp
      have hul : u.length + 1 = 3 * (q0 :: qs).length := by rw [hz] at hu2; exact hu2
      have hsl : Txt.slice (S P) (some (i0 + 3 * (((q0 :: qs).length : Nat) : Int) - (((lastp [] (q0 :: qs)).length : Nat) : Int))) (some (i0 + 3 * (((q0 :: qs).length : Nat) : Int))) = S [z] := slice_mid hP3 (by rw [hz]; simp at *; omega) (by simp at *; omega)
      have hzz : [z] ≠ [] ∧ [z].length ≤ 2000 := ⟨by simp, by simp⟩
      k_steps
      unfold TurnTo
      k_steps
      unfold Stop
      refine blkFor (q0 :: qs) (by simp) (by simp at *; omega) dp un gd cn cs L0 c ccd cl outer base h₀ L _ ((50, tabObj tab) :: rest) _ _ _ lc _ _ B X T (by assumption) (by assumption) hE ?_ ?_ hoff ?_
      · rw [List.map_append, List.map_append, hla, hz]; rfl
      · exact hm2
      intro s' m' lb e' hS' F' N' hag' hm2' hlb
      k_steps
      refine' gen_T (P := 50) (c := 54) (l := lc) (items := outsVal lb) (e := e') (ps := tab) (fun i y => ∃ x t' t'', lb[i]? = some (x, t') ∧ y = .str (Txt.replace (Txt.replace x (Str.ofString "\\") (Str.ofString "\\\\")) (Str.ofString "-") (Str.ofString "\\-")) t'')
        ?fy1 ?fy2 T ?fy3 rfl ?fy4 htr rfl rfl ?fy5 ?fy6 ?fy7 ?fy8 ?fy9 ?fy10 ?fy11 ?fy12 ?fy13 ?fy14 ?fy15 ?fy16 ?fy17
      case fy1 => assumption
      case fy2 => assumption
      case fy3 => exact codeHd_of_K X (by kernel_rfl)
      case fy4 => exact .tail _ (.head _)
      case fy5 => exact rfl
      case fy6 => decide
      case fy7 => exact rfl
      case fy8 => exact rfl
      case fy9 => exact rfl
      case fy10 => show dp + 1 < recursionLimit; omega
      case fy11 => exact .head _
      case fy12 => exact hm2'
      case fy13 => exact rfl
      case fy14 => exact rfl
      case fy15 => decide
      case fy16 =>
        intro Cd ce A' E' i v s₂ m₂ hA hit htk hns hmx
        obtain ⟨x, tx, hx, rfl⟩ := outsVal_some hit
        obtain ⟨y, hy, rfl⟩ := map_some hlb hx
        have hyl := merged_short [] (q0 :: qs) y (List.mem_of_getElem? hy)
        have hyl1 : (S y).length ≤ 1000 := by rw [S_len]; simp only [List.length_nil, List.length_cons] at *; omega
        have hyl2 : (Txt.replace (S y) (Str.ofString "\\") (Str.ofString "\\\\")).length ≤ 2000 := by
          rw [show Str.ofString "\\" = ⟨#[92]⟩ from by decide +kernel, show Str.ofString "\\\\" = S [92, 92] from by decide +kernel, replace_S, S_len]
          have := subst1_length_le 92 [92, 92] 2 (by decide) (by decide) y
          rw [S_len] at hyl1; omega
        k_steps
        exact ⟨⟨_, _, _, hx, rfl⟩, _, _, rfl, fun _ _ e => e⟩
      case fy17 =>
        intro tab' a' s₅ hrel F₅ N₅ hP₅ hS₅ X₅
        have N6 : News h₀ L s₅.heap ((50, tabObj tab') :: rest) := by
          intro x hx
          rcases List.mem_cons.mp hx with rfl | hx
          · exact ⟨hP₅, (N' (50, tabObj tab) (.tail _ (.head _))).2⟩
          · exact ⟨N₅ x (.tail _ (.tail _ hx)) (hrest x hx), (N' x (.tail _ (.tail _ hx))).2⟩
        have hKn : ∀ x ∈ ((50, tabObj tab') :: rest), x.1 ≤ s'.heap.objs.size - 1 := by
          intro x hx
          rcases List.mem_cons.mp hx with rfl | hx
          · exact Nat.le_sub_one_of_lt (Heap.lt_size (N' (50, tabObj tab) (.tail _ (.head _))).1)
          · exact Nat.le_sub_one_of_lt (Heap.lt_size (N' x (.tail _ (.tail _ hx))).1)
        have hlbl : lb.length = (merged [] (q0 :: qs)).length := by have := congrArg List.length hlb; simpa using this
        have hsize : (outsVal lb).size = (merged [] (q0 :: qs)).length := by rw [← hlbl]; unfold outsVal strValues; simp
        have hmle := merged_length_le [] (q0 :: qs)
        rw [passing_all, hsize] at X₅
        have htexts := range_esc (merged [] (q0 :: qs))
        k_steps
        refine join_J F₅ N6 X₅ (Nat.le_sub_one_of_lt F'.ns.lt) hKn (fun j => S (esc ((merged [] (q0 :: qs)).getD j []))) ?_ ?_ ?_ ?_
        · rintro j v ⟨i, hi, x, t', t'', hx, rfl⟩
          obtain ⟨y, hy, rfl⟩ := map_some hlb hx
          have hij : i = j := by
            obtain ⟨h1, h2⟩ := List.getElem?_eq_some_iff.mp hi
            simpa using h2.symm
          subst hij
          refine ⟨t'', ?_⟩
          rw [replace_esc, List.getD_eq_getElem?_getD, hy]; rfl
        · rw [List.length_range, htexts]
          refine joinOk_of_len 2000 ?_ ?_
          · intro x hx
            simp only [List.map_map, List.mem_map, Function.comp] at hx
            obtain ⟨y, hy, rfl⟩ := hx
            have h1 := merged_short [] (q0 :: qs) y hy
            have h2 := esc_length_le y
            rw [S_len]
            simp only [List.length_nil, List.length_cons] at *
            omega
          · rw [show (Str.ofString "-").length = 1 from by decide +kernel]
            simp only [List.length_map, List.length_cons] at *
            omega
        · intro s6 t6 F6 N6' hS6
          rw [List.length_range, htexts, show Str.ofString "-" = S [45] from by decide +kernel, txt_join]
          k_steps
          refine hQ _ _ _ tab' hrel ⟨hS6.1.trans (hS₅.1.trans (hS'.1.trans hS.1)), fun G => hS6.2 (hS₅.2 (hS'.2 (hS.2 G)))⟩ (by assumption) (by assumption) ?_ rfl
          intro x hx
          have h1 := hx
          simp only [List.mem_cons, not_or] at hx
          obtain ⟨x1, x2, x3, x4, x5, _⟩ := hx
          dsimp only
          rw [if_neg x5]
          refine (hag' x h1).trans (Eq.trans ?_ (hag x h1))
          simp only [if_neg x2, if_neg x3]
        · rw [List.length_range]; exact Nat.le_trans (show _ ≤ 1000 by simp only [List.length_cons] at *; omega) (by decide)
    | cons q b' =>
      obtain ⟨u, hu1, hu2⟩ := lastp_split a
      have hlab : (q0 :: qs).length = a.length + (b'.length + 1) := by rw [hab]; simp
      have hP3 : P = (pre ++ u) ++ ((lastp [] a ++ [q.1]) ++ (45 :: q.2 :: (cont b' ++ post))) := by
        rw [hPd, hab, cont_append, hu1, cont_cons]; simp
      have hsl : Txt.slice (S P) (some (i0 + 3 * (a.length : Int) - ((lastp [] a).length : Int))) (some (i0 + 1 + 3 * (a.length : Int))) = S (lastp [] a ++ [q.1]) := slice_mid hP3 (by simp; omega) (by simp; omega)
      have hfind : 0 ≤ i0 + 1 + 3 * (a.length : Int) ∧ i0 + 1 + 3 * (a.length : Int) < i0 + 3 * (((q0 :: qs).length : Nat) : Int) ∧ i0 + 3 * (((q0 :: qs).length : Nat) : Int) ≤ P.length ∧ P[(i0 + 1 + 3 * (a.length : Int)).toNat]? = some 45 :=
        ⟨by omega, by omega, by omega, by
          rw [hP3, ← List.append_assoc, show (i0 + 1 + 3 * (a.length : Int)).toNat = ((pre ++ u) ++ (lastp [] a ++ [q.1])).length by simp; omega]; simp⟩
      k_steps
      refine ⟨_, _, by assumption, by assumption, ⟨b'.length, by simp, a ++ [q], b', _, _, by rw [hab]; simp, rfl, ?_, ?_, ?_, ?_, ?_, ?_, rfl, hoff, ?_⟩, ⟨hS.1, hS.2⟩⟩
      · exact hm1
      · exact hm2
      · exact int_is rfl (by rw [lastp_snoc]; simp; omega)
      · exact int_is rfl (by simp; omega)
      · exact ⟨_, hm6⟩
      · rw [heads_snoc, List.map_append, List.map_append, hla]; rfl
      · intro x hx
        refine Eq.trans ?_ (hag x hx)
        simp only [List.mem_cons, not_or] at hx
        obtain ⟨x1, x2, x3, x4, _⟩ := hx
        dsimp only
        first | rw [if_neg x2, if_neg x4, if_neg x2] | rw [if_neg x2, if_neg x4]
end
section
theorem calm4 : True := by
  w_top off
  k_with_none
  trivial
variable {w : World} {p : Program} {loose : List Str} {mean : ExcName → Option Value} {mg mb : Str → Option Value}
set_option maxRecDepth 100000 in
set_option maxHeartbeats 2000000 in
theorem blk2a (u : List Nat) (hu : u.length ≤ 1000)
    (dp un : Nat) (gd : Option (List Code)) (cn : Str) (cs : Scope) (L0 c : Addr) (ccd : Value) (cl : List (Str × Addr)) (outer : List Env) (base h₀ : Heap) (L : Addr) (m : Str → Option Value) (tab : Array Value) (rest : List (Addr × Obj)) (s : Shared) (ts : Tok)
    (Q : Flow → Shared → Prop) (E : Value → Shared → Prop)
    (B : Below (ktrTop dp un gd cn cs L0 c ccd cl outer) base (envX cn cs L0 c ccd cl :: outer) h₀) (X : (heapL w.params).In h₀) (T : Top p loose mean mg mb h₀)
    (F : Fr h₀ L s.heap m) (N : News h₀ L s.heap ((50, tabObj tab) :: rest)) (h50 : ∀ x ∈ rest, x.1 ≠ 50)
    (hE : PassesOwn (model PR w) ((ktrTop dp un gd cn cs L0 c ccd cl outer).deeper (envOf (Str.ofString "_translate") trSc L 55 (.ref 54))) (envOf (Str.ofString "_translate") trSc L 55 (.ref 54)) E)
    (hms : m "stuff" = some (.str (S u) ts)) (hT : TabMid tab rest) (hroom : dp + 20 < recursionLimit)
    (hQ : ∀ h' tk' m' t' cg' cl' oc, OcOk oc → @Ne Nat cl' 50 → Fr h₀ L h' m' → News h₀ L h' ((50, tabObj (tab2 cg' cl')) :: (cl', oc) :: rest) → Agree ["stuff"] m m' → m' "stuff" = some (.str (S (escAmp u)) t') → Q .next { s with heap := h', toks := tk' }) :
    wpAny (model PR w) ((ktrTop dp un gd cn cs L0 c ccd cl outer).deeper (envOf (Str.ofString "_translate") trSc L 55 (.ref 54))) (exec trSub (envOf (Str.ofString "_translate") trSc L 55 (.ref 54))) Q E s := by
  have hfill : PySem.Challenge.rw_ij0015_01 = PySem.Challenge.rw_ij0015_01 ∧ heapL = heapL := by
    k_fill
    exact ⟨rfl, rfl⟩
  clear hfill
  have hsc : trSc = ⟨_, _, _, _, _⟩ := rfl
  rw [hsc] at hE ⊢
  clear hsc
  refine exec_of (b := .Assign _ _ _) rfl ?_
  have h36 : h₀.get? 36 = some patObj := X _ _ (by with_unfolding_all rfl)
  have h35 : h₀.get? 35 = some codeTup := X _ _ (by with_unfolding_all rfl)
  k_steps
  refine lam_J (rest := rest) (by assumption) (by assumption) h50 hT T (codeHd_of_K X (by kernel_rfl)) rfl rfl ?_
  clear N F
  intro f cg c' oc ctv h1 tk1 F N hoc hc50 hlt hcf
  obtain ⟨vs, tq, hvs, hvs1⟩ := id hoc
  k_steps
  refine sub_call (x := S u) (lam := f) (by simpa using hu) h36 h35 ?_ (.head _) (by assumption) (by assumption) ?_
  · intro s₁ ma ta news₁ p Q' E' hp F1 N1 hsub hma' hta hret
    have n1 := news_cons (hsub _ (.tail _ (.head _))) N1
    have n2 := news_cons (.tail _ (hsub _ (.head _))) n1
    have n3 := news_cons (.tail _ (.tail _ hta)) n2
    have N2 := news_cons (.tail _ (.tail _ (.tail _ hma'))) n3
    clear n1 n2 n3
    clear N N1
    refine wpAny_call ?_
    have hux : (S u).cps.size ≤ 1000 := by simpa using hu
    have hz1 : [u.toArray.getD p 0] ≠ [] ∧ [u.toArray.getD p 0].length ≤ 2000 := ⟨by simp, by simp⟩
    k_dflt (refine' kla_code ?k1 ?k2 ?k3 ?k4 ?k5 ?kA ?kF ?kK ?k6 ?k7 ?k8 ?k9 ?kB ?_ ?c2 ?c3 ?c4 ?c5; (case kA => exact rfl); (case kF => exact rfl); (case kK => exact rfl); (case k1 => k_asm); (case k2 => k_asm); (case k3 => k_asm); (case k4 => k_asm); (case k5 => k_asm); (case k6 => k_mem); (case k7 => exact codeRec_news (by k_asm) (by k_mem) (by assumption) (by assumption)); (case k8 => (show dp + 1 < recursionLimit); omega); (case k9 => exact rfl); (case c5 => decide); (case kB => exact locs rfl); (case c2 => exact rfl); (case c3 => exact rfl); (case c4 => exact rfl); k_whole; intro g' L' h' FG' F' N' B' X' T'; (try dsimp only); (try k_fold))
    k_steps
    rw [plain_bs]
    exact hret _ _ _ (by assumption) (fun x hx => (by assumption : News h₀ _ _ (_ :: _ :: _ :: _ :: news₁)) x (.tail _ (.tail _ (.tail _ (.tail _ hx)))))
  · intro t' h' tk' F' N'
    have hue : (S u).cps.toList = u := by simp
    rw [hue]
    k_steps
    refine hQ _ _ _ _ cg c' oc hoc hc50 (by assumption) (fun x hx => ?_) ?_ rfl
    · rcases List.mem_cons.mp hx with rfl | hx
      · exact (by assumption : News h₀ _ _ (_ :: _ :: _ :: rest)) _ (.tail _ (.tail _ (.head _)))
      · rcases List.mem_cons.mp hx with rfl | hx
        · exact (by assumption : News h₀ _ _ (_ :: _ :: _ :: rest)) _ (.tail _ (.head _))
        · exact (by assumption : News h₀ _ _ (_ :: _ :: _ :: rest)) _ (.tail _ (.tail _ (.tail _ hx)))
    · intro x hx
      simp only [List.mem_singleton] at hx
      dsimp only
      rw [if_neg hx]
end
section
theorem calm5 : True := by
  w_top off
  k_with_none
  trivial
variable {w : World} {p : Program} {loose : List Str} {mean : ExcName → Option Value} {mg mb : Str → Option Value}
local macro_rules | `(tactic| walk_at "callWith ref") => `(tactic| (k_here; (with_reducible show wpAny _ _ (callWith _ (Value.ref _) _ _ _) _ _ _); k_dflt (refine' callWith_Bnd ?_)))
local macro_rules | `(tactic| walk_at "BndAt") => `(tactic| exact BndAt.of (by k_asm) (by k_mem))
local macro_rules | `(tactic| walk_at "call ref") => `(tactic| refine Stop.out ?_)
theorem empty_is : Str.empty = S [] := rfl
theorem front_in (c : Nat) : ([Str.ofString "^", Str.ofString "["].any fun x => x == (⟨#[c]⟩ : Str)) = decide (c = 94 ∨ c = 91) := by
  rw [show Str.ofString "^" = S [94] from by decide +kernel, show Str.ofString "[" = S [91] from by decide +kernel]
  have e : ∀ k : Nat, (S [k] == (⟨#[c]⟩ : Str)) = decide (c = k) := fun k => by
    by_cases h : c = k
    · subst h; simp
    · rw [decide_eq_false h]; simp; exact fun e => h e.symm
  simp [e]
set_option maxRecDepth 100000 in
set_option maxHeartbeats 2000000 in
theorem blk2b (v : List Nat) (hv : v.length ≤ 800) (hv33 : ∀ c ∈ v, c ≠ 33) (j0 : Int)
    (dp un : Nat) (gd : Option (List Code)) (cn : Str) (cs : Scope) (L0 c : Addr) (ccd : Value) (cl : List (Str × Addr)) (outer : List Env) (base h₀ : Heap) (L : Addr) (m : Str → Option Value) (q r e : Nat) (la : List (Str × Tok)) (rest : List (Addr × Obj)) (s : Shared) (tj ts : Tok)
    (Q : Flow → Shared → Prop) (E : Value → Shared → Prop)
    (B : Below (ktrTop dp un gd cn cs L0 c ccd cl outer) base (envX cn cs L0 c ccd cl :: outer) h₀) (X : (heapL w.params).In h₀) (T : Top p loose mean mg mb h₀)
    (F : Fr h₀ L s.heap m) (N : News h₀ L s.heap (qr q r la e rest)) (hrestr : ∀ x ∈ rest, x.1 ≠ r) (hqr : @Ne Nat q r) (hla : la.length ≤ 900)
    (hE : PassesOwn (model PR w) ((ktrTop dp un gd cn cs L0 c ccd cl outer).deeper (envOf (Str.ofString "_translate") trSc L 55 (.ref 54))) (envOf (Str.ofString "_translate") trSc L 55 (.ref 54)) E)
    (hm6 : m "j" = some (.int j0 tj)) (hms : m "stuff" = some (.str (S v) ts)) (hma : m "add" = some (.ref q))
    (hQ : ∀ h' tk' m' t', Fr h₀ L h' m' → News h₀ L h' (qr q r (la ++ [(S (outL v), t')]) (e + 1) rest) → Agree ["i", "stuff"] m m' → IntIs (m' "i") (j0 + 1) → Q .next { s with heap := h', toks := tk' }) :
    wpAny (model PR w) ((ktrTop dp un gd cn cs L0 c ccd cl outer).deeper (envOf (Str.ofString "_translate") trSc L 55 (.ref 54))) (execs trRest (envOf (Str.ofString "_translate") trSc L 55 (.ref 54))) Q E s := by
  have hfill : PySem.Challenge.rw_ij0015_01 = PySem.Challenge.rw_ij0015_01 ∧ heapL = heapL := by
    k_fill
    exact ⟨rfl, rfl⟩
  clear hfill
  have hsc : trSc = ⟨_, _, _, _, _⟩ := rfl
  rw [hsc] at hE ⊢
  clear hsc
  refine execs_of (b := _ :: _) rfl ?_
  have hla2 : la.length ≤ 1000 := by omega
  cases v with
  | nil =>
    have hnil : ([] : List Nat) = [] := rfl
    k_steps
    unfold Stop
    refine add_one (rest := rest) (by assumption) (by assumption) (fun p hp => hp) hqr hrestr hla2 ?_
    intro h9 F9 N9
    k_steps
    refine hQ _ _ _ _ (by assumption) N9 ?_ (int_is rfl rfl)
    intro x hx
    simp only [List.mem_cons, not_or] at hx
    dsimp only
    rw [if_neg hx.1]
  | cons v0 vs' =>
    have hne : (v0 :: vs') ≠ [] ∧ (v0 :: vs').length ≤ 2000 := ⟨by simp, by omega⟩
    have hl1 : (v0 :: vs').length ≤ 1000 := by omega
    have hz1 : (S (v0 :: vs')).length ≤ 1000 := by rw [S_len]; exact hl1
    have h0 := hv33 v0 (by simp)
    have hb1 : (S (v0 :: vs') == Str.ofString "!") = false := by
      rw [show Str.ofString "!" = S [33] from by decide +kernel]; simp; intro e; exact absurd e h0
    have hb2 : ((⟨#[v0]⟩ : Str) == Str.ofString "!") = false := by
      rw [show Str.ofString "!" = S [33] from by decide +kernel]; simpa using h0
    have hch : (0 : Int) ≤ 0 ∧ (v0 :: vs')[(0 : Int).toNat]? = some v0 := ⟨Int.le_refl _, rfl⟩
    k_with "char" => assumption
    have hin := front_in v0
    k_steps
    · have hfr : v0 = 94 ∨ v0 = 91 := by
        have := hin.symm.trans (by assumption)
        simpa using this
      have e1 : Str.empty ++ Str.ofString "[" ++ (Str.ofString "\\" ++ S (v0 :: vs')) ++ Str.ofString "]" = S (outL (v0 :: vs')) := by
        rw [empty_is, show Str.ofString "[" = S [91] from by decide +kernel, show Str.ofString "]" = S [93] from by decide +kernel, show Str.ofString "\\" = S [92] from by decide +kernel, S_append, S_append, S_append, S_append]
        unfold outL
        rw [if_neg (by simp), frontEsc_cons, if_pos hfr]; simp
      unfold Stop
      rw [e1]
      refine add_one (rest := rest) (by assumption) (by assumption) (fun p hp => .tail _ hp) hqr hrestr hla2 ?_
      intro h9 F9 N9
      k_steps
      refine hQ _ _ _ _ (by assumption) N9 ?_ (int_is rfl rfl)
      intro x hx
      simp only [List.mem_cons, not_or] at hx
      dsimp only
      first | rw [if_neg hx.2.1, if_neg hx.1] | rw [if_neg hx.1]
    · have hfr : ¬ (v0 = 94 ∨ v0 = 91) := by
        have := hin.symm.trans (by assumption)
        simpa using this
      have e1 : Str.empty ++ Str.ofString "[" ++ S (v0 :: vs') ++ Str.ofString "]" = S (outL (v0 :: vs')) := by
        rw [empty_is, show Str.ofString "[" = S [91] from by decide +kernel, show Str.ofString "]" = S [93] from by decide +kernel, S_append, S_append, S_append]
        unfold outL
        rw [if_neg (by simp), frontEsc_cons, if_neg hfr]; simp
      unfold Stop
      rw [e1]
      refine add_one (rest := rest) (by assumption) (by assumption) (fun p hp => .tail _ hp) hqr hrestr hla2 ?_
      intro h9 F9 N9
      k_steps
      refine hQ _ _ _ _ (by assumption) N9 ?_ (int_is rfl rfl)
      intro x hx
      simp only [List.mem_cons, not_or] at hx
      dsimp only
      first | rw [if_neg hx.2.1, if_neg hx.1] | rw [if_neg hx.1]
end
section
theorem calm6 : True := by
  w_top off
  k_with_none
  trivial
variable {w : World} {p : Program} {loose : List Str} {mean : ExcName → Option Value} {mg mb : Str → Option Value}
local macro_rules | `(tactic| walk_at "ite") => `(tactic| refine Stop.out ?_)
set_option maxRecDepth 100000 in
set_option maxHeartbeats 8000000 in
theorem if1 (P : List Nat) (ps : Pairs) (hps : okPairs ps) (hP : P.length ≤ 1000) (i0 : Int)
    (pre post : List Nat) (hPd : P = pre ++ (cont ps ++ post)) (hi0 : i0 = pre.length)
    (dp un : Nat) (gd : Option (List Code)) (cn : Str) (cs : Scope) (L0 c : Addr) (ccd : Value) (cl : List (Str × Addr)) (outer : List Env) (base h₀ : Heap) (L : Addr) (m : Str → Option Value) (tab : Array Value) (rest : List (Addr × Obj)) (s : Shared) (t ti tj tu : Tok)
    (Q : Flow → Shared → Prop) (E : Value → Shared → Prop)
    (B : Below (ktrTop dp un gd cn cs L0 c ccd cl outer) base (envX cn cs L0 c ccd cl :: outer) h₀) (X : (heapL w.params).In h₀) (T : Top p loose mean mg mb h₀)
    (F : Fr h₀ L s.heap m) (N : News h₀ L s.heap ((50, tabObj tab) :: rest)) (htr : TriplesOk tab.toList) (hrest : ∀ q ∈ rest, q.1 ≠ 50) (hE : PassesOwn (model PR w) ((ktrTop dp un gd cn cs L0 c ccd cl outer).deeper (envOf (Str.ofString "_translate") trSc L 55 (.ref 54))) (envOf (Str.ofString "_translate") trSc L 55 (.ref 54)) E)
    (hm1 : m "pat" = some (.str (S P) t)) (hm4 : m "i" = some (.int i0 ti)) (hm6 : m "j" = some (.int (i0 + 3 * ps.length) tj)) (hms : m "stuff" = some (.str (S (cont ps)) tu))
    (hroom : dp + 20 < recursionLimit)
    (hQ : ∀ s' m' ts tab', TabRel ⟨57, 37, 57, 98⟩ tab tab' → Same s s' → Fr h₀ L s'.heap m' → News h₀ L s'.heap ((50, tabObj tab') :: rest) → Agree ["chunks", "k", "chunk", "i", "stuff"] m m' → m' "stuff" = some (.str (S (glue ((merged [] ps).map esc))) ts) → Q .next s') :
    wpAny (model PR w) ((ktrTop dp un gd cn cs L0 c ccd cl outer).deeper (envOf (Str.ofString "_translate") trSc L 55 (.ref 54))) (exec trIf1 (envOf (Str.ofString "_translate") trSc L 55 (.ref 54))) Q E s := by
  have hfill : PySem.Challenge.rw_ij0015_01 = PySem.Challenge.rw_ij0015_01 ∧ heapL = heapL := by
    k_fill
    exact ⟨rfl, rfl⟩
  clear hfill
  refine exec_of (b := .If _ _ _ _) rfl ?_
  obtain ⟨q0, qs, rfl⟩ : ∃ q0 qs, ps = q0 :: qs := by
    obtain ⟨h1, _⟩ := hps
    cases ps with
    | nil => exact absurd rfl h1
    | cons a b => exact ⟨a, b, rfl⟩
  have hin := hyphen_in q0 qs
  have hzc : (S (cont (q0 :: qs))).length ≤ 1000 := by
    rw [S_len]; have := congrArg List.length hPd; simp only [List.length_append] at this; omega
  k_steps
  unfold Stop
  refine ite_isF (by rw [hin]; rfl) ?_
  refine execs_of (b := trBlk) rfl ?_
  exact blk1 P (q0 :: qs) hps hP i0 pre post hPd hi0 dp un gd cn cs L0 c ccd cl outer base h₀ L m tab rest _ t ti tj Q E B X T F N htr hrest hE hm1 hm4 hm6 hroom
    (fun s' m' ts tab' hr hS F' N' hag hst => hQ s' m' ts tab' hr ⟨hS.1, hS.2⟩ F' N' hag hst)
end
section
theorem calm7 : True := by
  w_top off
  k_with_none
  trivial
variable {w : World} {p : Program} {loose : List Str} {mean : ExcName → Option Value} {mg mb : Str → Option Value}
def trStuff : Stmt := (trElse[0]?).getD default
set_option maxRecDepth 100000 in
set_option maxHeartbeats 8000000 in
theorem stf (P Y : List Nat) (hP : P.length ≤ 1000) (i0 j0 : Int) (hsl : Txt.slice (S P) (some i0) (some j0) = S Y)
    (dp un : Nat) (gd : Option (List Code)) (cn : Str) (cs : Scope) (L0 c : Addr) (ccd : Value) (cl : List (Str × Addr)) (outer : List Env) (base h₀ : Heap) (L : Addr) (m : Str → Option Value) (news : List (Addr × Obj)) (s : Shared) (t ti tj : Tok)
    (Q : Flow → Shared → Prop) (E : Value → Shared → Prop)
    (B : Below (ktrTop dp un gd cn cs L0 c ccd cl outer) base (envX cn cs L0 c ccd cl :: outer) h₀) (X : (heapL w.params).In h₀) (T : Top p loose mean mg mb h₀)
    (F : Fr h₀ L s.heap m) (N : News h₀ L s.heap news)
    (hm1 : m "pat" = some (.str (S P) t)) (hm4 : m "i" = some (.int i0 ti)) (hm6 : m "j" = some (.int j0 tj))
    (hQ : ∀ h' tk' m' ts, Fr h₀ L h' m' → News h₀ L h' news → Agree ["stuff"] m m' → m' "stuff" = some (.str (S Y) ts) → Q .next { s with heap := h', toks := tk' }) :
    wpAny (model PR w) ((ktrTop dp un gd cn cs L0 c ccd cl outer).deeper (envOf (Str.ofString "_translate") trSc L 55 (.ref 54))) (exec trStuff (envOf (Str.ofString "_translate") trSc L 55 (.ref 54))) Q E s := by
  have hfill : PySem.Challenge.rw_ij0015_01 = PySem.Challenge.rw_ij0015_01 ∧ heapL = heapL := by
    k_fill
    exact ⟨rfl, rfl⟩
  clear hfill
  have hsc : trSc = ⟨_, _, _, _, _⟩ := rfl
  rw [hsc]
  clear hsc
  refine exec_of (b := .Assign _ _ _) rfl ?_
  have hlen : (S P).length = P.length := S_len P
  k_steps
  refine hQ _ _ _ _ (by assumption) (by assumption) ?_ rfl
  intro x hx
  simp only [List.mem_singleton] at hx
  dsimp only
  rw [if_neg hx]
theorem list_ne {h₀ h : Heap} {L r c : Addr} {news : List (Addr × Obj)} {la : List (Str × Tok)} {e : Nat} {oc : Obj} (N : News h₀ L h news) (h1 : (r, W.listOf (outsVal la) e) ∈ news) (h2 : (c, oc) ∈ news) (hoc : OcOk oc) : @Ne Nat c r := by
  intro q
  have e1 := (N _ h1).1
  have e2 := (N _ h2).1
  have q' : c = r := q
  subst q'
  rw [show ((c, W.listOf (outsVal la) e) : Addr × Obj).1 = ((c, oc) : Addr × Obj).1 from rfl, e2] at e1
  obtain ⟨vs, tq, hd, _⟩ := hoc
  have e3 : oc = W.listOf (outsVal la) e := Option.some.inj e1
  rw [e3] at hd
  cases hd
set_option maxHeartbeats 1000000 in
theorem else_part (P : List Nat) (ps : Pairs) (hps : okPairs ps) (hP : P.length ≤ 1000) (hp4 : ps.length ≤ 40) (i0 : Int)
    (pre post : List Nat) (hPd : P = pre ++ (cont ps ++ post)) (hi0 : i0 = pre.length)
    (dp un : Nat) (gd : Option (List Code)) (cn : Str) (cs : Scope) (L0 c : Addr) (ccd : Value) (cl : List (Str × Addr)) (outer : List Env) (base h₀ : Heap) (L : Addr) (m : Str → Option Value) (tab : Array Value) (q r e : Nat) (la : List (Str × Tok)) (rest : List (Addr × Obj)) (s : Shared) (t ti tj : Tok)
    (Q : Flow → Shared → Prop) (E : Value → Shared → Prop)
    (B : Below (ktrTop dp un gd cn cs L0 c ccd cl outer) base (envX cn cs L0 c ccd cl :: outer) h₀) (X : (heapL w.params).In h₀) (T : Top p loose mean mg mb h₀)
    (F : Fr h₀ L s.heap m) (N : News h₀ L s.heap (qr q r la e ((50, tabObj tab) :: rest))) (htab : TabOk tab rest) (h50 : ∀ x ∈ rest, x.1 ≠ 50) (hr : ∀ x ∈ rest, x.1 ≠ r) (hqr : @Ne Nat q r) (hq50 : @Ne Nat q 50) (hr50 : @Ne Nat r 50) (hla : la.length ≤ 900)
    (hE : PassesOwn (model PR w) ((ktrTop dp un gd cn cs L0 c ccd cl outer).deeper (envOf (Str.ofString "_translate") trSc L 55 (.ref 54))) (envOf (Str.ofString "_translate") trSc L 55 (.ref 54)) E)
    (hm1 : m "pat" = some (.str (S P) t)) (hm4 : m "i" = some (.int i0 ti)) (hm6 : m "j" = some (.int (i0 + 3 * ps.length) tj)) (hma : m "add" = some (.ref q))
    (hroom : dp + 20 < recursionLimit)
    (hQ : ∀ s' m' t' cg' cl' oc, OcOk oc → @Ne Nat cl' 50 → @Ne Nat cl' r → Same s s' → Fr h₀ L s'.heap m' → News h₀ L s'.heap (qr q r (la ++ [(S (out ps), t')]) (e + 1) ((50, tabObj (tab2 cg' cl')) :: (cl', oc) :: rest)) → Agree ["chunks", "k", "chunk", "i", "stuff"] m m' → IntIs (m' "i") (i0 + 3 * ps.length + 1) → Q .next s') :
    wpAny (model PR w) ((ktrTop dp un gd cn cs L0 c ccd cl outer).deeper (envOf (Str.ofString "_translate") trSc L 55 (.ref 54))) (execs trElse (envOf (Str.ofString "_translate") trSc L 55 (.ref 54))) Q E s := by
  have hsl : Txt.slice (S P) (some i0) (some (i0 + 3 * ps.length)) = S (cont ps) := slice_mid (u := pre) (v := post) hPd hi0 (by rw [cont_length, hi0]; push_cast; rfl)
  refine execs_of (b := trStuff :: trIf1 :: trSub :: trRest) rfl ?_
  refine wpAny_execs_cons (stf P (cont ps) hP i0 _ hsl dp un gd cn cs L0 c ccd cl outer base h₀ L m _ s t ti tj _ _ B X T F N hm1 hm4 hm6 ?_)
  intro h1 tk1 m1 ts1 F1 N1 a1 hs1
  have N1' : News h₀ L h1 ((50, tabObj tab) :: (q, boundObj r) :: (r, W.listOf (outsVal la) e) :: rest) := news_sub N1 fun x hx => by
    rcases List.mem_cons.mp hx with rfl | hx
    · exact .tail _ (.tail _ (.head _))
    · rcases List.mem_cons.mp hx with rfl | hx
      · exact .head _
      · rcases List.mem_cons.mp hx with rfl | hx
        · exact .tail _ (.head _)
        · exact .tail _ (.tail _ (.tail _ hx))
  have h50' : ∀ x ∈ (q, boundObj r) :: (r, W.listOf (outsVal la) e) :: rest, x.1 ≠ 50 := fun x hx => by
    rcases List.mem_cons.mp hx with rfl | hx
    · exact hq50
    · rcases List.mem_cons.mp hx with rfl | hx
      · exact hr50
      · exact h50 x hx
  have g1 : ∀ x : Str, x ∉ (["stuff"] : List Str) → m1 x = m x := fun x hx => a1 x hx
  have htab' : TabOk tab ((q, boundObj r) :: (r, W.listOf (outsVal la) e) :: rest) := by
    rcases htab with h | ⟨cg, c', oc, h1, h2, h3⟩
    · exact .inl h
    · exact .inr ⟨cg, c', oc, h1, .tail _ (.tail _ h2), h3⟩
  refine wpAny_execs_cons (if1 P ps hps hP i0 pre post hPd hi0 dp un gd cn cs L0 c ccd cl outer base h₀ L m1 tab _ _ t ti tj ts1 _ _ B X T F1 N1' (tabOk_triples htab) h50' hE ((g1 _ (by decide +kernel)).trans hm1) ((g1 _ (by decide +kernel)).trans hm4) ((g1 _ (by decide +kernel)).trans hm6) hs1 hroom ?_)
  intro s2 m2 ts2 tab2' hrel hS2 F2 N2 a2 hs2
  have hu := glue_len ps
  have hTm := tabRel_mid (l1 := 0) htab' hrel
  refine wpAny_execs_cons (blk2a (glue ((merged [] ps).map esc)) (by omega) dp un gd cn cs L0 c ccd cl outer base h₀ L m2 tab2' _ s2 ts2 _ _ B X T F2 N2 h50' hE hs2 hTm hroom ?_)
  intro h3 tk3 m3 t3 cg' cl' oc hoc hc50 F3 N3 a3 hs3
  have hcr : @Ne Nat cl' r := list_ne N3 (.tail _ (.tail _ (.tail _ (.head _)))) (.tail _ (.head _)) hoc
  have N3' : News h₀ L h3 (qr q r la e ((50, tabObj (tab2 cg' cl')) :: (cl', oc) :: rest)) := news_sub N3 fun x hx => by
    rcases List.mem_cons.mp hx with rfl | hx
    · exact .tail _ (.tail _ (.head _))
    · rcases List.mem_cons.mp hx with rfl | hx
      · exact .tail _ (.tail _ (.tail _ (.head _)))
      · rcases List.mem_cons.mp hx with rfl | hx
        · exact .head _
        · rcases List.mem_cons.mp hx with rfl | hx
          · exact .tail _ (.head _)
          · exact .tail _ (.tail _ (.tail _ (.tail _ hx)))
  have hrestr : ∀ x ∈ (50, tabObj (tab2 cg' cl')) :: (cl', oc) :: rest, x.1 ≠ r := fun x hx => by
    rcases List.mem_cons.mp hx with rfl | hx
    · exact Ne.symm hr50
    · rcases List.mem_cons.mp hx with rfl | hx
      · exact hcr
      · exact hr x hx
  have hmi : ∀ x : Str, x ∉ (["chunks", "k", "chunk", "i", "stuff"] : List Str) → m3 x = m x := fun x hx => by
    refine (a3 x fun h => hx ?_).trans ((a2 x hx).trans (a1 x fun h => hx ?_))
    · rw [List.mem_singleton.mp h]; simp
    · rw [List.mem_singleton.mp h]; simp
  have hv2 := escAmp_length_le (glue ((merged [] ps).map esc))
  refine blk2b (escAmp (glue ((merged [] ps).map esc))) (by omega) (escAmp_ok (glue_ok hps.2)) _ dp un gd cn cs L0 c ccd cl outer base h₀ L m3 q r e la _ _ tj t3 _ _ B X T F3 N3' hrestr hqr hla hE ((hmi _ (by decide +kernel)).trans hm6) hs3 ((hmi _ (by decide +kernel)).trans hma) ?_
  intro h4 tk4 m4 t4 F4 N4 a4 hi4
  rw [outL_out] at N4
  refine hQ _ m4 t4 cg' cl' oc hoc hc50 hcr ⟨hS2.1, hS2.2⟩ F4 N4 ?_ hi4
  intro x hx
  refine (a4 x fun h => hx ?_).trans (hmi x hx)
  rcases List.mem_cons.mp h with rfl | h
  · simp
  · rw [List.mem_singleton.mp h]; simp
end
section
theorem calm8 : True := by
  w_top off
  k_with_none
  trivial
variable {w : World} {p : Program} {loose : List Str} {mean : ExcName → Option Value} {mg mb : Str → Option Value}
def trIf4 : Stmt := (trBr[4]?).getD default
def JI (i0 : Int) (len : Nat) (m₀ : Str → Option Value) (news₀ : List (Addr × Obj)) (n : Nat) (m : Str → Option Value) (news : List (Addr × Obj)) : Prop :=
  ∃ d : Nat, Agree ["j"] m₀ m ∧ IntIs (m "j") (i0 + d) ∧ d ≤ len ∧ n = len - d ∧ news = news₀
local macro_rules | `(tactic| walk_at "ite") => `(tactic| refine Stop.out ?_)
set_option maxRecDepth 100000 in
set_option maxHeartbeats 2000000 in
theorem if4 (P : List Nat) (ps : Pairs) (hps : okPairs ps) (hP : P.length ≤ 1000) (hp4 : ps.length ≤ 40) (i0 : Int)
    (pre post : List Nat) (hPd : P = pre ++ (cont ps ++ (93 :: post))) (hi0 : i0 = pre.length)
    (dp un : Nat) (gd : Option (List Code)) (cn : Str) (cs : Scope) (L0 c : Addr) (ccd : Value) (cl : List (Str × Addr)) (outer : List Env) (base h₀ : Heap) (L : Addr) (m : Str → Option Value) (tab : Array Value) (q r e : Nat) (la : List (Str × Tok)) (rest : List (Addr × Obj)) (s : Shared) (t ti tj tn : Tok)
    (Q : Flow → Shared → Prop) (E : Value → Shared → Prop)
    (B : Below (ktrTop dp un gd cn cs L0 c ccd cl outer) base (envX cn cs L0 c ccd cl :: outer) h₀) (X : (heapL w.params).In h₀) (T : Top p loose mean mg mb h₀)
    (F : Fr h₀ L s.heap m) (N : News h₀ L s.heap (qr q r la e ((50, tabObj tab) :: rest))) (htab : TabOk tab rest) (h50 : ∀ x ∈ rest, x.1 ≠ 50) (hr : ∀ x ∈ rest, x.1 ≠ r) (hqr : @Ne Nat q r) (hq50 : @Ne Nat q 50) (hr50 : @Ne Nat r 50) (hla : la.length ≤ 900)
    (hE : PassesOwn (model PR w) ((ktrTop dp un gd cn cs L0 c ccd cl outer).deeper (envOf (Str.ofString "_translate") trSc L 55 (.ref 54))) (envOf (Str.ofString "_translate") trSc L 55 (.ref 54)) E)
    (hm1 : m "pat" = some (.str (S P) t)) (hm4 : m "i" = some (.int i0 ti)) (hm6 : m "j" = some (.int (i0 + 3 * ps.length) tj)) (hma : m "add" = some (.ref q)) (hmn : m "n" = some (.int (P.length : Nat) tn))
    (hroom : dp + 20 < recursionLimit)
    (hQ : ∀ s' m' t' cg' cl' oc, OcOk oc → @Ne Nat cl' 50 → @Ne Nat cl' r → Same s s' → Fr h₀ L s'.heap m' → News h₀ L s'.heap (qr q r (la ++ [(S (out ps), t')]) (e + 1) ((50, tabObj (tab2 cg' cl')) :: (cl', oc) :: rest)) → Agree ["chunks", "k", "chunk", "i", "stuff"] m m' → IntIs (m' "i") (i0 + 3 * ps.length + 1) → Q .next s') :
    wpAny (model PR w) ((ktrTop dp un gd cn cs L0 c ccd cl outer).deeper (envOf (Str.ofString "_translate") trSc L 55 (.ref 54))) (exec trIf4 (envOf (Str.ofString "_translate") trSc L 55 (.ref 54))) Q E s := by
  have hfill : PySem.Challenge.rw_ij0015_01 = PySem.Challenge.rw_ij0015_01 ∧ heapL = heapL := by
    k_fill
    exact ⟨rfl, rfl⟩
  clear hfill
  refine exec_of (b := .If _ _ _ _) rfl ?_
  have hplen : P.length = pre.length + (3 * ps.length + (1 + post.length)) := by rw [hPd]; simp [cont_length]; omega
  k_steps
  unfold Stop
  refine ite_isF (by simp; omega) ?_
  refine execs_of (b := trElse) rfl ?_
  exact else_part P ps hps hP hp4 i0 pre (93 :: post) hPd hi0 dp un gd cn cs L0 c ccd cl outer base h₀ L m tab q r e la rest _ t ti tj Q E B X T F N htab h50 hr hqr hq50 hr50 hla hE hm1 hm4 hm6 hma hroom
    (fun s' m' t' cg' cl' oc h1 h2 h3 hS => hQ s' m' t' cg' cl' oc h1 h2 h3 ⟨hS.1, hS.2⟩)
end
section
theorem calm9 : True := by
  w_top off
  k_with_none
  trivial
variable {w : World} {p : Program} {loose : List Str} {mean : ExcName → Option Value} {mg mb : Str → Option Value}
local macro_rules | `(tactic| walk_at "no such key") => `(tactic| skip)
local macro_rules | `(tactic| walk_at "exec While BoolOp cons nil") => `(tactic| refine Stop.out ?_)
set_option maxRecDepth 100000 in
set_option maxHeartbeats 8000000 in
theorem br_part (P : List Nat) (ps : Pairs) (hps : okPairs ps) (hP : P.length ≤ 1000) (hp4 : ps.length ≤ 40) (i0 : Int)
    (pre post : List Nat) (hPd : P = pre ++ (cont ps ++ (93 :: post))) (hi0 : i0 = pre.length)
    (dp un : Nat) (gd : Option (List Code)) (cn : Str) (cs : Scope) (L0 c : Addr) (ccd : Value) (cl : List (Str × Addr)) (outer : List Env) (base h₀ : Heap) (L : Addr) (m : Str → Option Value) (tab : Array Value) (q r e : Nat) (la : List (Str × Tok)) (rest : List (Addr × Obj)) (s : Shared) (t ti tn : Tok)
    (Q : Flow → Shared → Prop) (E : Value → Shared → Prop)
    (B : Below (ktrTop dp un gd cn cs L0 c ccd cl outer) base (envX cn cs L0 c ccd cl :: outer) h₀) (X : (heapL w.params).In h₀) (T : Top p loose mean mg mb h₀)
    (F : Fr h₀ L s.heap m) (N : News h₀ L s.heap (qr q r la e ((50, tabObj tab) :: rest))) (htab : TabOk tab rest) (h50 : ∀ x ∈ rest, x.1 ≠ 50) (hr : ∀ x ∈ rest, x.1 ≠ r) (hqr : @Ne Nat q r) (hq50 : @Ne Nat q 50) (hr50 : @Ne Nat r 50) (hla : la.length ≤ 900)
    (hE : PassesOwn (model PR w) ((ktrTop dp un gd cn cs L0 c ccd cl outer).deeper (envOf (Str.ofString "_translate") trSc L 55 (.ref 54))) (envOf (Str.ofString "_translate") trSc L 55 (.ref 54)) E)
    (hm1 : m "pat" = some (.str (S P) t)) (hm4 : m "i" = some (.int i0 ti)) (hma : m "add" = some (.ref q)) (hmn : m "n" = some (.int (P.length : Nat) tn))
    (hroom : dp + 20 < recursionLimit)
    (hQ : ∀ s' m' t' cg' cl' oc, OcOk oc → @Ne Nat cl' 50 → @Ne Nat cl' r → Same s s' → Fr h₀ L s'.heap m' → News h₀ L s'.heap (qr q r (la ++ [(S (out ps), t')]) (e + 1) ((50, tabObj (tab2 cg' cl')) :: (cl', oc) :: rest)) → Agree ["j", "chunks", "k", "chunk", "i", "stuff"] m m' → IntIs (m' "i") (i0 + 3 * ps.length + 1) → Q .next s') :
    wpAny (model PR w) ((ktrTop dp un gd cn cs L0 c ccd cl outer).deeper (envOf (Str.ofString "_translate") trSc L 55 (.ref 54))) (execs trBr (envOf (Str.ofString "_translate") trSc L 55 (.ref 54))) Q E s := by
  have hfill : PySem.Challenge.rw_ij0015_01 = PySem.Challenge.rw_ij0015_01 ∧ heapL = heapL := by
    k_fill
    exact ⟨rfl, rfl⟩
  clear hfill
  have hsc : trSc = ⟨_, _, _, _, _⟩ := rfl
  rw [hsc] at hE ⊢
  clear hsc
  refine execs_of (b := _ :: _) rfl ?_
  obtain ⟨q0, qs, rfl⟩ : ∃ q0 qs, ps = q0 :: qs := by
    obtain ⟨h1, _⟩ := hps
    cases ps with
    | nil => exact absurd rfl h1
    | cons a b => exact ⟨a, b, rfl⟩
  have hlen : (S P).length = P.length := S_len P
  have hcl : (cont (q0 :: qs)).length = 3 * (q0 :: qs).length := cont_length _
  have hlen2 : P.length = pre.length + (3 * (q0 :: qs).length + (1 + post.length)) := by
    rw [hPd]; simp only [List.length_append, List.length_cons, hcl]; omega
  have hlen3 : (q0 :: qs).length = qs.length + 1 := rfl
  have hat : ∀ (k : Int) (d : Nat) (x : Nat), k = i0 + d → (cont (q0 :: qs) ++ (93 :: post))[d]? = some x → 0 ≤ k ∧ P[k.toNat]? = some x := fun k d x hk hx => ⟨by omega, by
    rw [hPd, show k.toNat = pre.length + d by omega, List.getElem?_append_right (by omega), Nat.add_sub_cancel_left]; exact hx⟩
  have hc1 : 0 ≤ i0 ∧ P[i0.toNat]? = some q0.1 := hat _ 0 _ (by omega) (by rw [cont_cons]; rfl)
  have hq0 := hps.2 q0 (by simp)
  have he1 : ((⟨#[q0.1]⟩ : Str) == Str.ofString "!") = false := by
    rw [show Str.ofString "!" = ⟨#[33]⟩ from by decide +kernel]; have := hq0.1.1; simpa using this
  have he2 : ((⟨#[q0.1]⟩ : Str) == Str.ofString "]") = false := by
    rw [show Str.ofString "]" = ⟨#[93]⟩ from by decide +kernel]; have := hq0.1.2; simpa using this
  k_with "char" => assumption
  k_steps
  unfold Stop
  refine wpAny_mono (Q := fun f s' => Stop (f = .next ∧ Same s s' ∧ ∃ m', Fr h₀ L s'.heap m' ∧ News h₀ L s'.heap (qr q r la e ((50, tabObj tab) :: rest)) ∧ Agree ["j"] m m' ∧ IntIs (m' "j") (i0 + 3 * ((q0 :: qs).length : Nat)))) ?_ (fun f s' hf => ?_) fun _ _ e => e
  rotate_left
  · obtain ⟨rfl, hS, m2, F2, N2, hag, tj2, hm6⟩ := hf
    have hm1' := (hag (Str.ofString "pat") (by decide +kernel)).trans hm1
    have hm4' := (hag (Str.ofString "i") (by decide +kernel)).trans hm4
    have hma' := (hag (Str.ofString "add") (by decide +kernel)).trans hma
    have hmn' := (hag (Str.ofString "n") (by decide +kernel)).trans hmn
    refine execs_of (b := [trIf4]) rfl ?_
    refine wpAny_execs_cons (if4 P (q0 :: qs) hps hP hp4 i0 pre post hPd hi0 dp un gd cn cs L0 c ccd cl outer base h₀ L m2 tab q r e la rest s' t ti tj2 tn _ _ B X T F2 N2 htab h50 hr hqr hq50 hr50 hla hE hm1' hm4' hm6 hma' hmn' hroom ?_)
    intro s3 m3 t3 cg' cl' oc h1 h2 h3 hS3 F3 N3 a3 hi3
    refine wpAny_execs_nil (hQ s3 m3 t3 cg' cl' oc h1 h2 h3 ⟨hS3.1.trans hS.1, fun G => hS3.2 (hS.2 G)⟩ F3 N3 ?_ hi3)
    intro x hx
    simp only [List.mem_cons, not_or] at hx
    refine (a3 x (by simp only [List.mem_cons, not_or]; exact hx.2)).trans (hag x (by simp only [List.mem_cons, not_or]; exact ⟨hx.1, by simp⟩))
  refine While_J (JI i0 (cont (q0 :: qs)).length m (qr q r la e ((50, tabObj tab) :: rest))) (cont (q0 :: qs)).length (by assumption) (by assumption) hE ?_ ?_
  · refine ⟨0, ?_, int_is rfl (by simp), by omega, rfl, rfl⟩
    intro x hx
    simp only [List.mem_singleton] at hx
    dsimp only
    rw [if_neg hx]
  · intro n2 m2 news2 s2 hS2 hJ2 F2 N2
    obtain ⟨d, hag, ⟨tj2, hm6⟩, hd2, rfl, rfl⟩ := hJ2
    have hm1' := (hag (Str.ofString "pat") (by decide +kernel)).trans hm1
    have hm4' := (hag (Str.ofString "i") (by decide +kernel)).trans hm4
    have hma' := (hag (Str.ofString "add") (by decide +kernel)).trans hma
    have hmn' := (hag (Str.ofString "n") (by decide +kernel)).trans hmn
    by_cases hdl : d < (cont (q0 :: qs)).length
    · obtain ⟨x, hx⟩ : ∃ x, (cont (q0 :: qs))[d]? = some x := ⟨_, List.getElem?_eq_getElem hdl⟩
      have hxok := (cont_ok hps.2 x (List.mem_of_getElem? hx)).2
      have hcj : 0 ≤ i0 + (d : Int) ∧ P[(i0 + (d : Int)).toNat]? = some x := hat _ d _ (by omega) (by rw [List.getElem?_append_left hdl]; exact hx)
      have he3 : ((⟨#[x]⟩ : Str) == Str.ofString "]") = false := by
        rw [show Str.ofString "]" = ⟨#[93]⟩ from by decide +kernel]; simpa using hxok
      have he4 : (!((⟨#[x]⟩ : Str) == Str.ofString "]")) = true := by rw [he3]; rfl
      k_steps
      refine ⟨_, _, by assumption, by assumption, ⟨(cont (q0 :: qs)).length - (d + 1), by omega, d + 1, ?_, int_is rfl (by push_cast; omega), by omega, rfl, rfl⟩, ⟨hS2.1, hS2.2⟩⟩
      intro z hz
      refine Eq.trans ?_ (hag z hz)
      simp only [List.mem_singleton] at hz
      dsimp only
      rw [if_neg hz]
    · have hde : d = (cont (q0 :: qs)).length := by omega
      subst hde
      have hcj : 0 ≤ i0 + ((cont (q0 :: qs)).length : Int) ∧ P[(i0 + ((cont (q0 :: qs)).length : Int)).toNat]? = some 93 := hat _ (cont (q0 :: qs)).length _ (by omega) (by rw [List.getElem?_append_right (by omega)]; simp)
      have he4 : (!((⟨#[93]⟩ : Str) == Str.ofString "]")) = false := by decide +kernel
      k_steps
      unfold Stop
      refine ⟨rfl, ⟨hS2.1, hS2.2⟩, m2, by assumption, by assumption, hag, tj2, ?_⟩
      rw [hm6, hcl]; push_cast; rfl
end
section
theorem calm10 : True := by
  w_top off
  k_with_none
  trivial
variable {w : World} {p : Program} {loose : List Str} {mean : ExcName → Option Value} {mg mb : Str → Option Value}
local macro_rules | `(tactic| walk_at "ite") => `(tactic| (k_here; k_dflt (first | (refine ite_isF (by assumption) ?_; walk_say "CUT") | (refine ite_pos (by assumption) (Stop.out ?_)))))
def Nm (P : List Nat) (t : Tok) (r q : Nat) (m : Str → Option Value) : Prop :=
  m "pat" = some (.str (S P) t) ∧ m "res" = some (.ref r) ∧ m "add" = some (.ref q) ∧ IntIs (m "n") (P.length : Nat)
theorem Nm.agree {P : List Nat} {t : Tok} {r q : Nat} {m m' : Str → Option Value} (h : Nm P t r q m) (a : Agree ["j", "chunks", "k", "chunk", "i", "stuff"] m m') : Nm P t r q m' :=
  ⟨(a _ (by decide +kernel)).trans h.1, (a _ (by decide +kernel)).trans h.2.1, (a _ (by decide +kernel)).trans h.2.2.1, let ⟨tn, e⟩ := h.2.2.2; ⟨tn, (a _ (by decide +kernel)).trans e⟩⟩
def JT (P : List Nat) (t : Tok) (q r : Nat) (bs : List Pairs) (rest : List (Addr × Obj)) (n : Nat) (m : Str → Option Value) (news : List (Addr × Obj)) : Prop :=
  ∃ (done todo : List Pairs) (e : Nat) (l : List (Str × Tok)) (tab : Array Value) (rest' : List (Addr × Obj)),
    bs = done ++ todo ∧ n = todo.length ∧ Nm P t r q m ∧ IntIs (m "i") ((pat done).length : Nat) ∧
    l.map (·.1) = done.map (fun ps => S (out ps)) ∧ news = qr q r l e ((50, tabObj tab) :: rest') ∧ TabOk tab rest' ∧
    (∀ x ∈ rest', x.1 ≠ 50) ∧ (∀ x ∈ rest', x.1 ≠ r) ∧ ((done = [] ∧ rest' = rest) ∨ ∃ cg cl oc, tab = tab2 cg cl ∧ OcOk oc ∧ @Ne Nat cl 50 ∧ rest' = (cl, oc) :: rest)
set_option maxRecDepth 100000 in
set_option maxHeartbeats 8000000 in
theorem tr_ct (P : List Nat) (bs : List Pairs) (hPb : P = pat bs) (hb : ∀ ps ∈ bs, okPairs ps ∧ ps.length ≤ 40) (hbs : bs ≠ []) (hbl : bs.length ≤ 900) (t tb : Tok) (y : Str) (l : Addr) (hP : P.length ≤ 1000) : Ct w p loose mean mg mb 55 [.str (S P) t, .ref l, .str y tb] 40 400
    (fun news => ∃ tab rest, news = (50, tabObj tab) :: rest ∧ TabOk tab rest ∧ ∀ q ∈ rest, q.1 ≠ 50)
    (fun news r news' => ∃ (ra : Addr) (la : List (Str × Tok)) (e : Nat) (tab : Array Value) (rest : List (Addr × Obj)) (cg cl : Addr) (oc : Obj), news = (50, tabObj tab) :: rest ∧ r = .ref ra ∧ la.map (·.1) = bs.map (fun ps => S (out ps)) ∧ news' = (ra, W.listOf (outsVal la) e) :: (50, tabObj (tab2 cg cl)) :: (cl, oc) :: rest ∧ OcOk oc ∧ @Ne Nat cl 50 ∧ @Ne Nat ra 50) := by
  unfold Ct
  intro dp un gd cn cs c ccd cl outer A₀ base h₀ L m news s Q E B F X N T hk hpre hd hu hret
  have hfill : PySem.Challenge.rw_ij0015_01 = PySem.Challenge.rw_ij0015_01 ∧ heapL = heapL := by
    k_fill
    exact ⟨rfl, rfl⟩
  clear hfill
  obtain ⟨tab, rest, rfl, htab, hrest⟩ := hpre
  have hlen : (S P).length = P.length := S_len P
  refine wpAny_call ?_
  k_dflt ktr_enter
  refine wpAny_noRaise ?_
  k_steps
  unfold Stop
  rename_i lr _ hlr _ _ lq _ _ hlq _ D9 _ _ _ _ _ F1 N1
  have N1' : News _ _ _ (qr lq lr [] 0 ((50, tabObj tab) :: rest)) := fun x hx => N1 x (.tail _ hx)
  have hqr : @Ne Nat lq lr := Ne.symm (Nat.ne_of_lt hlq.1)
  have hq50 : @Ne Nat lq 50 := Ne.symm (Nat.ne_of_lt hlq.2.1)
  have hr50 : @Ne Nat lr 50 := Ne.symm (Nat.ne_of_lt hlr.1)
  have hrr : ∀ x ∈ rest, @Ne Nat x.1 lr := fun x hx => Nat.ne_of_lt (allLt_mem hlr.2 x hx)
  refine While_J (JT P t lq lr bs rest) bs.length F1 N1' PassesOwn.never ?_ ?_
  · exact ⟨[], bs, 0, [], tab, rest, rfl, rfl, ⟨rfl, rfl, rfl, int_is rfl (by rw [hlen])⟩, int_is rfl rfl, rfl, rfl, htab, hrest, hrr, .inl ⟨rfl, rfl⟩⟩
  · clear F1 N1 N1'
    intro n1 m1 news1 s1 hS hJ F1 N1
    obtain ⟨done, todo, e, la, tabx, rest', hdt, rfl, hnm, ⟨ti, hm4⟩, hla, rfl, htab1, h50, hr, hcase⟩ := hJ
    have hnm' := hnm
    obtain ⟨hm1, hm2, hm3, tn, hm5⟩ := hnm'
    have hlal : la.length = done.length := by have := congrArg List.length hla; simpa using this
    have hdl := congrArg List.length hdt
    rw [List.length_append] at hdl
    cases todo with
    | nil =>
      rw [List.append_nil] at hdt
      subst hdt
      have hPl : ((pat bs).length : Int) = (P.length : Int) := by rw [hPb]
      k_steps
      rcases hcase with ⟨h1, _⟩ | ⟨cg, c9, oc, rfl, hoc, hc50, rfl⟩
      · exact absurd h1 hbs
      · refine hret _ _ _ (by assumption) (news_sub (by assumption) ?_) hS.1 hS.2 ⟨lr, la, e, tab, rest, cg, c9, oc, rfl, rfl, hla, rfl, hoc, hc50, hr50⟩
        intro x hx
        exact .tail _ hx
    | cons ps todo' =>
      have hps := hb ps (by rw [hdt]; simp)
      have hPd : P = pat done ++ (91 :: (cont ps ++ (93 :: pat todo'))) := by
        rw [hPb, hdt]; unfold pat brk; simp
      have hPd2 : P = (pat done ++ [91]) ++ (cont ps ++ (93 :: pat todo')) := by rw [hPd]; simp
      have hlen2 : P.length = (pat done).length + (2 + 3 * ps.length + (pat todo').length) := by
        rw [hPd]; simp [cont_length]; omega
      have hc0 : (0 : Int) ≤ ((pat done).length : Nat) ∧ P[(((pat done).length : Nat) : Int).toNat]? = some 91 := ⟨by omega, by rw [hPd]; simp⟩
      have hd1 : ((⟨#[91]⟩ : Str) == Str.ofString "*") = false := by decide +kernel
      have hd2 : ((⟨#[91]⟩ : Str) == Str.ofString "?") = false := by decide +kernel
      have hd3 : ((⟨#[91]⟩ : Str) == Str.ofString "[") = true := by decide +kernel
      k_with "char" => assumption
      k_steps
      unfold Stop
      refine execs_of (b := trBr) rfl ?_
      refine br_part P ps hps.1 hP hps.2 (((pat done).length : Nat) + 1) (pat done ++ [91]) (pat todo') hPd2 (by simp) dp un gd cn cs L c ccd cl outer base _ _ _ tabx lq lr e la rest' _ t _ tn _ _ (by assumption) (by assumption) (by assumption) (by assumption) (by assumption) htab1 h50 hr hqr hq50 hr50 (by omega) PassesOwn.never (by exact hm1) (by exact rfl) (by exact hm3) (by exact hm5) (by omega) ?_
      intro s2 m2 t2 cg' cl' oc hoc hc50 hcr hS2 F2 N2 a2 hi2
      k_steps
      have hsub : ∀ x ∈ rest, x ∈ rest' := fun x hx => by
        rcases hcase with ⟨_, rfl⟩ | ⟨_, _, _, _, _, _, rfl⟩
        · exact hx
        · exact .tail _ hx
      refine ⟨_, _, F2, news_sub N2 (news := qr lq lr (la ++ [(S (out ps), t2)]) (e + 1) ((50, tabObj (tab2 cg' cl')) :: (cl', oc) :: rest)) ?_, ⟨todo'.length, by simp, done ++ [ps], todo', e + 1, la ++ [(S (out ps), t2)], tab2 cg' cl', (cl', oc) :: rest, by rw [hdt]; simp, rfl, ?_, ?_, ?_, rfl, .inr ⟨cg', cl', oc, rfl, .head _, hoc⟩, ?_, ?_, .inr ⟨cg', cl', oc, rfl, hoc, hc50, rfl⟩⟩, ⟨hS2.1.trans hS.1, fun G => hS2.2 (hS.2 G)⟩⟩
      · intro x hx
        rcases List.mem_cons.mp hx with rfl | hx
        · exact .head _
        · rcases List.mem_cons.mp hx with rfl | hx
          · exact .tail _ (.head _)
          · rcases List.mem_cons.mp hx with rfl | hx
            · exact .tail _ (.tail _ (.head _))
            · rcases List.mem_cons.mp hx with rfl | hx
              · exact .tail _ (.tail _ (.tail _ (.head _)))
              · exact .tail _ (.tail _ (.tail _ (.tail _ (hsub x hx))))
      · exact Nm.agree (by exact ⟨hm1, hm2, hm3, tn, hm5⟩) a2
      · obtain ⟨t9, e9⟩ := hi2
        refine ⟨t9, e9.trans (congrArg (fun z => some (Value.int z t9)) ?_)⟩
        have : pat (done ++ [ps]) = pat done ++ brk ps := by unfold pat; rw [List.flatMap_append]; simp
        rw [this, List.length_append, brk_length]; push_cast; omega
      · rw [List.map_append, List.map_append, hla]; rfl
      · intro x hx
        rcases List.mem_cons.mp hx with rfl | hx
        · exact hc50
        · exact hrest x hx
      · intro x hx
        rcases List.mem_cons.mp hx with rfl | hx
        · exact hcr
        · exact hrr x hx
end
local macro_rules | `(tactic| walk_at "call ref") => `(tactic| (k_here; (with_reducible show wpAny _ _ (call (Value.ref 62) _) _ _ _); k_dflt (refine' ct_useI (strcoll_ct _ _ _ _) ?k1 ?k2 ?k3 ?k4 ?k5 ?kK ?kp ?kd ?ku ?_; (case k1 => k_asm); (case k2 => k_asm); (case k3 => k_asm); (case k4 => k_asm); (case k5 => k_asm); (case kK => first | exact rfl | assumption); (case kp => trivial); (case kd => ktr_room); (case ku => ktr_units)); intro t' h' tk' F' N'; (try dsimp only)))
local macro_rules | `(tactic| walk_at "call ref") => `(tactic| (k_here; (with_reducible show wpAny _ _ (call (Value.ref 69) _) _ _ _); k_dflt (refine' ct_useS (strxfrm_ct _ _) ?k1 ?k2 ?k3 ?k4 ?k5 ?kK ?kp ?kd ?ku ?_; (case k1 => k_asm); (case k2 => k_asm); (case k3 => k_asm); (case k4 => k_asm); (case k5 => k_asm); (case kK => first | exact rfl | assumption); (case kp => trivial); (case kd => ktr_room); (case ku => ktr_units)); intro t' h' tk' F' N'; (try dsimp only)))
local macro_rules | `(tactic| walk_at "call ref") => `(tactic| (k_here; (with_reducible show wpAny _ _ (call (Value.ref 93) _) _ _ _); k_dflt (refine' ct_useS (plain_ct _ _ _) ?k1 ?k2 ?k3 ?k4 ?k5 ?kK ?kp ?kd ?ku ?_; (case k1 => k_asm); (case k2 => k_asm); (case k3 => k_asm); (case k4 => k_asm); (case k5 => k_asm); (case kK => first | exact rfl | assumption); (case kp => trivial); (case kd => ktr_room); (case ku => ktr_units)); intro t' h' tk' F' N'; (try dsimp only)))
local macro_rules | `(tactic| walk_at "call ref") => `(tactic| (k_here; (with_reducible show wpAny _ _ (call (Value.ref 119) _) _ _ _); k_dflt (refine' ct_useB (same_ct _ _ _ _) ?k1 ?k2 ?k3 ?k4 ?k5 ?kK ?kp ?kd ?ku ?_; (case k1 => k_asm); (case k2 => k_asm); (case k3 => k_asm); (case k4 => k_asm); (case k5 => k_asm); (case kK => first | exact rfl | assumption); (case kp => trivial); (case kd => ktr_room); (case ku => ktr_units)); intro h' tk' F' N'; (try dsimp only)))
local macro_rules | `(tactic| walk_at "subscriptTail Name Name ref int") => `(tactic| (k_here; (with_reducible show wpAny _ _ (subscriptTail _ _ (Value.ref _) (Value.int _ _)) _ _ _); k_dflt (refine' item_La ?fx1 ?fx2 ?fx3 ?fx4 ?_; (case fx1 => assumption); (case fx2 => k_asm); (case fx3 => omega); (case fx4 => assumption); k_whole)))
section
theorem calm11 : True := by
  w_top off
  k_with_none
  trivial
variable {w : World} {p : Program} {loose : List Str} {mean : ExcName → Option Value} {mg mb : Str → Option Value}
def JS (ps : Pairs) (news₀ : List (Addr × Obj)) (i : Nat) (m : Str → Option Value) (news : List (Addr × Obj)) : Prop :=
  StrIs (m "text") (S (setText (ps.take i))) ∧ news = news₀
set_option maxRecDepth 100000 in
set_option maxHeartbeats 8000000 in
theorem set_ct (ps : Pairs) (hps : ps.length ≤ 4) (lp : Addr) : CtP w p loose mean mg mb 100 [.ref lp] 40 400 (fun news => PairsIn news lp ps) (RStr (S (lawSet ps))) := by
  unfold CtP
  intro dp un gd cn cs c ccd cl outer A₀ base h₀ L m news s Q E B F X N T hk hpre hd hu hret
  have hfill : PySem.Challenge.rw_ij0015_01 = PySem.Challenge.rw_ij0015_01 ∧ heapL = heapL := by
    k_fill
    exact ⟨rfl, rfl⟩
  clear hfill
  obtain ⟨items, e, hlp, hsz, hit⟩ := hpre
  refine wpAny_call ?_
  k_dflt ktr_enter
  refine wpAny_noRaise ?_
  k_steps
  unfold Stop
  refine For_K (by assumption) PassesOwn.never ?_
  k_steps
  refine forK_list (s₀ := { s with heap := _, toks := _ }) rfl (JS ps news) (by assumption) (by assumption) hlp (by intro i m1 n1 hJ; obtain ⟨_, rfl⟩ := hJ; exact hlp) ⟨str_is rfl rfl, rfl⟩ ?_ ?_
  · intro I i v m1 news1 h1 tk1 o1 hi hv hJ hoff F1 N1
    obtain ⟨⟨t1, hm1⟩, rfl⟩ := hJ
    obtain ⟨q, hq⟩ : ∃ q, ps[i]? = some q := ⟨_, List.getElem?_eq_getElem (by omega)⟩
    obtain ⟨T1, ta, tb, hv', hT1⟩ := hit i q hq
    obtain rfl : v = .ref T1 := by rw [hv'] at hv; exact (Option.some.inj hv).symm
    have hlen := setText_length (ps.take i)
    have htl : (ps.take i).length ≤ 4 := by rw [List.length_take]; omega
    have hTup := News.isTup N1 (List.mem_cons_of_mem (I, o1) hT1)
    have hz : (S (setText (ps.take i))).length ≤ 1000 := by rw [S_len]; omega
    have hpl : ∀ c b, (S (plainL c b)).length ≤ 2 := fun c b => by rw [S_len]; unfold plainL; split <;> simp
    have hz1 := hpl q.1 (S (setText (ps.take i)) == Str.ofString "")
    have hz2 := hpl q.2 false
    k_steps
    · have hc : ¬ q.2 < q.1 := fun x => absurd ((coll_one q.1 q.2).mpr x) (by assumption)
      refine ⟨_, _, _, _, rfl, by assumption, by assumption, hoff, ⟨str_is rfl ?_, rfl⟩⟩
      rw [setText_take hq, eq_nil, show Str.ofString "-" = S [45] from by decide +kernel, S_append, S_append, S_append]
      unfold setStep; rw [if_neg hc]
      simp
    · have hc : q.2 < q.1 := (coll_one q.1 q.2).mp (by assumption)
      refine ⟨_, _, _, _, rfl, by assumption, by assumption, hoff, ⟨str_is (by exact hm1) ?_, rfl⟩⟩
      rw [setText_take hq]
      unfold setStep; rw [if_pos hc]
  · intro h1 tk1 m1 news1 F1 N1 hJ
    obtain ⟨⟨t1, hm1⟩, rfl⟩ := hJ
    have hlen := setText_length ps
    have hz : (S (setText ps)).length ≤ 1000 := by rw [S_len]; omega
    have htk : ps.take items.size = ps := List.take_of_length_le (by omega)
    rw [htk] at hm1
    have e0 := eq_nil (setText ps)
    k_steps
    · refine hret _ _ _ _ (by k_asm) (by k_asm) (rstr_of ?_)
      have h0 : setText ps = [] := by
        have := e0.symm.trans (by assumption)
        simpa using this
      unfold lawSet; rw [if_pos h0]; decide +kernel
    · refine hret _ _ _ _ (by k_asm) (by k_asm) (rstr_of ?_)
      have h0 : ¬ setText ps = [] := by
        have := e0.symm.trans (by assumption)
        simpa using this
      unfold lawSet; rw [if_neg h0, show Str.ofString "[" = S [91] from by decide +kernel, show Str.ofString "]" = S [93] from by decide +kernel, S_append, S_append]; simp
end
section
theorem calm12 : True := by
  w_top off
  k_with_none
  trivial
variable {w : World} {p : Program} {loose : List Str} {mean : ExcName → Option Value} {mg mb : Str → Option Value}
abbrev told (ps : Pairs) : List (List Nat) := (ps.map fun q => out [q]) ++ [out ps]
theorem told_at {ps : Pairs} {i : Nat} {q : Nat × Nat} (h : ps[i]? = some q) : ∃ A B, told ps = A ++ out [q] :: B ∧ A.length = i := by
  obtain ⟨hi, rfl⟩ := List.getElem?_eq_some_iff.mp h
  refine ⟨(ps.take i).map fun q => out [q], (ps.drop (i + 1)).map (fun q => out [q]) ++ [out ps], ?_, by simp; omega⟩
  have e : ps = ps.take i ++ ps[i] :: ps.drop (i + 1) := by simp
  show (ps.map fun q => out [q]) ++ [out ps] = _
  conv => lhs; lhs; rw [e]
  rw [List.map_append, List.map_cons, List.append_assoc]; rfl
theorem at_split {l : List (Str × Tok)} {M A B : List (List Nat)} {x : List Nat} (h : l.map (·.1) = M.map S) (hM : M = A ++ x :: B) : ∃ l1 t l2, l = l1 ++ (S x, t) :: l2 ∧ l1.length = A.length := by
  rw [hM, List.map_append] at h
  obtain ⟨l1, r, rfl, h1, h2⟩ := List.map_eq_append_iff.mp h
  obtain ⟨⟨x', t1⟩, r2, rfl, h3, h4⟩ := List.map_eq_cons_iff.mp h2
  cases h3
  exact ⟨l1, t1, r2, rfl, by have := congrArg List.length h1; simpa using this⟩
theorem none_is (x : List Nat) : (S x == Str.ofString "(?!)") = decide (x = [40, 63, 33, 41]) := by
  rw [show Str.ofString "(?!)" = S [40, 63, 33, 41] from by decide +kernel]
  by_cases h : x = [40, 63, 33, 41]
  · subst h; rfl
  · rw [decide_eq_false h]
    simpa using h
theorem order_step {a b : List Nat} {i x y : Nat} (hx : a[i]? = some x) (hy : b[i]? = some y) : orderL (a.drop i) (b.drop i) = if y < x then 1 else if x < y then -1 else orderL (a.drop (i + 1)) (b.drop (i + 1)) := by
  obtain ⟨h1, rfl⟩ := List.getElem?_eq_some_iff.mp hx
  obtain ⟨h2, rfl⟩ := List.getElem?_eq_some_iff.mp hy
  rw [List.drop_eq_getElem_cons h1, List.drop_eq_getElem_cons h2]; rfl
theorem order_end {a b : List Nat} : orderL (a.drop (min a.length b.length)) (b.drop (min a.length b.length)) = if b.length < a.length then 1 else if a.length < b.length then -1 else 0 := by
  rcases Nat.lt_trichotomy a.length b.length with h | h | h
  · rw [Nat.min_eq_left (by omega), List.drop_length, if_neg (by omega), if_pos h]
    match e : b.drop a.length with
    | [] => have := congrArg List.length e; simp at this; omega
    | _ :: _ => rfl
  · rw [h, Nat.min_self, ← h, List.drop_length, h, List.drop_length, if_neg (by omega), if_neg (by omega)]; rfl
  · rw [Nat.min_eq_right (by omega), List.drop_length, if_pos h]
    match e : a.drop b.length with
    | [] => have := congrArg List.length e; simp at this; omega
    | _ :: _ => rfl
def JO (a b : List Nat) (m₀ : Str → Option Value) (news₀ : List (Addr × Obj)) (i : Nat) (m : Str → Option Value) (news : List (Addr × Obj)) : Prop :=
  orderL a b = orderL (a.drop i) (b.drop i) ∧ Agree ["k"] m₀ m ∧ news = news₀
def Order2 (news : List (Addr × Obj)) (rt rb : Addr) (a b : List Nat) : Prop :=
  ∃ lt lb e e', (rt, W.listOf (outsVal lt) e) ∈ news ∧ (rb, W.listOf (outsVal lb) e') ∈ news ∧ lt.map (·.1) = (told (a.zip b)).map S ∧ lb.map (·.1) = (told (b.zip a)).map S
set_option maxRecDepth 100000 in
set_option maxHeartbeats 8000000 in
theorem order_ct (a b : List Nat) (ha : a.length ≤ 4) (hb : b.length ≤ 4) (ta tb : Tok) (rt rb : Addr) : CtP w p loose mean mg mb 112 [.str (S a) ta, .str (S b) tb, .ref rt, .ref rb] 40 400 (fun news => Order2 news rt rb a b) (RInt (orderL a b)) := by
  unfold CtP
  intro dp un gd cn cs c ccd cl outer A₀ base h₀ L m news s Q E B F X N T hk hpre hd hu hret
  have hfill : PySem.Challenge.rw_ij0015_01 = PySem.Challenge.rw_ij0015_01 ∧ heapL = heapL := by
    k_fill
    exact ⟨rfl, rfl⟩
  clear hfill
  obtain ⟨lt, lb, e, e', hmt, hmb, hlt, hlb⟩ := hpre
  have hla : (S a).length = a.length := S_len a
  have hlb' : (S b).length = b.length := S_len b
  have hz1 : (S a).length ≤ 1000 := by omega
  have hz2 : (S b).length ≤ 1000 := by omega
  refine wpAny_call ?_
  k_dflt ktr_enter
  refine wpAny_noRaise ?_
  k_steps
  unfold Stop
  refine For_K (by assumption) PassesOwn.never ?_
  k_steps
  refine forK_range (s₀ := { s with heap := _, toks := _ }) (n := min a.length b.length) rfl (by assumption) (small_up (by constructor <;> split <;> omega)) (size_up (by split <;> omega)) (JO a b _ news) (by assumption) (by assumption) ⟨by rw [List.drop_zero, List.drop_zero], fun x hx => rfl, rfl⟩ ?_ ?_
  · intro I i v m1 news1 h1 tk1 o1 hi hv hJ hoff F1 N1
    obtain ⟨tv, rfl⟩ := hv
    obtain ⟨hor, hag, rfl⟩ := hJ
    obtain ⟨x, hx⟩ : ∃ x, a[i]? = some x := ⟨_, List.getElem?_eq_getElem (by omega)⟩
    obtain ⟨y, hy⟩ : ∃ y, b[i]? = some y := ⟨_, List.getElem?_eq_getElem (by omega)⟩
    have hzt : (a.zip b)[i]? = some (x, y) := by rw [List.getElem?_zip_eq_some]; exact ⟨hx, hy⟩
    have hzb : (b.zip a)[i]? = some (y, x) := by rw [List.getElem?_zip_eq_some]; exact ⟨hy, hx⟩
    obtain ⟨A1, B1, e1, hA1⟩ := told_at hzt
    obtain ⟨A2, B2, e2, hA2⟩ := told_at hzb
    obtain ⟨l1, t1, r1, rfl, hl1⟩ := at_split hlt e1
    obtain ⟨l2, t2, r2, rfl, hl2⟩ := at_split hlb e2
    have hm3 := hag (Str.ofString "there") (by decide +kernel)
    have hm4 := hag (Str.ofString "back") (by decide +kernel)
    replace hm3 : m1 (Str.ofString "there") = some (.ref rt) := hm3.trans rfl
    replace hm4 : m1 (Str.ofString "back") = some (.ref rb) := hm4.trans rfl
    have hk1 : l1.length ≤ 1000 := by omega
    have hk2 : l2.length ≤ 1000 := by omega
    have ho1 := none_is (out [(x, y)])
    have ho2 := none_is (out [(y, x)])
    rw [order_step hx hy] at hor
    have hmt' := List.mem_cons_of_mem (I, o1) hmt
    have hmb' := List.mem_cons_of_mem (I, o1) hmb
    k_steps
    · have h3 := ho1.symm.trans (by assumption)
      rw [decide_eq_true_eq, out_one] at h3
      rw [if_pos h3] at hor
      unfold TurnK
      k_steps
      exact hret _ _ _ _ (by k_asm) (news_tail (q := (I, o1)) (by assumption)) (rint_of hor.symm)
    · have h3 := ho1.symm.trans (by assumption)
      have h4 := ho2.symm.trans (by assumption)
      rw [decide_eq_false_iff_not, out_one] at h3
      rw [decide_eq_true_eq, out_one] at h4
      rw [if_neg h3, if_pos h4] at hor
      unfold TurnK
      k_steps
      exact hret _ _ _ _ (by k_asm) (news_tail (q := (I, o1)) (by assumption)) (rint_of hor.symm)
    · have h3 := ho1.symm.trans (by assumption)
      have h4 := ho2.symm.trans (by assumption)
      rw [decide_eq_false_iff_not, out_one] at h3 h4
      rw [if_neg h3, if_neg h4] at hor
      refine ⟨_, _, _, _, rfl, by assumption, by assumption, hoff, ⟨hor, ?_, rfl⟩⟩
      intro z hz
      refine Eq.trans ?_ (hag z hz)
      simp only [List.mem_singleton] at hz
      dsimp only
      rw [if_neg hz]
  · intro h1 tk1 m1 news1 F1 N1 hJ
    obtain ⟨hor, hag, rfl⟩ := hJ
    rw [order_end] at hor
    have hm1 := hag (Str.ofString "one") (by decide +kernel)
    have hm2 := hag (Str.ofString "other") (by decide +kernel)
    replace hm1 : m1 (Str.ofString "one") = some (.str (S a) ta) := hm1.trans rfl
    replace hm2 : m1 (Str.ofString "other") = some (.str (S b) tb) := hm2.trans rfl
    k_steps
    · rw [if_pos (by omega)] at hor
      exact hret _ _ _ _ (by k_asm) (by k_asm) (rint_of hor.symm)
    · rw [if_neg (by omega), if_pos (by omega)] at hor
      exact hret _ _ _ _ (by k_asm) (by k_asm) (rint_of hor.symm)
    · rw [if_neg (by omega), if_neg (by omega)] at hor
      exact hret _ _ _ _ (by k_asm) (by k_asm) (rint_of hor.symm)
end
section
theorem calm13 : True := by
  w_top off
  k_with_none
  trivial
variable {w : World} {p : Program} {loose : List Str} {mean : ExcName → Option Value} {mg mb : Str → Option Value}
def bsOf (ps : Pairs) : List Pairs := ps.map (fun q => [q]) ++ [ps]
def rngL (q : Nat × Nat) : List Nat := [q.1, 45, q.2]
theorem pat_mid (p : Nat × Nat) (ps : Pairs) : pat ((p :: ps).map fun q => [q]) = 91 :: ([93, 91].intercalate ((p :: ps).map rngL) ++ [93]) := by
  induction ps generalizing p with
  | nil => simp [pat, brk, cont, rngL, List.intercalate]
  | cons q r ih =>
    have := ih q
    have e : pat ((p :: q :: r).map fun q => [q]) = brk [p] ++ pat ((q :: r).map fun q => [q]) := by unfold pat; rw [List.map_cons, List.flatMap_cons]
    rw [e, this]
    simp [brk, cont, rngL, List.intercalate]
theorem join_nil (ls : List (List Nat)) : [].intercalate ls = ls.flatten := by
  induction ls with
  | nil => rfl
  | cons a r ih =>
    cases r with
    | nil => simp [List.intercalate]
    | cons b r => simp [List.intercalate] at ih ⊢; exact ih
theorem pat_row {ps : Pairs} (h : ps ≠ []) : pat (bsOf ps) = 91 :: ([93, 91].intercalate (ps.map rngL) ++ ([93, 91] ++ ([].intercalate (ps.map rngL) ++ [93]))) := by
  cases ps with
  | nil => exact absurd rfl h
  | cons p r =>
    have e : pat (bsOf (p :: r)) = pat ((p :: r).map fun q => [q]) ++ brk (p :: r) := by unfold pat bsOf; rw [List.flatMap_append]; simp
    rw [e, pat_mid, join_nil]
    have e2 : cont (p :: r) = ((p :: r).map rngL).flatten := by
      show (p :: r).flatMap rngL = _
      rw [List.flatMap_def]
    unfold brk
    rw [e2]
    simp
theorem call_zip_N {prog : Program} {w : World} {A : Around} {E : Value → Shared → Prop} {s : Shared} {h₀ : Heap} {L : Addr} {m : Str → Option Value} {news : List (Addr × Obj)} {x y : Str} {tx ty : Tok} {Q : Value → Shared → Prop} (F : Fr h₀ L s.heap m) (N : News h₀ L s.heap news)
    (h : ∀ (I : Addr) h', ZOk h' I x tx y ty 0 .none false → Fr h₀ L h' m → News h₀ L h' news → @LT.lt Nat _ L I → (∀ p ∈ news, @LT.lt Nat _ p.1 I) → (∀ b o, h₀.get? b = some o → @LT.lt Nat _ b I) → Q (.ref (I + 4)) { s with heap := h' }) :
    wpAny (model prog w) A (call (.type "zip") [.str x tx, .str y ty]) Q E s :=
  call_zip_SS fun h' Z _ hk => h _ h' Z (F.keeps hk) (N.grown hk) F.ns.lt (fun p hp => Heap.lt_size (N p hp).1) fun b o e => Heap.lt_size (F.keep b o e)
theorem join_N {prog : Program} {w : World} {A : Around} {E : Value → Shared → Prop} {s : Shared} {h₀ : Heap} {L : Addr} {news : List (Addr × Obj)} {D : Addr} {l : List (Str × Tok)} {M : List (List Nat)} {e : Nat} {sep : Str} {sepL : List Nat} {t : Tok} {Q : Value → Shared → Prop} (hl : l.map (·.1) = M.map S) (hsz : M.length ≤ 1000 ∧ ∀ x ∈ M, x.length ≤ 1000) (N : News h₀ L s.heap news) (hm : (D, W.listOf (outsVal l) e) ∈ news) (hsep : sep = S sepL) (hsl : sepL.length ≤ 10)
    (h : ∀ t' k, Q (.str (S (sepL.intercalate M)) t') { s with toks := k }) : wpAny (model prog w) A (call (.builtin "str.join") [.str sep t, .ref D]) Q E s := by
  subst hsep
  refine SC.join (l := l) (texts := M.map S) ⟨_, (N _ hm).1, rfl, _, rfl⟩ hl (joinOk_of_len 1000 ?_ ?_) fun t' k => ?_
  · intro x hx
    obtain ⟨y, hy, rfl⟩ := List.mem_map.mp hx
    rw [S_len]; exact hsz.2 y hy
  · have h1 : (M.map S).length ≤ 1000 := by rw [List.length_map]; exact hsz.1
    have h2 : 1000 + (S sepL).length ≤ 1010 := by rw [S_len]; omega
    exact Nat.le_trans (Nat.mul_le_mul h1 h2) (by decide)
  · rw [txt_join]; exact h t' k
theorem inter_len (sep : List Nat) (hs : sep.length ≤ 10) (M : List (List Nat)) (hM : M.length ≤ 10 ∧ ∀ x ∈ M, x.length ≤ 10) : (sep.intercalate M).length ≤ 300 := by
  have key : ∀ M : List (List Nat), (∀ x ∈ M, x.length ≤ 10) → (sep.intercalate M).length ≤ M.length * 20 := by
    intro M
    induction M with
    | nil => intro _; simp [List.intercalate]
    | cons a r ih =>
      intro h
      have h1 := h a (by simp)
      have h2 := ih fun x hx => h x (by simp [hx])
      cases r with
      | nil => simp [List.intercalate]; omega
      | cons b r =>
        simp [List.intercalate] at h2 ⊢
        omega
  have := key M hM.2
  omega
theorem sep_a : Str.ofString "][" = S [93, 91] := by decide +kernel
theorem sep_b : Str.ofString "" = S [] := by decide +kernel
local macro_rules | `(tactic| walk_at "call type:zip") => `(tactic| refine Stop.out ?_)
local macro_rules | `(tactic| walk_at "eval Name") => `(tactic| ((with_reducible show wpAny _ _ (eval _ (compEnvC _ _ _ _)) _ _ _); k_dflt (refine' ld_comp ?fx1 ?fx2 ?_ ?fx3 ?fx4 ?fx5; (case fx1 => assumption); (case fx2 => assumption); (case fx3 => exact rfl); (case fx4 => exact rfl); (case fx5 => decide))))
local macro_rules | `(tactic| walk_at "exec Assign cons ListComp") => `(tactic| (k_here; k_dflt (refine Assign_ListComp_Z (F₀ := by k_asm) (by rfl) (by with_unfolding_all rfl) (by with_unfolding_all rfl) (by decide) (by rfl) (by decide) (by rfl) (by rfl) (by decide) (by rfl) (by rfl) ?_)))
local macro_rules | `(tactic| walk_at "call builtin:str.join") => `(tactic| (k_here; k_dflt (refine' join_N ?fx1 ?fx2 ?fx3 ?fx4 ?fx5 ?fx6 ?_; (case fx1 => assumption); (case fx2 => assumption); (case fx3 => k_asm); (case fx4 => k_mem); (case fx5 => first | exact sep_a | exact sep_b); (case fx6 => decide)); intro t' tk'; (try dsimp only)))
set_option maxRecDepth 100000 in
set_option maxHeartbeats 8000000 in
theorem row_ct (a b : List Nat) (ha : a ≠ [] ∧ a.length ≤ 4) (hb : b ≠ [] ∧ b.length ≤ 4) (ta tb : Tok) : CtP w p loose mean mg mb 86 [.str (S a) ta, .str (S b) tb] 40 400 (fun _ => True) (RStr (S (pat (bsOf (a.zip b))))) := by
  unfold CtP
  intro dp un gd cn cs c ccd cl outer A₀ base h₀ L m news s Q E B F X N T hk hpre hd hu hret
  have hfill : PySem.Challenge.rw_ij0015_01 = PySem.Challenge.rw_ij0015_01 ∧ heapL = heapL := by
    k_fill
    exact ⟨rfl, rfl⟩
  clear hfill
  refine wpAny_call ?_
  k_dflt ktr_enter
  refine wpAny_noRaise ?_
  have hsa : (S a).cps.size ≤ 1000 := by simp; omega
  k_steps
  unfold Stop
  refine call_zip_N (by assumption) (by assumption) ?_
  intro I h1 Z F1 N1 hL hn hb'
  refine ⟨I, S a, S b, _, _, news, fun c d => S [c, 45, d], rfl, rfl, F1, N1, Z, hL, hn, hb', hsa, ?_, ?_⟩
  · intro C c d t1 t2 mc s₂ E' hns hx hy
    k_steps
  · intro D h2 tk l F2 N2 hoff hl
    have hl2 : l.map (·.1) = ((a.zip b).map rngL).map S := by rw [hl, List.map_map]; rfl
    have hzl : (a.zip b).length ≤ 4 := by rw [List.length_zip]; omega
    have hzn : a.zip b ≠ [] := by
      intro e
      have := congrArg List.length e
      have h1 := List.length_pos_iff.mpr ha.1
      have h2 := List.length_pos_iff.mpr hb.1
      rw [List.length_zip, List.length_nil] at this; omega
    have hM : ((a.zip b).map rngL).length ≤ 1000 ∧ ∀ x ∈ (a.zip b).map rngL, x.length ≤ 1000 := ⟨by rw [List.length_map]; omega, fun x hx => by obtain ⟨q, _, rfl⟩ := List.mem_map.mp hx; simp [rngL]⟩
    have hM2 : ((a.zip b).map rngL).length ≤ 10 ∧ ∀ x ∈ (a.zip b).map rngL, x.length ≤ 10 := ⟨by rw [List.length_map]; omega, fun x hx => by obtain ⟨q, _, rfl⟩ := List.mem_map.mp hx; simp [rngL]⟩
    have hz1 : (S ([93, 91].intercalate ((a.zip b).map rngL))).length ≤ 300 := by rw [S_len]; exact inter_len _ (by decide) _ hM2
    have hz2 : (S ([].intercalate ((a.zip b).map rngL))).length ≤ 300 := by rw [S_len]; exact inter_len _ (by decide) _ hM2
    k_steps
    refine hret _ _ _ _ (by k_asm) (news_tail (q := (D, W.listOf (outsVal l) l.length)) (by assumption)) (rstr_of ?_)
    rw [pat_row hzn, show Str.ofString "[" = S [91] from by decide +kernel, show Str.ofString "]" = S [93] from by decide +kernel, sep_a, S_append, S_append, S_append, S_append]
    simp
end
section
theorem calm14 : True := by
  w_top off
  k_with_none
  trivial
variable {w : World} {p : Program} {loose : List Str} {mean : ExcName → Option Value} {mg mb : Str → Option Value}
def EltEnd (h₀ : Heap) (L : Addr) (m : Str → Option Value) (s : Shared) (all : List (Addr × Obj)) (P : Value → Prop) (y : Value) (s₄ : Shared) : Prop :=
  P y ∧ ∃ h' tk', s₄ = { s with heap := h', toks := tk' } ∧ Fr h₀ L h' m ∧ News h₀ L h' all
theorem rest_ind {prog : Program} {A : Around} {s : Shared} {h₀ : Heap} {L : Addr} {m : Str → Option Value} {env : Env} {news : List (Addr × Obj)} {elt : PySem.Expr} {x : Str} {scope : Scope} {cl : List (Str × Addr)} {SS : List (Addr × Obj) → Prop} {P : Nat → Value → Prop} {Fin : List Value → List (Addr × Obj) → Prop} {n : Nat}
    (P' : Nat → List Value → Prop) (hS : SS news)
    (step : ∀ i ys v I oI C oC D m₂ h tk (E' : Value → Shared → Prop), i < n → P' i ys → P i v → LCg.NsObj oC m₂ → m₂ x = some v → Fr h₀ L h m → News h₀ L h ((I, oI) :: (C, oC) :: (D, LCg.lst ys) :: news) → LCg.Off3 I C D news → ((@Ne Nat I C) ∧ (@Ne Nat I D) ∧ (@Ne Nat C D)) →
      wpAny (model prog w) A (eval elt (compEnvC scope cl C env)) (EltEnd h₀ L m s ((I, oI) :: (C, oC) :: (D, LCg.lst ys) :: news) (fun y => P' (i + 1) (ys ++ [y]))) E' { s with heap := h, toks := tk })
    (fin : ∀ ys, P' n ys → Fin ys news) : ∀ k i ys, i + k = n → P' i ys → LCg.CompRest prog w A h₀ L m env elt x scope cl s SS P Fin k i ys news := by
  intro k
  induction k with
  | zero =>
    intro i ys hi hP
    obtain rfl : i = n := by omega
    exact LCg.CompRest.zero (fin ys hP)
  | succ k ih =>
    intro i ys hi hP
    refine LCg.CompRest.succ ?_
    intro v I oI C oC D m₂ h tk E' hv hC hx F N off ne
    refine wpAny_mono (step i ys v I oI C oC D m₂ h tk E' (by omega) hP hv hC hx F N off ne) (fun y s₄ h4 => ?_) fun _ _ e => e
    obtain ⟨hy, h', tk', rfl, F', N'⟩ := h4
    exact LCg.CompEnd.intro F' N' news (fun p hp => hp) off hS (ih (i + 1) (ys ++ [y]) (by omega) hy)
local macro_rules | `(tactic| walk_at "call type:zip") => `(tactic| refine Stop.out ?_)
local macro_rules | `(tactic| walk_at "call type:list") => `(tactic| refine Stop.out ?_)
local macro_rules | `(tactic| walk_at "CompSrc") => `(tactic| refine Stop.out ?_)
local macro_rules | `(tactic| walk_at "call ref") => `(tactic| ((with_reducible show wpAny _ _ (call (Value.ref 100) _) _ _ _); refine Stop.out ?_))
theorem add_LS {prog : Program} {w : World} {A : Around} {E : Value → Shared → Prop} {s : Shared} {h₀ : Heap} {L : Addr} {m : Str → Option Value} {news : List (Addr × Obj)} {D1 D2 : Addr} {l1 : List (Str × Tok)} {x : Str} {t : Tok} {e1 e2 : Nat} {Q : Value → Shared → Prop} (F : Fr h₀ L s.heap m) (N : News h₀ L s.heap news)
    (h1 : (D1, W.listOf (outsVal l1) e1) ∈ news) (h2 : (D2, W.listOf #[.str x t] e2) ∈ news) (hsz : l1.length ≤ 1000)
    (h : ∀ D h', Fr h₀ L h' m → News h₀ L h' ((D, W.listOf (outsVal (l1 ++ [(x, t)])) 0) :: news) → Q (.ref D) { s with heap := h' }) : wpAny (model prog w) A (binaryOp .Add (.ref D1) (.ref D2)) Q E s := by
  refine add_arrays F N ⟨_, (N _ h1).1, rfl, _, rfl⟩ ⟨_, (N _ h2).1, rfl, _, rfl⟩ (fun h' F' N' => h _ h' F' ?_) (by have := outsVal_size l1; rw [sizeLine_eq]; simp; omega)
  have e : ((outsVal l1).toList ++ (#[Value.str x t] : Array Value).toList).toArray = outsVal (l1 ++ [(x, t)]) := by
    unfold outsVal; rw [strValues_append]; simp [strValues]
  rw [e] at N'
  exact N'
theorem pairs_one {news : List (Addr × Obj)} {D T : Addr} {e : Nat} {q : Nat × Nat} {ta tb : Tok} (h1 : (D, W.listOf #[Value.ref T] e) ∈ news) (h2 : (T, prObj (.str ⟨#[q.1]⟩ ta) (.str ⟨#[q.2]⟩ tb)) ∈ news) : PairsIn news D [q] :=
  ⟨_, e, h1, rfl, fun i p hp => by
    match i, hp with
    | 0, hp =>
      obtain rfl : q = p := by simpa using hp
      exact ⟨T, ta, tb, rfl, h2⟩⟩
theorem pairs_all {news tups : List (Addr × Obj)} {D : Addr} {e : Nat} {a b : List Nat} {as : List Addr} (h1 : (D, W.listOf (as.map Value.ref).toArray e) ∈ news) (hl : as.length = min (S a).cps.size (S b).cps.size)
    (h : ∀ (j : Nat) (x y : Nat), (S a).cps[j]? = some x → (S b).cps[j]? = some y → ∃ c ta tb, as[j]? = some c ∧ (c, prObj (.str ⟨#[x]⟩ ta) (.str ⟨#[y]⟩ tb)) ∈ tups) (hs : ∀ p ∈ tups, p ∈ news) : PairsIn news D (a.zip b) :=
  ⟨_, e, h1, by rw [List.length_zip]; simp [hl], fun i q hq => by
    obtain ⟨hqa, hqb⟩ := List.getElem?_zip_eq_some.mp hq
    obtain ⟨T1, t1, t2, hT1, hT2⟩ := h i q.1 q.2 (by simpa using hqa) (by simpa using hqb)
    exact ⟨T1, t1, t2, by rw [List.getElem?_toArray, List.getElem?_map, hT1]; rfl, hs _ hT2⟩⟩
set_option maxRecDepth 100000 in
set_option maxHeartbeats 8000000 in
theorem told_ct (a b : List Nat) (ha : a.length ≤ 4) (hb : b.length ≤ 4) (ta tb : Tok) : CtP w p loose mean mg mb 105 [.str (S a) ta, .str (S b) tb] 80 800 (fun _ => True)
    (fun news r news' => ∃ rl ll e, r = .ref rl ∧ news' = (rl, W.listOf (outsVal ll) e) :: news ∧ ll.map (·.1) = (told (a.zip b)).map S) := by
  unfold CtP
  intro dp un gd cn cs c ccd cl outer A₀ base h₀ L m news s Q E B F X N T hk hpre hd hu hret
  have hfill : PySem.Challenge.rw_ij0015_01 = PySem.Challenge.rw_ij0015_01 ∧ heapL = heapL := by
    k_fill
    exact ⟨rfl, rfl⟩
  clear hfill
  refine wpAny_call ?_
  k_dflt ktr_enter
  refine wpAny_noRaise ?_
  have hsa : (S a).cps.size ≤ 1000 := by simp; omega
  k_steps
  unfold Stop
  refine call_zip_N (by assumption) (by assumption) ?_
  intro I h1 Z F1 N1 hL hn hb'
  k_steps
  unfold Stop
  refine list_zip rfl hsa Z F1 N1 hL hn hb' ?_
  intro D h2 tk2 as c2 tups F2 N2 hasl hast hoff
  k_steps
  unfold Stop
  refine LCg.CompSrc.ledger rfl (by assumption) (by assumption) (by exact .head _) (by rw [sizeLine_eq]; simp; omega) ?_
  intro g9
  refine rest_ind (n := as.length) (fun i ys => ∃ l : List (Str × Tok), ys = strValues l ∧ l.map (·.1) = (((a.zip b).take i).map fun q => out [q]).map S) (.inr ⟨_, .head _, rfl, _, rfl⟩) ?_ ?_ _ 0 [] (by simp) ⟨[], rfl, rfl⟩
  · intro i ys v I1 oI C1 oC D1 m₂ h3 tk3 E' hi hP hv hC hx F3 N3 off ne
    obtain ⟨l, rfl, hl⟩ := hP
    have hmin : as.length = (a.zip b).length := by rw [hasl, List.length_zip]; simp
    obtain ⟨q, hq⟩ : ∃ q, (a.zip b)[i]? = some q := ⟨_, List.getElem?_eq_getElem (by omega)⟩
    obtain ⟨hqa, hqb⟩ := List.getElem?_zip_eq_some.mp hq
    obtain ⟨T1, t1, t2, hT1, hT2⟩ := hast i q.1 q.2 (by simpa using hqa) (by simpa using hqb)
    obtain rfl : v = .ref T1 := by
      rw [List.getElem?_toArray, List.getElem?_map, hT1] at hv
      exact (Option.some.inj hv).symm
    k_steps
    unfold Stop
    k_dflt (refine' ct_useS (set_ct [q] (by simp) _) ?k1 ?k2 ?k3 ?k4 ?k5 ?kK ?kp ?kd ?ku ?_; (case k1 => k_asm); (case k2 => k_asm); (case k3 => k_asm); (case k4 => k_asm); (case k5 => k_asm); (case kK => exact rfl); (case kp => exact pairs_one (.head _) (.tail _ (.tail _ (.tail _ (.tail _ (.tail _ (List.mem_append.mpr (.inl hT2)))))))); (case kd => ktr_room); (case ku => ktr_units))
    intro t9 h9 tk9 F9 N9
    refine ⟨⟨l ++ [(S (lawSet [q]), t9)], by rw [strValues_append]; rfl, ?_⟩, _, _, rfl, F9, news_tail N9⟩
    rw [List.map_append, hl, List.take_add_one, hq, lawSet_eq]; simp
  · intro ys hP
    obtain ⟨l, rfl, hl⟩ := hP
    k_steps
    unfold Stop
    k_dflt (refine' ct_useS (set_ct (a.zip b) (by rw [List.length_zip]; omega) _) ?k1 ?k2 ?k3 ?k4 ?k5 ?kK ?kp ?kd ?ku ?_; (case k1 => k_asm); (case k2 => k_asm); (case k3 => k_asm); (case k4 => k_asm); (case k5 => k_asm); (case kK => exact rfl); (case kp => exact pairs_all (.tail _ (.head _)) hasl hast fun p hp => .tail _ (.tail _ (List.mem_append.mpr (.inl hp)))); (case kd => ktr_room); (case ku => ktr_units))
    intro t9 h9 tk9 F9 N9
    k_steps
    have hmin : as.length = (a.zip b).length := by rw [hasl, List.length_zip]; simp
    have hll : l.length ≤ 1000 := by have := congrArg List.length hl; simp at this; omega
    refine add_LS (l1 := l) (by assumption) (by assumption) (.tail _ (.head _)) (.head _) hll ?_
    intro D5 h5 F5 N5
    k_steps
    refine hret _ _ _ _ (by k_asm) (news_sub (by assumption) ?_) ⟨D5, l ++ [(S (lawSet (a.zip b)), t9)], 0, rfl, rfl, ?_⟩
    rotate_left
    · rw [List.map_append, hl, hmin, List.take_length, lawSet_eq]; unfold told; simp
    · intro p hp
      rcases List.mem_cons.mp hp with rfl | hp
      · exact .head _
      · exact .tail _ (.tail _ (.tail _ (.tail _ (List.mem_append.mpr (.inr hp)))))
end
section
theorem calm15 : True := by
  w_top off
  k_with_none
  trivial
variable {w : World} {p : Program} {loose : List Str} {mean : ExcName → Option Value} {mg mb : Str → Option Value}
def txF : Option Stmt := PR.main.body[12]?
def txSc : Scope := scopeOf txF
def txBody : List Stmt := stmts (stmts txF)[1]?
abbrev okSigns (l : List Nat) : Prop := ∀ c ∈ l, okSign c
theorem add_sign (f : List Nat) (c : Nat) : S f ++ (⟨#[c]⟩ : Str) = S (f ++ [c]) := S_append f [c]
def txIf1 : Stmt := (txBody[2]?).getD default
set_option maxRecDepth 100000 in
set_option maxHeartbeats 2000000 in
theorem txif1 (f : List Nat) (hf : f.length ≤ 4) (cc : Nat) (wv : Int)
    (dp un : Nat) (gd : Option (List Code)) (cn : Str) (cs : Scope) (L0 c : Addr) (ccd : Value) (cl : List (Str × Addr)) (outer : List Env) (base h₀ : Heap) (L : Addr) (m : Str → Option Value) (news : List (Addr × Obj)) (s : Shared) (tw ts tf : Tok)
    (Q : Flow → Shared → Prop) (E : Value → Shared → Prop)
    (B : Below (ktrTop dp un gd cn cs L0 c ccd cl outer) base (envX cn cs L0 c ccd cl :: outer) h₀) (X : (heapL w.params).In h₀) (T : Top p loose mean mg mb h₀)
    (F : Fr h₀ L s.heap m) (N : News h₀ L s.heap news)
    (hm1 : m "which" = some (.int wv tw)) (hm2 : m "sign" = some (.str ⟨#[cc]⟩ ts)) (hm3 : m "first" = some (.str (S f) tf))
    (hQ : ∀ h' tk' m' f', (f' = f ∨ (f' = f ++ [cc] ∧ f.length < 4)) → (wv = 0 → f' ≠ []) → Fr h₀ L h' m' → News h₀ L h' news → Agree ["first"] m m' → StrIs (m' "first") (S f') → Q .next { s with heap := h', toks := tk' }) :
    wpAny (model PR w) ((ktrTop dp un gd cn cs L0 c ccd cl outer).deeper (envOf (Str.ofString "_law_texts") txSc L 81 (.ref 80))) (exec txIf1 (envOf (Str.ofString "_law_texts") txSc L 81 (.ref 80))) Q E s := by
  have hfill : PySem.Challenge.rw_ij0015_01 = PySem.Challenge.rw_ij0015_01 ∧ heapL = heapL := by
    k_fill
    exact ⟨rfl, rfl⟩
  clear hfill
  have hsc : txSc = ⟨_, _, _, _, _⟩ := rfl
  rw [hsc]
  clear hsc
  refine exec_of (b := .If _ _ _ _) rfl ?_
  have hlf : (S f).length = f.length := S_len f
  k_steps
  · refine hQ _ _ _ (f ++ [cc]) (.inr ⟨rfl, by omega⟩) (fun _ => by simp) (by assumption) (news_sub (by assumption) fun p hp => ?_) ?_ (str_is rfl (add_sign f cc))
    · first | exact hp | exact .tail _ hp
    · intro x hx
      simp only [List.mem_singleton] at hx
      dsimp only
      rw [if_neg hx]
  · refine hQ _ _ _ f (.inl rfl) (fun _ e => ?_) (by assumption) (news_sub (by assumption) fun p hp => ?_) (fun x _ => rfl) ⟨tf, hm3⟩
    · subst e; simp only [List.length_nil] at hlf; omega
    · first | exact hp | exact .tail _ hp
  · refine hQ _ _ _ f (.inl rfl) (fun e => ?_) (by assumption) (news_sub (by assumption) fun p hp => ?_) (fun x _ => rfl) ⟨tf, hm3⟩
    · subst e
      have h : (([0, 1, 2, 5, 7] : List Int).any fun x => x == (0 : Int)) = false := by assumption
      exact absurd h (by decide)
    · first | exact hp | exact .tail _ hp
def txIf2 : Stmt := (txBody[3]?).getD default
set_option maxRecDepth 100000 in
set_option maxHeartbeats 2000000 in
theorem txif2 (f : List Nat) (hf : f.length ≤ 4) (cc : Nat) (wv : Int)
    (dp un : Nat) (gd : Option (List Code)) (cn : Str) (cs : Scope) (L0 c : Addr) (ccd : Value) (cl : List (Str × Addr)) (outer : List Env) (base h₀ : Heap) (L : Addr) (m : Str → Option Value) (news : List (Addr × Obj)) (s : Shared) (tw ts tf : Tok)
    (Q : Flow → Shared → Prop) (E : Value → Shared → Prop)
    (B : Below (ktrTop dp un gd cn cs L0 c ccd cl outer) base (envX cn cs L0 c ccd cl :: outer) h₀) (X : (heapL w.params).In h₀) (T : Top p loose mean mg mb h₀)
    (F : Fr h₀ L s.heap m) (N : News h₀ L s.heap news)
    (hm1 : m "which" = some (.int wv tw)) (hm2 : m "sign" = some (.str ⟨#[cc]⟩ ts)) (hm3 : m "second" = some (.str (S f) tf))
    (hQ : ∀ h' tk' m' f', (f' = f ∨ (f' = f ++ [cc] ∧ f.length < 4)) → (wv = 0 → f' ≠ []) → Fr h₀ L h' m' → News h₀ L h' news → Agree ["second"] m m' → StrIs (m' "second") (S f') → Q .next { s with heap := h', toks := tk' }) :
    wpAny (model PR w) ((ktrTop dp un gd cn cs L0 c ccd cl outer).deeper (envOf (Str.ofString "_law_texts") txSc L 81 (.ref 80))) (exec txIf2 (envOf (Str.ofString "_law_texts") txSc L 81 (.ref 80))) Q E s := by
  have hfill : PySem.Challenge.rw_ij0015_01 = PySem.Challenge.rw_ij0015_01 ∧ heapL = heapL := by
    k_fill
    exact ⟨rfl, rfl⟩
  clear hfill
  have hsc : txSc = ⟨_, _, _, _, _⟩ := rfl
  rw [hsc]
  clear hsc
  refine exec_of (b := .If _ _ _ _) rfl ?_
  have hlf : (S f).length = f.length := S_len f
  k_steps
  · refine hQ _ _ _ (f ++ [cc]) (.inr ⟨rfl, by omega⟩) (fun _ => by simp) (by assumption) (news_sub (by assumption) fun p hp => ?_) ?_ (str_is rfl (add_sign f cc))
    · first | exact hp | exact .tail _ hp
    · intro x hx
      simp only [List.mem_singleton] at hx
      dsimp only
      rw [if_neg hx]
  · refine hQ _ _ _ f (.inl rfl) (fun _ e => ?_) (by assumption) (news_sub (by assumption) fun p hp => ?_) (fun x _ => rfl) ⟨tf, hm3⟩
    · subst e; simp only [List.length_nil] at hlf; omega
    · first | exact hp | exact .tail _ hp
  · refine hQ _ _ _ f (.inl rfl) (fun e => ?_) (by assumption) (news_sub (by assumption) fun p hp => ?_) (fun x _ => rfl) ⟨tf, hm3⟩
    · subst e
      have h : (([0, 1, 3, 5, 6] : List Int).any fun x => x == (0 : Int)) = false := by assumption
      exact absurd h (by decide)
    · first | exact hp | exact .tail _ hp
def txIf3 : Stmt := (txBody[4]?).getD default
set_option maxRecDepth 100000 in
set_option maxHeartbeats 2000000 in
theorem txif3 (f : List Nat) (hf : f.length ≤ 4) (cc : Nat) (wv : Int)
    (dp un : Nat) (gd : Option (List Code)) (cn : Str) (cs : Scope) (L0 c : Addr) (ccd : Value) (cl : List (Str × Addr)) (outer : List Env) (base h₀ : Heap) (L : Addr) (m : Str → Option Value) (news : List (Addr × Obj)) (s : Shared) (tw ts tf : Tok)
    (Q : Flow → Shared → Prop) (E : Value → Shared → Prop)
    (B : Below (ktrTop dp un gd cn cs L0 c ccd cl outer) base (envX cn cs L0 c ccd cl :: outer) h₀) (X : (heapL w.params).In h₀) (T : Top p loose mean mg mb h₀)
    (F : Fr h₀ L s.heap m) (N : News h₀ L s.heap news)
    (hm1 : m "which" = some (.int wv tw)) (hm2 : m "sign" = some (.str ⟨#[cc]⟩ ts)) (hm3 : m "third" = some (.str (S f) tf))
    (hQ : ∀ h' tk' m' f', (f' = f ∨ (f' = f ++ [cc] ∧ f.length < 4)) → (wv = 0 → f' ≠ []) → Fr h₀ L h' m' → News h₀ L h' news → Agree ["third"] m m' → StrIs (m' "third") (S f') → Q .next { s with heap := h', toks := tk' }) :
    wpAny (model PR w) ((ktrTop dp un gd cn cs L0 c ccd cl outer).deeper (envOf (Str.ofString "_law_texts") txSc L 81 (.ref 80))) (exec txIf3 (envOf (Str.ofString "_law_texts") txSc L 81 (.ref 80))) Q E s := by
  have hfill : PySem.Challenge.rw_ij0015_01 = PySem.Challenge.rw_ij0015_01 ∧ heapL = heapL := by
    k_fill
    exact ⟨rfl, rfl⟩
  clear hfill
  have hsc : txSc = ⟨_, _, _, _, _⟩ := rfl
  rw [hsc]
  clear hsc
  refine exec_of (b := .If _ _ _ _) rfl ?_
  have hlf : (S f).length = f.length := S_len f
  k_steps
  · refine hQ _ _ _ (f ++ [cc]) (.inr ⟨rfl, by omega⟩) (fun _ => by simp) (by assumption) (news_sub (by assumption) fun p hp => ?_) ?_ (str_is rfl (add_sign f cc))
    · first | exact hp | exact .tail _ hp
    · intro x hx
      simp only [List.mem_singleton] at hx
      dsimp only
      rw [if_neg hx]
  · refine hQ _ _ _ f (.inl rfl) (fun _ e => ?_) (by assumption) (news_sub (by assumption) fun p hp => ?_) (fun x _ => rfl) ⟨tf, hm3⟩
    · subst e; simp only [List.length_nil] at hlf; omega
    · first | exact hp | exact .tail _ hp
  · refine hQ _ _ _ f (.inl rfl) (fun e => ?_) (by assumption) (news_sub (by assumption) fun p hp => ?_) (fun x _ => rfl) ⟨tf, hm3⟩
    · subst e
      have h : (([0, 1, 4, 6, 7] : List Int).any fun x => x == (0 : Int)) = false := by assumption
      exact absurd h (by decide)
    · first | exact hp | exact .tail _ hp
end
section
theorem calm16 : True := by
  w_top off
  k_with_none
  trivial
variable {w : World} {p : Program} {loose : List Str} {mean : ExcName → Option Value} {mg mb : Str → Option Value}
theorem ct_useC {w : World} {p : Program} {loose : List Str} {mean : ExcName → Option Value} {mg mb : Str → Option Value} {i : Int} {ta : Tok}
    {dp un : Nat} {gd : Option (List Code)} {cn : Str} {cs : Scope} {a : Addr} {ccd : Value} {cl : List (Str × Addr)} {outer : List Env} {A₀ : Around} {base h₀ : Heap} {L : Addr} {m : Str → Option Value} {news : List (Addr × Obj)} {s : Shared}
    {Q E : Value → Shared → Prop}
    (B : Below A₀ base outer h₀) (F : Fr h₀ L s.heap m) (X : (heapL w.params).In h₀) (N : News h₀ L s.heap news) (T : Top p loose mean mg mb h₀) (hk : cs.kind = .function)
    (hdp : dp + 20 < recursionLimit) (hun : un + 200 < cLine)
    (h : ∀ c t h' tk', okSign c → Fr h₀ L h' m → News h₀ L h' news → Q (.str ⟨#[c]⟩ t) { s with heap := h', toks := tk' }) :
    wpAny (model PR w) (ktrTop dp un gd cn cs L a ccd cl outer) (call (.ref 76) [.int i ta]) Q E s :=
  ctP_use (sign_ct i ta) B F X N T hk trivial hdp hun fun r news' h' tk' F' N' hR => by
    obtain ⟨rfl, c, t, rfl, hok⟩ := hR
    exact h c t h' tk' hok F' N'
local macro_rules | `(tactic| walk_at "call ref") => `(tactic| (k_here; (with_reducible show wpAny _ _ (call (Value.ref 76) _) _ _ _); k_dflt (refine' ct_useC ?k1 ?k2 ?k3 ?k4 ?k5 ?kK ?kd ?ku ?_; (case k1 => k_asm); (case k2 => k_asm); (case k3 => k_asm); (case k4 => k_asm); (case k5 => k_asm); (case kK => first | exact rfl | assumption); (case kd => ktr_room); (case ku => ktr_units)); intro c' t' h' tk' hok' F' N'; (try dsimp only)))
local macro_rules | `(tactic| walk_at "execs cons") => `(tactic| ((with_reducible show wpAny _ _ (execs (Stmt.If _ _ _ _ :: _) _) _ _ _); refine Stop.out ?_))
def okText (f : List Nat) : Prop := f ≠ [] ∧ f.length ≤ 4 ∧ okSigns f
abbrev pre14 (ns : List Int) : List Int := (ns.take 14).map fun a => a.fmod (10 ^ Int.toNat 9)
def JX (k : Nat) (news₀ : List (Addr × Obj)) (i : Nat) (m : Str → Option Value) (news : List (Addr × Obj)) : Prop :=
  ∃ f g h : List Nat, StrIs (m "first") (S f) ∧ StrIs (m "second") (S g) ∧ StrIs (m "third") (S h) ∧ (f.length ≤ 4 ∧ okSigns f) ∧ (g.length ≤ 4 ∧ okSigns g) ∧ (h.length ≤ 4 ∧ okSigns h) ∧ (k < i → f ≠ [] ∧ g ≠ [] ∧ h ≠ []) ∧ news = news₀
theorem grown {f f' : List Nat} {c : Nat} (h : f' = f ∨ (f' = f ++ [c] ∧ f.length < 4)) (hf : f.length ≤ 4 ∧ okSigns f) (hc : okSign c) : (f'.length ≤ 4 ∧ okSigns f') ∧ (f ≠ [] → f' ≠ []) := by
  rcases h with rfl | ⟨rfl, hl⟩
  · exact ⟨hf, id⟩
  · refine ⟨⟨by simp; omega, fun x hx => ?_⟩, fun _ => by simp⟩
    rcases List.mem_append.mp hx with hx | hx
    · exact hf.2 x hx
    · rw [List.mem_singleton.mp hx]; exact hc
set_option maxRecDepth 100000 in
set_option maxHeartbeats 8000000 in
theorem texts_ct (l : Addr) (vs : List Value) (ns : List Int) (hvs : IntsAre vs ns) (hlen : ns.length ≤ 63)
    (dp un : Nat) (gd : Option (List Code)) (cn : Str) (cs : Scope) (c : Addr) (ccd : Value) (cl : List (Str × Addr)) (outer : List Env) (A₀ : Around) (base h₀ : Heap) (L : Addr) (m : Str → Option Value) (news : List (Addr × Obj)) (s : Shared)
    (Q E : Value → Shared → Prop) (B : Below A₀ base outer h₀) (F : Fr h₀ L s.heap m) (X : (heapL w.params).In h₀) (N : News h₀ L s.heap news) (T : Top p loose mean mg mb h₀) (hk : cs.kind = .function)
    (hl : base.IsList l vs.toArray) (hd : dp + 40 < recursionLimit) (hu : un + 400 < cLine)
    (hret : ∀ rt f g h t1 t2 t3 h' tk', okText f → okText g → okText h → Fr h₀ L h' m → News h₀ L h' ((rt, { cls := .type "tuple", data := .seq #[.str (S f) t1, .str (S g) t2, .str (S h) t3] }) :: news) → Q (.ref rt) { s with heap := h', toks := tk' }) :
    wpAny (model PR w) (ktrTop dp un gd cn cs L c ccd cl outer) (call (.ref 81) [.ref l]) Q E s := by
  have hfill : PySem.Challenge.rw_ij0015_01 = PySem.Challenge.rw_ij0015_01 ∧ heapL = heapL := by
    k_fill
    exact ⟨rfl, rfl⟩
  clear hfill
  refine wpAny_call ?_
  k_dflt cell_enter
  refine wpAny_noRaise ?_
  k_steps
  unfold Stop
  refine For_K (by assumption) PassesOwn.never ?_
  k_steps
  rename_i D9 ws9 h9 F9 N9 hI9 hlt9
  have hl14 : (pre14 ns).length ≤ 14 := by simp; omega
  refine forK_list (s₀ := { s with heap := _, toks := _ }) rfl (JX (pre14 ns).length _) F9 N9 (.head _) (by intro i m1 n1 hJ; obtain ⟨_, _, _, _, _, _, _, _, _, _, rfl⟩ := hJ; exact .head _) ⟨[], [], [], str_is rfl (by decide +kernel), str_is rfl (by decide +kernel), str_is rfl (by decide +kernel), ⟨by simp, fun x hx => nomatch hx⟩, ⟨by simp, fun x hx => nomatch hx⟩, ⟨by simp, fun x hx => nomatch hx⟩, fun h => absurd h (by omega), rfl⟩ ?_ ?_
  · intro I i v m1 news1 h1 tk1 o1 hi hv hJ hoff F1 N1
    obtain ⟨f, g, h, ⟨tf, hm1⟩, ⟨tg, hm2⟩, ⟨th, hm3⟩, hf, hg, hh, hne, rfl⟩ := hJ
    obtain ⟨n, tn, rfl, hn⟩ := hI9.at i v (by simpa using hv)
    k_steps
    unfold Stop
    rename_i cc9 _ _ _ hok9 _ F2 N2
    refine execs_of (b := [txIf1, txIf2, txIf3]) rfl ?_
    refine wpAny_execs_cons (txif1 f hf.1 cc9 _ dp un gd cn cs L c ccd cl outer base _ _ _ _ _ _ _ tf _ _ (by assumption) (by assumption) (by assumption) F2 N2 (by exact rfl) (by exact rfl) (by exact hm1) ?_)
    intro h3 tk3 m3 f' cf1 cf2 F3 N3 a3 s3
    obtain ⟨hf', hfn⟩ := grown cf1 hf hok9
    refine wpAny_execs_cons (txif2 g hg.1 cc9 _ dp un gd cn cs L c ccd cl outer base _ _ _ _ _ _ _ tg _ _ (by assumption) (by assumption) (by assumption) F3 N3 ((a3 _ (by decide +kernel)).trans (by exact rfl)) ((a3 _ (by decide +kernel)).trans (by exact rfl)) ((a3 _ (by decide +kernel)).trans (by exact hm2)) ?_)
    intro h4 tk4 m4 g' cg1 cg2 F4 N4 a4 s4
    obtain ⟨hg', hgn⟩ := grown cg1 hg hok9
    refine wpAny_execs_cons (txif3 h hh.1 cc9 _ dp un gd cn cs L c ccd cl outer base _ _ _ _ _ _ _ th _ _ (by assumption) (by assumption) (by assumption) F4 N4 ((a4 _ (by decide +kernel)).trans ((a3 _ (by decide +kernel)).trans (by exact rfl))) ((a4 _ (by decide +kernel)).trans ((a3 _ (by decide +kernel)).trans (by exact rfl))) ((a4 _ (by decide +kernel)).trans ((a3 _ (by decide +kernel)).trans (by exact hm3))) ?_)
    intro h5 tk5 m5 h' ch1 ch2 F5 N5 a5 s5
    obtain ⟨hh', hhn⟩ := grown ch1 hh hok9
    obtain ⟨t3, e3⟩ := s3
    obtain ⟨t4, e4⟩ := s4
    refine wpAny_execs_nil ⟨m5, _, h5, _, rfl, F5, N5, hoff, ⟨f', g', h', ⟨t3, (a5 _ (by decide +kernel)).trans ((a4 _ (by decide +kernel)).trans e3)⟩, ⟨t4, (a5 _ (by decide +kernel)).trans e4⟩, s5, hf', hg', hh', ?_, rfl⟩⟩
    intro hk2
    by_cases hki : (pre14 ns).length < i
    · obtain ⟨n1, n2, n3⟩ := hne hki
      exact ⟨hfn n1, hgn n2, hhn n3⟩
    · have hie : i = (pre14 ns).length := by omega
      have hn0 : n = 0 := by
        rw [hie, List.getElem?_append_right (Nat.le_refl _), Nat.sub_self] at hn
        simpa using hn.symm
      subst hn0
      exact ⟨cf2 rfl, cg2 rfl, ch2 rfl⟩
  · intro h1 tk1 m1 news1 F1 N1 hJ
    obtain ⟨f, g, h, ⟨tf, hm1⟩, ⟨tg, hm2⟩, ⟨th, hm3⟩, hf, hg, hh, hne, rfl⟩ := hJ
    have hwl : (pre14 ns).length < ws9.toArray.size := by have := hI9.length; simp at this ⊢; omega
    obtain ⟨n1, n2, n3⟩ := hne hwl
    k_steps
    refine hret _ f g h tf tg th _ _ ⟨n1, hf⟩ ⟨n2, hg⟩ ⟨n3, hh⟩ (by assumption) (news_sub (by assumption) fun p hp => ?_)
    rcases List.mem_cons.mp hp with rfl | hp
    · exact .head _
    · exact .tail _ (.tail _ (.tail _ (.tail _ (.tail _ (.tail _ hp)))))
end
section
theorem calm17 : True := by
  w_top off
  k_with_none
  trivial
variable {w : World} {p : Program} {loose : List Str} {mean : ExcName → Option Value} {mg mb : Str → Option Value}
theorem pat_len (bs : List Pairs) : (pat bs).length = (bs.map fun ps => 3 * ps.length + 2).sum := by
  induction bs with
  | nil => rfl
  | cons a r ih => 
    have e : pat (a :: r) = brk a ++ pat r := by unfold pat; rw [List.flatMap_cons]
    rw [e, List.length_append, ih, brk_length]; simp
theorem pat_row_len (ps : Pairs) (h : ps.length ≤ 4) : (pat (bsOf ps)).length ≤ 1000 := by
  rw [pat_len]
  unfold bsOf
  rw [List.map_append, List.sum_append, List.map_map]
  have e : (ps.map ((fun ps : Pairs => 3 * ps.length + 2) ∘ fun q => [q])).sum = 5 * ps.length := by
    induction ps with
    | nil => rfl
    | cons a r ih => rw [List.map_cons, List.sum_cons, ih (by simp at h; omega)]; simp; omega
  rw [e]; simp; omega
theorem zip_ok {a b : List Nat} (ha : okText a) (hb : okText b) : okPairs (a.zip b) ∧ (a.zip b).length ≤ 4 ∧ ∀ q ∈ a.zip b, q.1 < 1114112 ∧ q.2 < 1114112 := by
  refine ⟨⟨?_, fun q hq => ?_⟩, by rw [List.length_zip]; have := ha.2.1; omega, fun q hq => ?_⟩
  · intro e
    have := congrArg List.length e
    have h1 := List.length_pos_iff.mpr ha.1
    have h2 := List.length_pos_iff.mpr hb.1
    rw [List.length_zip, List.length_nil] at this; omega
  · have h1 := ha.2.2 q.1 (List.of_mem_zip hq).1
    have h2 := hb.2.2 q.2 (List.of_mem_zip hq).2
    exact ⟨⟨h1.1, h1.2.1⟩, ⟨h2.1, h2.2.1⟩⟩
  · exact ⟨(ha.2.2 q.1 (List.of_mem_zip hq).1).2.2, (hb.2.2 q.2 (List.of_mem_zip hq).2).2.2⟩
theorem bsOf_ok {ps : Pairs} (h : okPairs ps) (hl : ps.length ≤ 4) : (∀ x ∈ bsOf ps, okPairs x ∧ x.length ≤ 40) ∧ bsOf ps ≠ [] ∧ (bsOf ps).length ≤ 900 := by
  refine ⟨fun x hx => ?_, by simp [bsOf], by simp [bsOf]; omega⟩
  rcases List.mem_append.mp hx with hx | hx
  · obtain ⟨q, hq, rfl⟩ := List.mem_map.mp hx
    exact ⟨⟨by simp, fun y hy => by rw [List.mem_singleton.mp hy]; exact h.2 q hq⟩, by simp⟩
  · rw [List.mem_singleton.mp hx]; exact ⟨h, by omega⟩
theorem outs_told (ps : Pairs) : (bsOf ps).map (fun x => S (out x)) = (told ps).map S := by
  unfold bsOf told; simp
theorem told_ok {ps : Pairs} (h : ∀ q ∈ ps, q.1 < 1114112 ∧ q.2 < 1114112) : ∀ x ∈ (told ps).map S, PyData.strOk x = true := by
  intro x hx
  obtain ⟨y, hy, rfl⟩ := List.mem_map.mp hx
  refine strOk_S ?_
  rcases List.mem_append.mp hy with hy | hy
  · obtain ⟨q, hq, rfl⟩ := List.mem_map.mp hy
    exact out_lt [q] fun z hz => by rw [List.mem_singleton.mp hz]; exact h q hq
  · rw [List.mem_singleton.mp hy]; exact out_lt ps h
/-- the use of tr_ct on a row, from any ledger that holds the place table -/
theorem tr_use {dp un : Nat} {gd : Option (List Code)} {cn : Str} {cs : Scope} {a : Addr} {ccd : Value} {cl : List (Str × Addr)} {outer : List Env} {A₀ : Around} {base h₀ : Heap} {L : Addr} {m : Str → Option Value} {all : List (Addr × Obj)} {s : Shared}
    {Q E : Value → Shared → Prop} (ps : Pairs) (hps : okPairs ps) (hpl : ps.length ≤ 4) {t tb : Tok} {y : Str} {l : Addr} (tab : Array Value) (rest : List (Addr × Obj))
    (B : Below A₀ base outer h₀) (F : Fr h₀ L s.heap m) (X : (heapL w.params).In h₀) (N : News h₀ L s.heap all) (T : Top p loose mean mg mb h₀) (hk : cs.kind = .function)
    (hsub : ∀ q ∈ (50, tabObj tab) :: rest, q ∈ all) (htab : TabOk tab rest) (h50 : ∀ q ∈ rest, q.1 ≠ 50)
    (hdp : dp + 40 < recursionLimit) (hun : un + 400 < cLine)
    (h : ∀ (ra : Addr) (la : List (Str × Tok)) (e : Nat) (cg c' : Addr) (oc : Obj) s', Fr h₀ L s'.heap m → News h₀ L s'.heap ((ra, W.listOf (outsVal la) e) :: (50, tabObj (tab2 cg c')) :: (c', oc) :: rest) → Same s s' → la.map (·.1) = (told ps).map S → OcOk oc → @Ne Nat c' 50 → @Ne Nat ra 50 → Q (.ref ra) s') :
    wpAny (model PR w) (ktrTop dp un gd cn cs L a ccd cl outer) (call (.ref 55) [.str (S (pat (bsOf ps))) t, .ref l, .str y tb]) Q E s := by
  obtain ⟨h1, h2, h3⟩ := bsOf_ok hps hpl
  refine ct_use (tr_ct (pat (bsOf ps)) (bsOf ps) rfl h1 h2 h3 t tb y l (pat_row_len ps hpl)) B F X (news_sub N hsub) T hk ⟨tab, rest, rfl, htab, h50⟩ hdp hun ?_
  intro r news' s' F' N' hS hR
  obtain ⟨ra, la, e, tab', rest', cg, c', oc, hn, rfl, hla, rfl, hoc, hc50, hra⟩ := hR
  obtain rfl : rest = rest' := (List.cons.inj hn).2
  exact h ra la e cg c' oc s' F' N' hS (hla.trans (outs_told ps)) hoc hc50 hra
local macro_rules | `(tactic| walk_at "call ref") => `(tactic| (k_here; (with_reducible show wpAny _ _ (call (Value.ref 86) _) _ _ _); k_dflt (refine' ct_useS (row_ct _ _ (by assumption) (by assumption) _ _) ?k1 ?k2 ?k3 ?k4 ?k5 ?kK ?kp ?kd ?ku ?_; (case k1 => k_asm); (case k2 => k_asm); (case k3 => k_asm); (case k4 => k_asm); (case k5 => k_asm); (case kK => first | exact rfl | assumption); (case kp => trivial); (case kd => ktr_room); (case ku => ktr_units)); intro t' h' tk' F' N'; (try dsimp only)))
local macro_rules | `(tactic| walk_at "call ref") => `(tactic| ((with_reducible show wpAny _ _ (call (Value.ref 55) _) _ _ _); refine Stop.out ?_))
local macro_rules | `(tactic| walk_at "call ref") => `(tactic| ((with_reducible show wpAny _ _ (call (Value.ref 105) _) _ _ _); refine Stop.out ?_))
local macro_rules | `(tactic| walk_at "call ref") => `(tactic| ((with_reducible show wpAny _ _ (call (Value.ref 112) _) _ _ _); refine Stop.out ?_))
local macro_rules | `(tactic| walk_at "compareOp NotEq ref ref") => `(tactic| (refine Stop.out ?_))
set_option maxRecDepth 100000 in
set_option maxHeartbeats 8000000 in
theorem pair_ct (a b : List Nat) (ha : okText a) (hb : okText b) (ta tb : Tok) : Ct w p loose mean mg mb 126 [.str (S a) ta, .str (S b) tb] 200 2000
    (fun news => ∃ tab rest, news = (50, tabObj tab) :: rest ∧ TabOk tab rest ∧ ∀ q ∈ rest, q.1 ≠ 50)
    (fun news r news' => r = .bool true ∧ ∃ (tab : Array Value) (rest : List (Addr × Obj)) (cg cl : Addr) (oc : Obj), news = (50, tabObj tab) :: rest ∧ news' = (50, tabObj (tab2 cg cl)) :: (cl, oc) :: rest ∧ OcOk oc ∧ @Ne Nat cl 50) := by
  unfold Ct
  intro dp un gd cn cs c ccd cl outer A₀ base h₀ L m news s Q E B F X N T hk hpre hd hu hret
  have hfill : PySem.Challenge.rw_ij0015_01 = PySem.Challenge.rw_ij0015_01 ∧ heapL = heapL := by
    k_fill
    exact ⟨rfl, rfl⟩
  clear hfill
  obtain ⟨tab, rest, rfl, htab, hrest⟩ := hpre
  have ha' : a ≠ [] ∧ a.length ≤ 4 := ⟨ha.1, ha.2.1⟩
  have hb' : b ≠ [] ∧ b.length ≤ 4 := ⟨hb.1, hb.2.1⟩
  obtain ⟨z1, z2, z3⟩ := zip_ok ha hb
  obtain ⟨y1, y2, y3⟩ := zip_ok hb ha
  have hea : (!(S a == S a)) = false := by simp
  have heb : (!(S b == S b)) = false := by simp
  refine wpAny_call ?_
  k_dflt ktr_enter
  refine wpAny_noRaise ?_
  k_steps
  unfold Stop
  refine tr_use (a.zip b) z1 z2 tab rest (by assumption) (by assumption) (by assumption) (by assumption) (by assumption) rfl (fun q hq => .tail _ hq) htab hrest (by show dp + 1 + 40 < recursionLimit; omega) (by ktr_units) ?_
  intro ra la e cg c1 oc s1 F1 N1 hS1 hla hoc hc50 hra
  k_steps
  unfold Stop
  refine tr_use (b.zip a) y1 y2 (tab2 cg c1) ((ra, W.listOf (outsVal la) e) :: (c1, oc) :: rest) (by assumption) (by assumption) (by assumption) (by assumption) (by assumption) rfl ?_ (.inr ⟨cg, c1, oc, rfl, .tail _ (.head _), hoc⟩) ?_ (by show dp + 1 + 40 < recursionLimit; omega) (by ktr_units) ?_
  · intro q hq
    rcases List.mem_cons.mp hq with rfl | hq
    · exact .tail _ (.tail _ (.head _))
    · rcases List.mem_cons.mp hq with rfl | hq
      · exact .tail _ (.head _)
      · exact .tail _ (.tail _ (.tail _ hq))
  · intro q hq
    rcases List.mem_cons.mp hq with rfl | hq
    · exact hra
    · rcases List.mem_cons.mp hq with rfl | hq
      · exact hc50
      · exact hrest q hq
  intro rb lb e2 cg2 c2 oc2 s2 F2 N2 hS2 hlb hoc2 hc502 hrb
  have hla4 := ha.2.1
  have hlb4 := hb.2.1
  k_steps
  unfold Stop
  k_dflt (refine' ctP_use (told_ct a b hla4 hlb4 _ _) ?k1 ?k2 ?k3 ?k4 ?k5 ?kK ?kp ?kd ?ku ?_; (case k1 => k_asm); (case k2 => k_asm); (case k3 => k_asm); (case k4 => k_asm); (case k5 => k_asm); (case kK => exact rfl); (case kp => trivial); (case kd => ktr_room); (case ku => ktr_units))
  intro r3 n3 h3 tk3 F3 N3 hR3
  obtain ⟨rl, ll, e3, rfl, rfl, hll⟩ := hR3
  k_steps
  unfold Stop
  refine ne_strs N3 (.tail _ (.tail _ (.tail _ (.tail _ (.head _))))) (.head _) (hla.trans hll.symm) (hla ▸ told_ok z3) (by ktr_units) ?_
  k_steps
  unfold Stop
  k_dflt (refine' ctP_use (told_ct b a hlb4 hla4 _ _) ?k1 ?k2 ?k3 ?k4 ?k5 ?kK ?kp ?kd ?ku ?_; (case k1 => k_asm); (case k2 => k_asm); (case k3 => k_asm); (case k4 => k_asm); (case k5 => k_asm); (case kK => exact rfl); (case kp => trivial); (case kd => ktr_room); (case ku => ktr_units))
  intro r4 n4 h4 tk4 F4 N4 hR4
  obtain ⟨rl4, ll4, e4, rfl, rfl, hll4⟩ := hR4
  k_steps
  unfold Stop
  refine ne_strs N4 (.tail _ (.tail _ (.head _))) (.head _) (hlb.trans hll4.symm) (hlb ▸ told_ok y3) (by ktr_units) ?_
  have hs1 : (collL (S a).cps.toList (S b).cps.toList == orderL a b) = true := by rw [coll_order]; simp
  have hs1' : (!(collL (S a).cps.toList (S b).cps.toList == orderL a b)) = false := by rw [hs1]; rfl
  have hs2 : (collL (S b).cps.toList (S a).cps.toList == orderL b a) = true := by rw [coll_order]; simp
  k_steps
  unfold Stop
  k_dflt (refine' ct_useI (order_ct a b hla4 hlb4 _ _ _ _) ?k1 ?k2 ?k3 ?k4 ?k5 ?kK ?kp ?kd ?ku ?_; (case k1 => k_asm); (case k2 => k_asm); (case k3 => k_asm); (case k4 => k_asm); (case k5 => k_asm); (case kK => exact rfl); (case kp => exact ⟨la, lb, e, e2, .tail _ (.tail _ (.tail _ (.tail _ (.tail _ (.head _))))), .tail _ (.tail _ (.head _)), hla, hlb⟩); (case kd => ktr_room); (case ku => ktr_units))
  intro t5 h5 tk5 F5 N5
  k_steps
  unfold Stop
  k_dflt (refine' ct_useI (order_ct b a hlb4 hla4 _ _ _ _) ?k1 ?k2 ?k3 ?k4 ?k5 ?kK ?kp ?kd ?ku ?_; (case k1 => k_asm); (case k2 => k_asm); (case k3 => k_asm); (case k4 => k_asm); (case k5 => k_asm); (case kK => exact rfl); (case kp => exact ⟨lb, la, e2, e, .tail _ (.tail _ (.head _)), .tail _ (.tail _ (.tail _ (.tail _ (.tail _ (.head _))))), hlb, hla⟩); (case kd => ktr_room); (case ku => ktr_units))
  intro t6 h6 tk6 F6 N6
  k_steps
  refine hret _ _ _ (by assumption) (news_sub (news := (50, tabObj (tab2 cg2 c2)) :: (c2, oc2) :: rest) (by assumption) ?_) (hS2.1.trans hS1.1) (fun G => hS2.2 (hS1.2 G)) ⟨by rw [hs2], tab, rest, cg2, c2, oc2, rfl, rfl, hoc2, hc502⟩
  intro q hq
  rcases List.mem_cons.mp hq with rfl | hq
  · exact .tail _ (.tail _ (.tail _ (.head _)))
  · rcases List.mem_cons.mp hq with rfl | hq
    · exact .tail _ (.tail _ (.tail _ (.tail _ (.head _))))
    · exact .tail _ (.tail _ (.tail _ (.tail _ (.tail _ (.tail _ (.tail _ hq))))))
end
section
theorem calm18 : True := by
  w_top off
  k_with_none
  trivial
variable {w : World} {p : Program} {loose : List Str} {mean : ExcName → Option Value} {mg mb : Str → Option Value}
def GoodX (c : ClaimW) (cl : Str → Option Addr) (mean : ExcName → Option Value) (args : List WData) (s₁ : Shared) (res : Result) (s' : Shared) : Prop :=
  (∃ v d as, res = .ok (.ret v) ∧ (∀ cls, c.raises args cls = false) ∧ ReadsW c.records cl s'.heap v d as ∧ c.post args d args = true ∧
      (c.unshared = true → as.Nodup ∧ ∀ a ∈ as, s₁.heap.get? a = none)) ∧
  (∀ b o, s₁.heap.get? b = some o → s'.heap.get? b = some o) ∧ s'.os = s₁.os ∧ AllBare s'.gens
theorem kn_postX {M : Model} {A : Around} {cd : Code} {s s₁ : Shared} {cw : ClaimW} {cl : Str → Option Addr} {mean : ExcName → Option Value} {args : List WData} {tabs : List (Addr × Addr)} (hT : TabsAt tabs s₁.heap)
    (h : codeAny M A cd (fun r s' => GoodX cw cl mean args { s₁ with heap := ghostOf s₁.heap tabs } r s' ∧ GrownAll tabs s'.heap) s) : codeAny M A cd (GoodWG cw cl mean args s₁) s :=
  codeAny_mono h fun r s' ⟨⟨⟨v, d, as, r1, r2, r3, r4, r5⟩, hk, hos, hg⟩, hgr⟩ => by
    have keep : ∀ b o, b ∉ tabs.map (·.2) → s₁.heap.get? b = some o → s'.heap.get? b = some o := fun b o hb e => hk b o (ghost_ne e hb)
    have grown : ∀ b o, b ∈ tabs.map (·.2) → s₁.heap.get? b = some o → isCodeTable s₁.heap b ∧ o = tabObj #[] ∧ ∃ ps, s'.heap.get? b = some (tabObj ps) := fun b o hb e => by
      obtain ⟨q, hq, rfl⟩ := List.mem_map.mp hb
      have e2 := (hT q hq).2
      rw [e] at e2
      exact ⟨((hT q hq).1.tab (hT q hq).2).isCodeTable, Option.some.inj e2, hgr.get q hq⟩
    have olds : OldK s₁.heap s'.heap := by
      refine ⟨fun b o e => ?_, fun b o e => ?_⟩
      · by_cases hb : b ∈ tabs.map (·.2)
        · obtain ⟨ht, rfl, ps, hP⟩ := grown b o hb e
          exact .inr (.inl ⟨ht, rfl, #[], ps, rfl, by rw [Array.empty_append]; exact hP⟩)
        · exact .inl (keep b o hb e)
      · by_cases hb : b ∈ tabs.map (·.2)
        · obtain ⟨_, _, ps, hP⟩ := grown b o hb e
          exact ⟨_, hP⟩
        · exact ⟨o, keep b o hb e⟩
    refine ⟨.inl ⟨v, d, as, r1, r2, r3, r4, fun q => ⟨(r5 q).1, fun a ha => ?_⟩⟩, olds, hos, hg⟩
    cases q1 : s₁.heap.get? a with
    | none => rfl
    | some o =>
      by_cases hb : a ∈ tabs.map (·.2)
      · obtain ⟨_, _, ps, hP⟩ := grown a o hb q1
        exact absurd ha (readsW_apart hP rfl r3)
      · have e3 := (r5 q).2 a ha
        rw [show (ghostOf s₁.heap tabs).get? a = some o from ghost_ne q1 hb] at e3
        cases e3
theorem forJ_listI {prog : Program} {A : Around} {E : Value → Shared → Prop} {s s₀ : Shared} {env : Env} {h₀ : Heap} {Q : Flow → Shared → Prop} {m : Str → Option Value} {news : List (Addr × Obj)} {target : PySem.Expr} {body : List Stmt} {l : Addr} {items : Array Value} {e : Nat} (hh : A.handled = none)
    (J : Nat → (Str → Option Value) → List (Addr × Obj) → Prop) (F : Fr h₀ env.locals s.heap m) (N : News h₀ env.locals s.heap news) (hl : (l, W.listOf items e) ∈ news) (hJl : ∀ i m news, J i m news → (l, W.listOf items e) ∈ news) (hS : Same s₀ s) (h0 : J 0 m news)
    (step : ∀ I i v m₁ news₁ s₁ o₁, i < items.size → items[i]? = some v → ItList l (i + 1) o₁ → J i m₁ news₁ → Off I news₁ → Same s₀ s₁ → Fr h₀ env.locals s₁.heap m₁ → News h₀ env.locals s₁.heap ((I, o₁) :: news₁) →
      wpAny (model prog w) A (assign target env v) (fun _ s₃ => wpAny (model prog w) A (execs body env) (TurnIt h₀ env.locals I o₁ (J (i + 1)) s₀ Q) E s₃) E s₁)
    (exit : ∀ s' m' news', Same s₀ s' → Fr h₀ env.locals s'.heap m' → News h₀ env.locals s'.heap news' → J items.size m' news' → Q .next s') :
    wpAny (model prog w) A (pyIter (.ref l)) (fun it s₂ => ForJ prog w A h₀ env target body s₀ Q E it s₂) E s := by
  have hls : s.heap.IsList l items := ⟨_, (N _ hl).1, rfl, _, rfl⟩
  refine wpAny_pyIter_list hls ?_
  refine ⟨s.heap.objs.size, ItList l, items.size, _, _, m, news, _, J, rfl, IterOk.list hh _ l items e, ⟨rfl, rfl⟩, ?_, F.push _, N.push F _, hS.step, h0, hJl, ?_, exit⟩
  · exact fun p hp => Nat.ne_of_lt (Heap.lt_size (N p hp).1)
  · intro i v m₁ news₁ s₁ o₁ hi hP hIt hJ hoff hS' F' N'
    exact step _ i v m₁ news₁ s₁ o₁ hi hP hIt hJ hoff hS' F' N'
theorem iter_ne {h₀ h : Heap} {L I c l : Addr} {o oc : Obj} {i : Nat} {news : List (Addr × Obj)} (N : News h₀ L h news) (h1 : (I, o) ∈ news) (h2 : (c, oc) ∈ news) (hI : ItList l i o) (hoc : OcOk oc) : @Ne Nat c I := by
  intro q
  have e1 := (N _ h1).1
  have e2 := (N _ h2).1
  have q' : c = I := q
  subst q'
  rw [show ((c, o) : Addr × Obj).1 = ((c, oc) : Addr × Obj).1 from rfl, e2] at e1
  obtain ⟨vs, tq, hd, hv⟩ := hoc
  have e3 : oc = o := Option.some.inj e1
  rw [e3, hI.2] at hd
  cases hd
  cases hv
def JL (base : List (Addr × Obj)) (_ : Nat) (_ : Str → Option Value) (news : List (Addr × Obj)) : Prop :=
  ∃ tab extra, news = (50, tabObj tab) :: (extra ++ base) ∧ TabOk tab (extra ++ base) ∧ ∀ x ∈ extra, x.1 ≠ 50
abbrev txTup (x : List Nat) (tx : Tok) (y : List Nat) (ty : Tok) : Obj := { cls := .type "tuple", data := .seq #[.str (S x) tx, .str (S y) ty] }
local macro_rules | `(tactic| kn_posts) => `(tactic| refine kn_postX (by assumption) ?_)
local macro_rules | `(tactic| walk_at "call ref") => `(tactic| ((with_reducible show wpAny _ _ (call (Value.ref 81) _) _ _ _); refine Stop.out ?_))
local macro_rules | `(tactic| walk_at "call ref") => `(tactic| ((with_reducible show wpAny _ _ (call (Value.ref 126) _) _ _ _); refine Stop.out ?_))
local macro_rules | `(tactic| walk_at "exec For Tuple List cons nil") => `(tactic| refine Stop.out ?_)
set_option maxRecDepth 100000 in
set_option maxHeartbeats 8000000 in
theorem goal_try : PySem.Challenge.rw_ij0015_01.Holds := by
  w_on
  o_law
  refine holds_open (q := viewL) (loose := loose1) (Xt := Xt1) (XP := XL viewL []) (Yf := Hook.obs (kmHook heapL asL asL_ok [50])) (Ya := Hook.val (kmHook heapL asL asL_ok [50])) (YP := Hook.says (kmHook heapL asL asL_ok [50])) (N := 3724) left0 (Hook.of (kmHook heapL asL asL_ok [50])) (Hook.keeps (kmHook heapL asL asL_ok [50])) (fun s e => xl_of s (Bool.and_eq_true_iff.mp e).1) XL.keeps (by rfl) (by rfl) (by rfl) (fun s e => recFacts_of (Bool.and_eq_true_iff.mp e).2) (by rfl) (by first | assumption | decide +kernel) (by decide +kernel) ⟨rfl, rfl, rfl, rfl, rfl, by decide +kernel⟩ ?hw ?hc
  case hw => w_witness2
  rename_i said
  clear said
  k_go0
  all_goals (try k_fold)
  refine wpAny_noRaise ?_
  k_steps
  unfold Stop
  refine texts_ct _ _ _ (by assumption) (by omega) _ _ _ _ _ _ _ _ _ _ _ _ _ _ _ _ _ _ (by assumption) (by assumption) (by assumption) (by assumption) (by assumption) (by exact rfl) lifted (by ktr_room) (by ktr_units) ?_
  intro rt f g h t1 t2 t3 h5 tk5 hf hg hh F5 N5
  k_steps
  unfold Stop
  refine For_JF (by assumption) PassesOwn.never ?_
  k_steps
  rename_i D1 _ q1 D2 _ q2 D3 _ q3 lp _ F9 N9 q4
  have hb50 : ∀ x ∈ [(lp, W.listOf #[Value.ref D1, Value.ref D2, Value.ref D3] 0), (D3, txTup f t1 f t1), (D2, txTup h t3 f t1), (D1, txTup f t1 g t2)], @Ne Nat x.1 50 := by
    intro x hx
    simp only [List.mem_cons, List.not_mem_nil, or_false] at hx
    rcases hx with rfl | rfl | rfl | rfl
    · exact Nat.ne_of_gt q4.2.2.2.2
    · exact Nat.ne_of_gt q3.2.2.2
    · exact Nat.ne_of_gt q2.2.2
    · exact Nat.ne_of_gt q1.2
  have N9' := news_sub N9 (news := (50, tabObj #[]) :: ([] ++ [(lp, W.listOf #[Value.ref D1, Value.ref D2, Value.ref D3] 0), (D3, txTup f t1 f t1), (D2, txTup h t3 f t1), (D1, txTup f t1 g t2)])) (fun x hx => by
    simp only [List.nil_append, List.mem_cons, List.not_mem_nil, or_false] at hx ⊢
    rcases hx with rfl | rfl | rfl | rfl | rfl <;> simp)
  generalize hbase : [(lp, W.listOf #[Value.ref D1, Value.ref D2, Value.ref D3] 0), (D3, txTup f t1 f t1), (D2, txTup h t3 f t1), (D1, txTup f t1 g t2)] = base at hb50 N9'
  have hlp : (lp, W.listOf #[Value.ref D1, Value.ref D2, Value.ref D3] 0) ∈ base := by rw [← hbase]; simp
  have hitems : ∀ (i : Nat) (v : Value), (#[Value.ref D1, Value.ref D2, Value.ref D3] : Array Value)[i]? = some v → ∃ T x tx y ty, v = .ref T ∧ (T, txTup x tx y ty) ∈ base ∧ okText x ∧ okText y := by
    intro i v hv
    match i, hv with
    | 0, hv => cases hv; exact ⟨D1, f, t1, g, t2, rfl, by rw [← hbase]; simp, hf, hg⟩
    | 1, hv => cases hv; exact ⟨D2, h, t3, f, t1, rfl, by rw [← hbase]; simp, hh, hf⟩
    | 2, hv => cases hv; exact ⟨D3, f, t1, f, t1, rfl, by rw [← hbase]; simp, hf, hf⟩
    | i + 3, hv => simp at hv
  clear N9
  refine forJ_listI rfl (JL base) F9 N9' (.tail _ (List.mem_append.mpr (.inr hlp))) (fun i m n hJ => by obtain ⟨_, _, rfl, _⟩ := hJ; exact .tail _ (List.mem_append.mpr (.inr hlp))) ⟨rfl, id⟩ ⟨#[], [], rfl, .inl rfl, fun x hx => nomatch hx⟩ ?_ ?_
  · intro I i v m1 news1 s1 o1 hi hv hIt hJ hoff hS F1 N1
    obtain ⟨tab, extra, rfl, htab, hex⟩ := hJ
    obtain ⟨T9, x9, tx9, y9, ty9, rfl, hmem, hx9, hy9⟩ := hitems i v hv
    have hTup := News.isTup N1 (.tail _ (.tail _ (List.mem_append.mpr (.inr hmem))))
    k_steps
    unfold Stop
    refine ct_use (pair_ct x9 y9 hx9 hy9 tx9 ty9) (by assumption) (by assumption) (by assumption) (news_sub (news := (50, tabObj tab) :: (I, o1) :: (extra ++ base)) (by assumption) ?_) (by assumption) rfl ⟨tab, _, rfl, ?_, ?_⟩ (by ktr_room) (by ktr_units) ?_
    · intro q hq
      rcases List.mem_cons.mp hq with rfl | hq
      · exact .tail _ (.head _)
      · rcases List.mem_cons.mp hq with rfl | hq
        · exact .head _
        · exact .tail _ (.tail _ hq)
    · rcases htab with h | ⟨cg, c', oc, h1, h2, h3⟩
      · exact .inl h
      · exact .inr ⟨cg, c', oc, h1, .tail _ h2, h3⟩
    · intro q hq
      rcases List.mem_cons.mp hq with rfl | hq
      · exact Ne.symm (hoff _ (.head _))
      · rcases List.mem_append.mp hq with hq | hq
        · exact hex q hq
        · exact hb50 q hq
    intro r n9 s5 F5 N5 hS5 hR
    obtain ⟨rfl, tab', rest', cg, cl, oc, hn, rfl, hoc, hc50⟩ := hR
    obtain rfl := (List.cons.inj hn).2
    k_steps
    have hcI : @Ne Nat cl I := iter_ne N5 (.tail _ (.tail _ (.head _))) (.tail _ (.head _)) hIt hoc
    refine ⟨_, (50, tabObj (tab2 cg cl)) :: ([(cl, oc)] ++ base), F5, news_sub N5 ?_, ?_, ⟨tab2 cg cl, [(cl, oc)], rfl, .inr ⟨cg, cl, oc, rfl, .head _, hoc⟩, fun x hx => by rw [List.mem_singleton.mp hx]; exact hc50⟩, ⟨hS5.1.trans hS.1, fun G => hS5.2 (hS.2 G)⟩⟩
    · intro q hq
      rcases List.mem_cons.mp hq with rfl | hq
      · exact .tail _ (.tail _ (.head _))
      · rcases List.mem_cons.mp hq with rfl | hq
        · exact .head _
        · rcases List.mem_cons.mp hq with rfl | hq
          · exact .tail _ (.head _)
          · exact .tail _ (.tail _ (.tail _ (List.mem_append.mpr (.inr hq))))
    · intro q hq
      rcases List.mem_cons.mp hq with rfl | hq
      · exact hoff (50, tabObj tab) (.head _)
      · rcases List.mem_cons.mp hq with rfl | hq
        · exact hcI
        · exact hoff q (.tail _ (List.mem_append.mpr (.inr hq)))
  · intro s9 m9 n9 hS F9 N9 hJ
    obtain ⟨tab, extra, rfl, htab, hex⟩ := hJ
    k_steps
    refine ⟨⟨.bool true, .bool true, [], rfl, fun _ => rfl, .bool _, ?_, fun _ => ⟨.nil, fun _ h => nomatch h⟩⟩, F9.keep, hS.1, hS.2 ?_⟩
    · first | kc_post | wrow_post
    · exact AllBare.of_eq (by assumption)
end
end
end Mine
set_option maxRecDepth 100000 in
set_option maxHeartbeats 8000000 in
theorem PySem.Challenge.cw_ij0015_01_holds : PySem.Challenge.rw_ij0015_01.Holds := by
  exact Mine.goal_try
