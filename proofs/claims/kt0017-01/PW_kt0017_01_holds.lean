import PyProof.Rows.All
import Wide.All
import OpenK.AllK
import Wide.FinOn
import PySem.Challenge.RW_kt0017_01
set_option Elab.async false
section
open PySem PySem.W PyProof.Rows
namespace Mine
/-- the body of a def of the given program -/
noncomputable def defBody (k : Nat) : List Stmt := match PySem.Challenge.pw_kt0017_01.main.body.drop k with
  | .FunctionDef _ _ body _ _ _ _ _ _ _ :: _ => body
  | _ => []
/-- the body of a method of the class of the given program -/
noncomputable def methBody (k : Nat) : List Stmt := match PySem.Challenge.pw_kt0017_01.main.body.drop 11 with
  | .ClassDef _ _ _ body .. :: _ => match body.drop k with
    | .FunctionDef _ _ b _ _ _ _ _ _ _ :: _ => b
    | _ => []
  | _ => []
set_option maxRecDepth 100000 in
set_option maxHeartbeats 4000000 in
/-- what stands when the law is called -/
noncomputable def KK : Params → Frag :=
  fun P ↦
    ((nat_lit 2,
        { cls := PySem.Value.none,
          data :=
            PySem.Data.dict
              #[{ hash := PySem.PyData.keyHash P (PySem.Str.ofString "\x69mport.loaded._sre"), key := PySem.Value.str (PySem.Str.ofString "\x69mport.loaded._sre") 183, val := PySem.Value.bool true },
                { hash := PySem.PyData.keyHash P (PySem.Str.ofString "class._frozen_importlib.BuiltinImporter"),
                  key := PySem.Value.str (PySem.Str.ofString "class._frozen_importlib.BuiltinImporter") 185, val := PySem.Value.ref (nat_lit 14) },
                { hash := PySem.PyData.keyHash P (PySem.Str.ofString "watched.\x69mport"), key := PySem.Value.str (PySem.Str.ofString "watched.\x69mport") 206, val := PySem.Value.ref (nat_lit 18) },
                { hash := PySem.PyData.keyHash P (PySem.Str.ofString "class._frozen_importlib.ModuleSpec"), key := PySem.Value.str (PySem.Str.ofString "class._frozen_importlib.ModuleSpec") 216,
                  val := PySem.Value.ref (nat_lit 22) },
                { hash := PySem.PyData.keyHash P (PySem.Str.ofString "sys.modules.booked-epoch"), key := PySem.Value.str (PySem.Str.ofString "sys.modules.booked-epoch") 245,
                  val := PySem.Value.int 3 0 },
                { hash := PySem.PyData.keyHash P (PySem.Str.ofString "\x69mport.later-laid._sre"), key := PySem.Value.str (PySem.Str.ofString "\x69mport.later-laid._sre") 270, val := PySem.Value.bool true },
                { hash := PySem.PyData.keyHash P (PySem.Str.ofString "watched.library"), key := PySem.Value.str (PySem.Str.ofString "watched.library") 272, val := PySem.Value.ref (nat_lit 27) },
                { hash := PySem.PyData.keyHash P (PySem.Str.ofString "watched.library-objects"), key := PySem.Value.str (PySem.Str.ofString "watched.library-objects") 0,
                  val := PySem.Value.str (PySem.Str.ofString "\x0c") 0 },
                { hash := PySem.PyData.keyHash P (PySem.Str.ofString "watched.library-deep._sre"), key := PySem.Value.str (PySem.Str.ofString "watched.library-deep._sre") 273,
                  val := PySem.Value.str (PySem.Str.ofString "\x04\x00\x00\x0b\x04\x00\x00\x0b\x04\x00\x00\x03\x04\x00\x00\x0b\x08\x04dict\x02") 0 }]
              9 }) ::
      (nat_lit 3,
        { cls := PySem.Value.type "dict",
          data :=
            PySem.Data.dict
              #[{ hash := PySem.PyData.keyHash P (PySem.Str.ofString "__name__"), key := PySem.Value.str (PySem.Str.ofString "__name__") 165,
                  val := PySem.Value.str (PySem.Str.ofString "law_kt0017_01") 598 },
                { hash := PySem.PyData.keyHash P (PySem.Str.ofString "__doc__"), key := PySem.Value.str (PySem.Str.ofString "__doc__") 166, val := PySem.Value.none },
                { hash := PySem.PyData.keyHash P (PySem.Str.ofString "__package__"), key := PySem.Value.str (PySem.Str.ofString "__package__") 167, val := PySem.Value.none },
                { hash := PySem.PyData.keyHash P (PySem.Str.ofString "__loader__"), key := PySem.Value.str (PySem.Str.ofString "__loader__") 168,
                  val := PySem.Value.builtin "__main__.__loader__#opaque" },
                { hash := PySem.PyData.keyHash P (PySem.Str.ofString "__spec__"), key := PySem.Value.str (PySem.Str.ofString "__spec__") 169, val := PySem.Value.none },
                { hash := PySem.PyData.keyHash P (PySem.Str.ofString "__annotations__"), key := PySem.Value.str (PySem.Str.ofString "__annotations__") 170, val := PySem.Value.ref (nat_lit 6) },
                { hash := PySem.PyData.keyHash P (PySem.Str.ofString "__builtins__"), key := PySem.Value.str (PySem.Str.ofString "__builtins__") 171, val := PySem.Value.ref (nat_lit 4) },
                { hash := PySem.PyData.keyHash P (PySem.Str.ofString "__file__"), key := PySem.Value.str (PySem.Str.ofString "__file__") 173,
                  val := PySem.Value.str (PySem.Str.ofString "/claim/cut.py") 172 },
                { hash := PySem.PyData.keyHash P (PySem.Str.ofString "__cached__"), key := PySem.Value.str (PySem.Str.ofString "__cached__") 174, val := PySem.Value.none },
                { hash := PySem.PyData.keyHash P (PySem.Str.ofString "_sre"), key := PySem.Value.str (PySem.Str.ofString "_sre") 275, val := PySem.Value.ref (nat_lit 12) },
                { hash := PySem.PyData.keyHash P (PySem.Str.ofString "_twin_re_1"), key := PySem.Value.str (PySem.Str.ofString "_twin_re_1") 321, val := PySem.Value.ref (nat_lit 36) },
                { hash := PySem.PyData.keyHash P (PySem.Str.ofString "translate"), key := PySem.Value.str (PySem.Str.ofString "translate") 330, val := PySem.Value.ref (nat_lit 43) },
                { hash := PySem.PyData.keyHash P (PySem.Str.ofString "_special_chars_map"), key := PySem.Value.str (PySem.Str.ofString "_special_chars_map") 478, val := PySem.Value.ref (nat_lit 45) },
                { hash := PySem.PyData.keyHash P (PySem.Str.ofString "escape"), key := PySem.Value.str (PySem.Str.ofString "escape") 485, val := PySem.Value.ref (nat_lit 55) },
                { hash := PySem.PyData.keyHash P (PySem.Str.ofString "_translate"), key := PySem.Value.str (PySem.Str.ofString "_translate") 506, val := PySem.Value.ref (nat_lit 62) },
                { hash := PySem.PyData.keyHash P (PySem.Str.ofString "_join_translated_parts"), key := PySem.Value.str (PySem.Str.ofString "_join_translated_parts") 519, val := PySem.Value.ref (nat_lit 69) },
                { hash := PySem.PyData.keyHash P (PySem.Str.ofString "filterfalse"), key := PySem.Value.str (PySem.Str.ofString "filterfalse") 571, val := PySem.Value.ref (nat_lit 102) },
                { hash := PySem.PyData.keyHash P (PySem.Str.ofString "_filter"), key := PySem.Value.str (PySem.Str.ofString "_filter") 581, val := PySem.Value.ref (nat_lit 113) },
                { hash := PySem.PyData.keyHash P (PySem.Str.ofString "sorted_list_difference"), key := PySem.Value.str (PySem.Str.ofString "sorted_list_difference") 597, val := PySem.Value.ref (nat_lit 120) },
                { hash := PySem.PyData.keyHash P (PySem.Str.ofString "_law_all"), key := PySem.Value.str (PySem.Str.ofString "_law_all") 605, val := PySem.Value.ref (nat_lit 125) },
                { hash := PySem.PyData.keyHash P (PySem.Str.ofString "_law_signs"), key := PySem.Value.str (PySem.Str.ofString "_law_signs") 615, val := PySem.Value.ref (nat_lit 132) },
                { hash := PySem.PyData.keyHash P (PySem.Str.ofString "_law_goes"), key := PySem.Value.str (PySem.Str.ofString "_law_goes") 625, val := PySem.Value.ref (nat_lit 139) },
                { hash := PySem.PyData.keyHash P (PySem.Str.ofString "law"), key := PySem.Value.str (PySem.Str.ofString "law") 631, val := PySem.Value.ref (nat_lit 144) }]
              23 }) ::
      (nat_lit 6, { cls := PySem.Value.type "dict", data := PySem.Data.dict #[] }) ::
      (nat_lit 11,
        { cls := PySem.Value.type "dict",
          data :=
            PySem.Data.dict
              #[{ hash := PySem.PyData.keyHash P (PySem.Str.ofString "__name__"), key := PySem.Value.str (PySem.Str.ofString "__name__") 247, val := PySem.Value.str (PySem.Str.ofString "_sre") 246 },
                { hash := PySem.PyData.keyHash P (PySem.Str.ofString "__doc__"), key := PySem.Value.str (PySem.Str.ofString "__doc__") 248, val := PySem.Value.none },
                { hash := PySem.PyData.keyHash P (PySem.Str.ofString "__package__"), key := PySem.Value.str (PySem.Str.ofString "__package__") 250, val := PySem.Value.str (PySem.Str.ofString "") 249 },
                { hash := PySem.PyData.keyHash P (PySem.Str.ofString "__loader__"), key := PySem.Value.str (PySem.Str.ofString "__loader__") 251,
                  val := PySem.Value.builtin "off-the-table:_sre.__loader__:shared#opaque" },
                { hash := PySem.PyData.keyHash P (PySem.Str.ofString "__spec__"), key := PySem.Value.str (PySem.Str.ofString "__spec__") 252,
                  val := PySem.Value.builtin "off-the-table:_sre.__spec__:shared#opaque" },
                { hash := PySem.PyData.keyHash P (PySem.Str.ofString "compile"), key := PySem.Value.str (PySem.Str.ofString "compile") 253, val := PySem.Value.builtin "_sre.compile" },
                { hash := PySem.PyData.keyHash P (PySem.Str.ofString "template"), key := PySem.Value.str (PySem.Str.ofString "template") 254,
                  val := PySem.Value.builtin "off-the-table:_sre.template:shared#opaque" },
                { hash := PySem.PyData.keyHash P (PySem.Str.ofString "getcodesize"), key := PySem.Value.str (PySem.Str.ofString "getcodesize") 255,
                  val := PySem.Value.builtin "off-the-table:_sre.getcodesize:shared#opaque" },
                { hash := PySem.PyData.keyHash P (PySem.Str.ofString "ascii_iscased"), key := PySem.Value.str (PySem.Str.ofString "ascii_iscased") 256,
                  val := PySem.Value.builtin "off-the-table:_sre.ascii_iscased:shared#opaque" },
                { hash := PySem.PyData.keyHash P (PySem.Str.ofString "unicode_iscased"), key := PySem.Value.str (PySem.Str.ofString "unicode_iscased") 257,
                  val := PySem.Value.builtin "off-the-table:_sre.unicode_iscased:shared#opaque" },
                { hash := PySem.PyData.keyHash P (PySem.Str.ofString "ascii_tolower"), key := PySem.Value.str (PySem.Str.ofString "ascii_tolower") 258,
                  val := PySem.Value.builtin "off-the-table:_sre.ascii_tolower:shared#opaque" },
                { hash := PySem.PyData.keyHash P (PySem.Str.ofString "unicode_tolower"), key := PySem.Value.str (PySem.Str.ofString "unicode_tolower") 259,
                  val := PySem.Value.builtin "off-the-table:_sre.unicode_tolower:shared#opaque" },
                { hash := PySem.PyData.keyHash P (PySem.Str.ofString "MAGIC"), key := PySem.Value.str (PySem.Str.ofString "MAGIC") 261, val := PySem.Value.int 20230612 260 },
                { hash := PySem.PyData.keyHash P (PySem.Str.ofString "CODESIZE"), key := PySem.Value.str (PySem.Str.ofString "CODESIZE") 263, val := PySem.Value.int 4 262 },
                { hash := PySem.PyData.keyHash P (PySem.Str.ofString "MAXREPEAT"), key := PySem.Value.str (PySem.Str.ofString "MAXREPEAT") 265, val := PySem.Value.int 4294967295 264 },
                { hash := PySem.PyData.keyHash P (PySem.Str.ofString "MAXGROUPS"), key := PySem.Value.str (PySem.Str.ofString "MAXGROUPS") 267, val := PySem.Value.int 1073741823 266 },
                { hash := PySem.PyData.keyHash P (PySem.Str.ofString "copyright"), key := PySem.Value.str (PySem.Str.ofString "copyright") 269,
                  val := PySem.Value.str (PySem.Str.ofString " SRE 2.2.2 Copyright (c) 1997-2002 by Secret Labs AB ") 268 }]
              17 }) ::
      (nat_lit 12, { cls := PySem.Value.type "module", dict := some (nat_lit 11) }) ::
      (nat_lit 35,
        { cls := PySem.Value.type "tuple",
          data :=
            PySem.Data.seq
              #[PySem.Value.int 14 0, PySem.Value.int 14 0, PySem.Value.int 4 0, PySem.Value.int 1 0, PySem.Value.int 1 0, PySem.Value.int 9 0, PySem.Value.int 0 0, PySem.Value.int 64 0,
                PySem.Value.int 0 0, PySem.Value.int 1342177280 0, PySem.Value.int 0 0, PySem.Value.int 0 0, PySem.Value.int 0 0, PySem.Value.int 0 0, PySem.Value.int 0 0, PySem.Value.int 17 0,
                PySem.Value.int 0 0, PySem.Value.int 13 0, PySem.Value.int 11 0, PySem.Value.int 9 0, PySem.Value.int 0 0, PySem.Value.int 64 0, PySem.Value.int 0 0, PySem.Value.int 1342177280 0,
                PySem.Value.int 0 0, PySem.Value.int 0 0, PySem.Value.int 0 0, PySem.Value.int 0 0, PySem.Value.int 0 0, PySem.Value.int 17 0, PySem.Value.int 1 0, PySem.Value.int 1 0] }) ::
      (nat_lit 36,
        { cls := PySem.Value.type "re.Pattern",
          data :=
            PySem.Data.fields
              #[PySem.Value.str (PySem.Str.ofString "([&~|])") 285, PySem.Value.int 32 320, PySem.Value.int 1 0, PySem.Value.none, PySem.Value.none, PySem.Value.ref (nat_lit 35), PySem.Value.int 0 0] }) ::
      (nat_lit 37, { cls := PySem.Value.type "tuple", data := PySem.Data.seq #[] }) ::
      (nat_lit 39,
        { cls := PySem.Value.type "tuple",
          data := PySem.Data.seq #[PySem.Value.str (PySem.Str.ofString "pat") 325, PySem.Value.str (PySem.Str.ofString "STAR") 326, PySem.Value.str (PySem.Str.ofString "parts") 327] }) ::
      (nat_lit 40, { cls := PySem.Value.type "tuple", data := PySem.Data.seq #[] }) ::
      (nat_lit 42,
        { cls := PySem.Value.type "code",
          data :=
            PySem.Data.fields
              #[PySem.Value.str (PySem.Str.ofString "translate") 322, PySem.Value.str (PySem.Str.ofString "translate") 323, PySem.Value.str (PySem.Str.ofString "/claim/cut.py") 324, PySem.Value.int 4 0,
                PySem.Value.int 1 0, PySem.Value.int 0 0, PySem.Value.int 0 0, PySem.Value.int 3 0, PySem.Value.ref (nat_lit 37), PySem.Value.bool true, PySem.Value.int 276 0, PySem.Value.ref (nat_lit 38),
                PySem.Value.none, PySem.Value.ref (nat_lit 39), PySem.Value.ref (nat_lit 40), PySem.Value.ref (nat_lit 41), PySem.Value.int 328 0, PySem.Value.int 4 0, PySem.Value.str (PySem.Str.ofString "/claim/cut.py") 329] }) ::
      (nat_lit 43,
        { cls := PySem.Value.type "function",
          data :=
            PySem.Data.func
              { name := PySem.Str.ofString "translate", qualname := PySem.Str.ofString "translate",
                params :=
                  { posonlyargs := [], args := [{ arg := PySem.Str.ofString "pat", annotation := none, pos := { line := 4, col := 14, endLine := 4, endCol := 17 } }], vararg := none, kwonlyargs := [],
                    kw_defaults := [], kwarg := none, defaults := [] },
                body :=
                  PySem.FuncBody.stmts (defBody 3),
                scope :=
                  { kind := PySem.ScopeKind.function,
                    names :=
                      [(PySem.Str.ofString "pat", PySem.NameKind.local), (PySem.Str.ofString "STAR", PySem.NameKind.local), (PySem.Str.ofString "parts", PySem.NameKind.local),
                        (PySem.Str.ofString "object", PySem.NameKind.globalImplicit), (PySem.Str.ofString "_translate", PySem.NameKind.globalImplicit),
                        (PySem.Str.ofString "_join_translated_parts", PySem.NameKind.globalImplicit)],
                    isGenerator := false, isCoroutine := false },
                globals := 3, closure := [], defaults := PySem.Value.none, kwdefaults := PySem.Value.none, pyModule := PySem.Value.str (PySem.Str.ofString "cpy313.fnmatch") 282,
                code := PySem.Value.ref (nat_lit 42) } }) ::
      (nat_lit 45,
        { cls := PySem.Value.type "dict",
          data :=
            PySem.Data.dict
              #[{ hash := 40, key := PySem.Value.int 40 334, val := PySem.Value.str (PySem.Str.ofString "\\(") 338 },
                { hash := 41, key := PySem.Value.int 41 340, val := PySem.Value.str (PySem.Str.ofString "\\)") 344 },
                { hash := 91, key := PySem.Value.int 91 346, val := PySem.Value.str (PySem.Str.ofString "\\[") 350 },
                { hash := 93, key := PySem.Value.int 93 352, val := PySem.Value.str (PySem.Str.ofString "\\]") 356 },
                { hash := 123, key := PySem.Value.int 123 358, val := PySem.Value.str (PySem.Str.ofString "\\{") 362 },
                { hash := 125, key := PySem.Value.int 125 364, val := PySem.Value.str (PySem.Str.ofString "\\}") 368 },
                { hash := 63, key := PySem.Value.int 63 370, val := PySem.Value.str (PySem.Str.ofString "\\?") 374 },
                { hash := 42, key := PySem.Value.int 42 376, val := PySem.Value.str (PySem.Str.ofString "\\*") 380 },
                { hash := 43, key := PySem.Value.int 43 382, val := PySem.Value.str (PySem.Str.ofString "\\+") 386 },
                { hash := 45, key := PySem.Value.int 45 388, val := PySem.Value.str (PySem.Str.ofString "\\-") 392 },
                { hash := 124, key := PySem.Value.int 124 394, val := PySem.Value.str (PySem.Str.ofString "\\|") 398 },
                { hash := 94, key := PySem.Value.int 94 400, val := PySem.Value.str (PySem.Str.ofString "\\^") 404 },
                { hash := 36, key := PySem.Value.int 36 406, val := PySem.Value.str (PySem.Str.ofString "\\$") 410 },
                { hash := 92, key := PySem.Value.int 92 412, val := PySem.Value.str (PySem.Str.ofString "\\\\") 416 },
                { hash := 46, key := PySem.Value.int 46 418, val := PySem.Value.str (PySem.Str.ofString "\\.") 422 },
                { hash := 38, key := PySem.Value.int 38 424, val := PySem.Value.str (PySem.Str.ofString "\\&") 428 },
                { hash := 126, key := PySem.Value.int 126 430, val := PySem.Value.str (PySem.Str.ofString "\\~") 434 },
                { hash := 35, key := PySem.Value.int 35 436, val := PySem.Value.str (PySem.Str.ofString "\\#") 440 },
                { hash := 32, key := PySem.Value.int 32 442, val := PySem.Value.str (PySem.Str.ofString "\\ ") 446 },
                { hash := 9, key := PySem.Value.int 9 448, val := PySem.Value.str (PySem.Str.ofString "\\\t") 452 },
                { hash := 10, key := PySem.Value.int 10 454, val := PySem.Value.str (PySem.Str.ofString "\\\n") 458 },
                { hash := 13, key := PySem.Value.int 13 460, val := PySem.Value.str (PySem.Str.ofString "\\\x0d") 464 },
                { hash := 11, key := PySem.Value.int 11 466, val := PySem.Value.str (PySem.Str.ofString "\\\x0b") 470 },
                { hash := 12, key := PySem.Value.int 12 472, val := PySem.Value.str (PySem.Str.ofString "\\\x0c") 476 }]
              24 }) ::
      (nat_lit 49, { cls := PySem.Value.type "tuple", data := PySem.Data.seq #[] }) :: (nat_lit 51, { cls := PySem.Value.type "tuple", data := PySem.Data.seq #[PySem.Value.str (PySem.Str.ofString "pattern") 482] }) ::
      (nat_lit 52, { cls := PySem.Value.type "tuple", data := PySem.Data.seq #[] }) ::
      (nat_lit 54,
        { cls := PySem.Value.type "code",
          data :=
            PySem.Data.fields
              #[PySem.Value.str (PySem.Str.ofString "escape") 479, PySem.Value.str (PySem.Str.ofString "escape") 480, PySem.Value.str (PySem.Str.ofString "/claim/cut.py") 481, PySem.Value.int 10 0,
                PySem.Value.int 1 0, PySem.Value.int 0 0, PySem.Value.int 0 0, PySem.Value.int 3 0, PySem.Value.ref (nat_lit 49), PySem.Value.bool true, PySem.Value.int 276 0, PySem.Value.ref (nat_lit 50),
                PySem.Value.none, PySem.Value.ref (nat_lit 51), PySem.Value.ref (nat_lit 52), PySem.Value.ref (nat_lit 53), PySem.Value.int 483 0, PySem.Value.int 10 0, PySem.Value.str (PySem.Str.ofString "/claim/cut.py") 484] }) ::
      (nat_lit 55,
        { cls := PySem.Value.type "function",
          data :=
            PySem.Data.func
              { name := PySem.Str.ofString "escape", qualname := PySem.Str.ofString "escape",
                params :=
                  { posonlyargs := [], args := [{ arg := PySem.Str.ofString "pattern", annotation := none, pos := { line := 10, col := 11, endLine := 10, endCol := 18 } }], vararg := none,
                    kwonlyargs := [], kw_defaults := [], kwarg := none, defaults := [] },
                body :=
                  PySem.FuncBody.stmts (defBody 6),
                scope :=
                  { kind := PySem.ScopeKind.function,
                    names :=
                      [(PySem.Str.ofString "pattern", PySem.NameKind.local), (PySem.Str.ofString "isinstance", PySem.NameKind.globalImplicit), (PySem.Str.ofString "str", PySem.NameKind.globalImplicit),
                        (PySem.Str.ofString "_special_chars_map", PySem.NameKind.globalImplicit)],
                    isGenerator := false, isCoroutine := false },
                globals := 3, closure := [], defaults := PySem.Value.none, kwdefaults := PySem.Value.none, pyModule := PySem.Value.str (PySem.Str.ofString "re") 331, code := PySem.Value.ref (nat_lit 54) } }) ::
      (nat_lit 56, { cls := PySem.Value.type "tuple", data := PySem.Data.seq #[] }) ::
      (nat_lit 58,
        { cls := PySem.Value.type "tuple",
          data :=
            PySem.Data.seq
              #[PySem.Value.str (PySem.Str.ofString "pat") 491, PySem.Value.str (PySem.Str.ofString "STAR") 492, PySem.Value.str (PySem.Str.ofString "QUESTION_MARK") 493,
                PySem.Value.str (PySem.Str.ofString "res") 494, PySem.Value.str (PySem.Str.ofString "add") 495, PySem.Value.str (PySem.Str.ofString "i") 496,
                PySem.Value.str (PySem.Str.ofString "n") 497, PySem.Value.str (PySem.Str.ofString "c") 498, PySem.Value.str (PySem.Str.ofString "j") 499,
                PySem.Value.str (PySem.Str.ofString "stuff") 500, PySem.Value.str (PySem.Str.ofString "chunks") 501, PySem.Value.str (PySem.Str.ofString "k") 502,
                PySem.Value.str (PySem.Str.ofString "chunk") 503] }) ::
      (nat_lit 59, { cls := PySem.Value.type "tuple", data := PySem.Data.seq #[] }) ::
      (nat_lit 61,
        { cls := PySem.Value.type "code",
          data :=
            PySem.Data.fields
              #[PySem.Value.str (PySem.Str.ofString "_translate") 488, PySem.Value.str (PySem.Str.ofString "_translate") 489, PySem.Value.str (PySem.Str.ofString "/claim/cut.py") 490,
                PySem.Value.int 17 0, PySem.Value.int 3 0, PySem.Value.int 0 0, PySem.Value.int 0 0, PySem.Value.int 3 0, PySem.Value.ref (nat_lit 56), PySem.Value.bool true, PySem.Value.int 276 0,
                PySem.Value.ref (nat_lit 57), PySem.Value.none, PySem.Value.ref (nat_lit 58), PySem.Value.ref (nat_lit 59), PySem.Value.ref (nat_lit 60), PySem.Value.int 504 0, PySem.Value.int 17 0,
                PySem.Value.str (PySem.Str.ofString "/claim/cut.py") 505] }) ::
      (nat_lit 62,
        { cls := PySem.Value.type "function",
          data :=
            PySem.Data.func
              { name := PySem.Str.ofString "_translate", qualname := PySem.Str.ofString "_translate",
                params :=
                  { posonlyargs := [],
                    args :=
                      [{ arg := PySem.Str.ofString "pat", annotation := none, pos := { line := 17, col := 15, endLine := 17, endCol := 18 } },
                        { arg := PySem.Str.ofString "STAR", annotation := none, pos := { line := 17, col := 20, endLine := 17, endCol := 24 } },
                        { arg := PySem.Str.ofString "QUESTION_MARK", annotation := none, pos := { line := 17, col := 26, endLine := 17, endCol := 39 } }],
                    vararg := none, kwonlyargs := [], kw_defaults := [], kwarg := none, defaults := [] },
                body :=
                  PySem.FuncBody.stmts (defBody 8),
                scope :=
                  { kind := PySem.ScopeKind.function,
                    names :=
                      [(PySem.Str.ofString "pat", PySem.NameKind.local), (PySem.Str.ofString "STAR", PySem.NameKind.local), (PySem.Str.ofString "QUESTION_MARK", PySem.NameKind.local),
                        (PySem.Str.ofString "res", PySem.NameKind.local), (PySem.Str.ofString "add", PySem.NameKind.local), (PySem.Str.ofString "i", PySem.NameKind.local),
                        (PySem.Str.ofString "n", PySem.NameKind.local), (PySem.Str.ofString "c", PySem.NameKind.local), (PySem.Str.ofString "j", PySem.NameKind.local),
                        (PySem.Str.ofString "stuff", PySem.NameKind.local), (PySem.Str.ofString "chunks", PySem.NameKind.local), (PySem.Str.ofString "k", PySem.NameKind.local),
                        (PySem.Str.ofString "chunk", PySem.NameKind.local), (PySem.Str.ofString "len", PySem.NameKind.globalImplicit), (PySem.Str.ofString "range", PySem.NameKind.globalImplicit),
                        (PySem.Str.ofString "_twin_re_1", PySem.NameKind.globalImplicit), (PySem.Str.ofString "escape", PySem.NameKind.globalImplicit)],
                    isGenerator := false, isCoroutine := false },
                globals := 3, closure := [], defaults := PySem.Value.none, kwdefaults := PySem.Value.none, pyModule := PySem.Value.str (PySem.Str.ofString "cpy313.fnmatch") 486,
                code := PySem.Value.ref (nat_lit 61) } }) ::
      (nat_lit 63, { cls := PySem.Value.type "tuple", data := PySem.Data.seq #[] }) ::
      (nat_lit 65,
        { cls := PySem.Value.type "tuple",
          data :=
            PySem.Data.seq
              #[PySem.Value.str (PySem.Str.ofString "inp") 510, PySem.Value.str (PySem.Str.ofString "STAR") 511, PySem.Value.str (PySem.Str.ofString "res") 512,
                PySem.Value.str (PySem.Str.ofString "add") 513, PySem.Value.str (PySem.Str.ofString "i") 514, PySem.Value.str (PySem.Str.ofString "n") 515,
                PySem.Value.str (PySem.Str.ofString "fixed") 516] }) ::
      (nat_lit 66, { cls := PySem.Value.type "tuple", data := PySem.Data.seq #[] }) ::
      (nat_lit 68,
        { cls := PySem.Value.type "code",
          data :=
            PySem.Data.fields
              #[PySem.Value.str (PySem.Str.ofString "_join_translated_parts") 507, PySem.Value.str (PySem.Str.ofString "_join_translated_parts") 508,
                PySem.Value.str (PySem.Str.ofString "/claim/cut.py") 509, PySem.Value.int 79 0, PySem.Value.int 2 0, PySem.Value.int 0 0, PySem.Value.int 0 0, PySem.Value.int 3 0, PySem.Value.ref (nat_lit 63),
                PySem.Value.bool true, PySem.Value.int 276 0, PySem.Value.ref (nat_lit 64), PySem.Value.none, PySem.Value.ref (nat_lit 65), PySem.Value.ref (nat_lit 66), PySem.Value.ref (nat_lit 67), PySem.Value.int 517 0,
                PySem.Value.int 79 0, PySem.Value.str (PySem.Str.ofString "/claim/cut.py") 518] }) ::
      (nat_lit 69,
        { cls := PySem.Value.type "function",
          data :=
            PySem.Data.func
              { name := PySem.Str.ofString "_join_translated_parts", qualname := PySem.Str.ofString "_join_translated_parts",
                params :=
                  { posonlyargs := [],
                    args :=
                      [{ arg := PySem.Str.ofString "inp", annotation := none, pos := { line := 79, col := 27, endLine := 79, endCol := 30 } },
                        { arg := PySem.Str.ofString "STAR", annotation := none, pos := { line := 79, col := 32, endLine := 79, endCol := 36 } }],
                    vararg := none, kwonlyargs := [], kw_defaults := [], kwarg := none, defaults := [] },
                body :=
                  PySem.FuncBody.stmts (defBody 9),
                scope :=
                  { kind := PySem.ScopeKind.function,
                    names :=
                      [(PySem.Str.ofString "inp", PySem.NameKind.local), (PySem.Str.ofString "STAR", PySem.NameKind.local), (PySem.Str.ofString "res", PySem.NameKind.local),
                        (PySem.Str.ofString "add", PySem.NameKind.local), (PySem.Str.ofString "i", PySem.NameKind.local), (PySem.Str.ofString "n", PySem.NameKind.local),
                        (PySem.Str.ofString "fixed", PySem.NameKind.local), (PySem.Str.ofString "len", PySem.NameKind.globalImplicit)],
                    isGenerator := false, isCoroutine := false },
                globals := 3, closure := [], defaults := PySem.Value.none, kwdefaults := PySem.Value.none, pyModule := PySem.Value.str (PySem.Str.ofString "cpy313.fnmatch") 486,
                code := PySem.Value.ref (nat_lit 68) } }) ::
      (nat_lit 77, { cls := PySem.Value.type "tuple", data := PySem.Data.seq #[PySem.Value.str (PySem.Str.ofString "_it") 534, PySem.Value.str (PySem.Str.ofString "_func") 535] }) ::
      (nat_lit 78, { cls := PySem.Value.type "tuple", data := PySem.Data.seq #[] }) ::
      (nat_lit 80,
        { cls := PySem.Value.type "tuple",
          data := PySem.Data.seq #[PySem.Value.str (PySem.Str.ofString "self") 540, PySem.Value.str (PySem.Str.ofString "function") 541, PySem.Value.str (PySem.Str.ofString "iterable") 542] }) ::
      (nat_lit 81, { cls := PySem.Value.type "tuple", data := PySem.Data.seq #[] }) ::
      (nat_lit 83,
        { cls := PySem.Value.type "code",
          data :=
            PySem.Data.fields
              #[PySem.Value.str (PySem.Str.ofString "__init__") 537, PySem.Value.str (PySem.Str.ofString "filterfalse.__init__") 538, PySem.Value.str (PySem.Str.ofString "/claim/cut.py") 539,
                PySem.Value.int 110 0, PySem.Value.int 3 0, PySem.Value.int 3 0, PySem.Value.int 0 0, PySem.Value.int 3 0, PySem.Value.ref (nat_lit 78), PySem.Value.bool true, PySem.Value.int 276 0,
                PySem.Value.ref (nat_lit 79), PySem.Value.none, PySem.Value.ref (nat_lit 80), PySem.Value.ref (nat_lit 81), PySem.Value.ref (nat_lit 82), PySem.Value.int 543 0, PySem.Value.int 110 0,
                PySem.Value.str (PySem.Str.ofString "/claim/cut.py") 544] }) ::
      (nat_lit 84,
        { cls := PySem.Value.type "function",
          data :=
            PySem.Data.func
              { name := PySem.Str.ofString "__init__", qualname := PySem.Str.ofString "filterfalse.__init__",
                params :=
                  {
                    posonlyargs :=
                      [{ arg := PySem.Str.ofString "self", annotation := none, pos := { line := 110, col := 17, endLine := 110, endCol := 21 } },
                        { arg := PySem.Str.ofString "function", annotation := none, pos := { line := 110, col := 23, endLine := 110, endCol := 31 } },
                        { arg := PySem.Str.ofString "iterable", annotation := none, pos := { line := 110, col := 33, endLine := 110, endCol := 41 } }],
                    args := [], vararg := none, kwonlyargs := [], kw_defaults := [], kwarg := none, defaults := [] },
                body :=
                  PySem.FuncBody.stmts (methBody 1),
                scope :=
                  { kind := PySem.ScopeKind.function,
                    names :=
                      [(PySem.Str.ofString "self", PySem.NameKind.local), (PySem.Str.ofString "function", PySem.NameKind.local), (PySem.Str.ofString "iterable", PySem.NameKind.local),
                        (PySem.Str.ofString "iter", PySem.NameKind.globalImplicit)],
                    isGenerator := false, isCoroutine := false },
                globals := 3, closure := [], defaults := PySem.Value.none, kwdefaults := PySem.Value.none, pyModule := PySem.Value.str (PySem.Str.ofString "itertools") 520,
                code := PySem.Value.ref (nat_lit 83) } }) ::
      (nat_lit 85, { cls := PySem.Value.type "tuple", data := PySem.Data.seq #[] }) :: (nat_lit 87, { cls := PySem.Value.type "tuple", data := PySem.Data.seq #[PySem.Value.str (PySem.Str.ofString "self") 549] }) ::
      (nat_lit 88, { cls := PySem.Value.type "tuple", data := PySem.Data.seq #[] }) ::
      (nat_lit 90,
        { cls := PySem.Value.type "code",
          data :=
            PySem.Data.fields
              #[PySem.Value.str (PySem.Str.ofString "__iter__") 546, PySem.Value.str (PySem.Str.ofString "filterfalse.__iter__") 547, PySem.Value.str (PySem.Str.ofString "/claim/cut.py") 548,
                PySem.Value.int 114 0, PySem.Value.int 1 0, PySem.Value.int 0 0, PySem.Value.int 0 0, PySem.Value.int 3 0, PySem.Value.ref (nat_lit 85), PySem.Value.bool true, PySem.Value.int 276 0,
                PySem.Value.ref (nat_lit 86), PySem.Value.none, PySem.Value.ref (nat_lit 87), PySem.Value.ref (nat_lit 88), PySem.Value.ref (nat_lit 89), PySem.Value.int 550 0, PySem.Value.int 114 0,
                PySem.Value.str (PySem.Str.ofString "/claim/cut.py") 551] }) ::
      (nat_lit 91,
        { cls := PySem.Value.type "function",
          data :=
            PySem.Data.func
              { name := PySem.Str.ofString "__iter__", qualname := PySem.Str.ofString "filterfalse.__iter__",
                params :=
                  { posonlyargs := [], args := [{ arg := PySem.Str.ofString "self", annotation := none, pos := { line := 114, col := 17, endLine := 114, endCol := 21 } }], vararg := none,
                    kwonlyargs := [], kw_defaults := [], kwarg := none, defaults := [] },
                body :=
                  PySem.FuncBody.stmts (methBody 2),
                scope := { kind := PySem.ScopeKind.function, names := [(PySem.Str.ofString "self", PySem.NameKind.local)], isGenerator := false, isCoroutine := false }, globals := 3, closure := [],
                defaults := PySem.Value.none, kwdefaults := PySem.Value.none, pyModule := PySem.Value.str (PySem.Str.ofString "itertools") 520, code := PySem.Value.ref (nat_lit 90) } }) ::
      (nat_lit 92, { cls := PySem.Value.type "tuple", data := PySem.Data.seq #[] }) ::
      (nat_lit 94,
        { cls := PySem.Value.type "tuple",
          data := PySem.Data.seq #[PySem.Value.str (PySem.Str.ofString "self") 556, PySem.Value.str (PySem.Str.ofString "func") 557, PySem.Value.str (PySem.Str.ofString "item") 558] }) ::
      (nat_lit 95, { cls := PySem.Value.type "tuple", data := PySem.Data.seq #[] }) ::
      (nat_lit 97,
        { cls := PySem.Value.type "code",
          data :=
            PySem.Data.fields
              #[PySem.Value.str (PySem.Str.ofString "__next__") 553, PySem.Value.str (PySem.Str.ofString "filterfalse.__next__") 554, PySem.Value.str (PySem.Str.ofString "/claim/cut.py") 555,
                PySem.Value.int 117 0, PySem.Value.int 1 0, PySem.Value.int 0 0, PySem.Value.int 0 0, PySem.Value.int 3 0, PySem.Value.ref (nat_lit 92), PySem.Value.bool true, PySem.Value.int 276 0,
                PySem.Value.ref (nat_lit 93), PySem.Value.none, PySem.Value.ref (nat_lit 94), PySem.Value.ref (nat_lit 95), PySem.Value.ref (nat_lit 96), PySem.Value.int 559 0, PySem.Value.int 117 0,
                PySem.Value.str (PySem.Str.ofString "/claim/cut.py") 560] }) ::
      (nat_lit 98,
        { cls := PySem.Value.type "function",
          data :=
            PySem.Data.func
              { name := PySem.Str.ofString "__next__", qualname := PySem.Str.ofString "filterfalse.__next__",
                params :=
                  { posonlyargs := [], args := [{ arg := PySem.Str.ofString "self", annotation := none, pos := { line := 117, col := 17, endLine := 117, endCol := 21 } }], vararg := none,
                    kwonlyargs := [], kw_defaults := [], kwarg := none, defaults := [] },
                body :=
                  PySem.FuncBody.stmts (methBody 3),
                scope :=
                  { kind := PySem.ScopeKind.function,
                    names :=
                      [(PySem.Str.ofString "self", PySem.NameKind.local), (PySem.Str.ofString "func", PySem.NameKind.local), (PySem.Str.ofString "item", PySem.NameKind.local),
                        (PySem.Str.ofString "next", PySem.NameKind.globalImplicit), (PySem.Str.ofString "bool", PySem.NameKind.globalImplicit)],
                    isGenerator := false, isCoroutine := false },
                globals := 3, closure := [], defaults := PySem.Value.none, kwdefaults := PySem.Value.none, pyModule := PySem.Value.str (PySem.Str.ofString "itertools") 520,
                code := PySem.Value.ref (nat_lit 97) } }) ::
      (nat_lit 99, { cls := PySem.Value.type "tuple", data := PySem.Data.seq #[PySem.Value.str (PySem.Str.ofString "_func") 562, PySem.Value.str (PySem.Str.ofString "_it") 563] }) ::
      (nat_lit 101,
        { cls := PySem.Value.type "dict",
          data :=
            PySem.Data.dict
              #[{ hash := PySem.PyData.keyHash P (PySem.Str.ofString "__module__"), key := PySem.Value.str (PySem.Str.ofString "__module__") 529,
                  val := PySem.Value.str (PySem.Str.ofString "itertools") 520 },
                { hash := PySem.PyData.keyHash P (PySem.Str.ofString "__firstlineno__"), key := PySem.Value.str (PySem.Str.ofString "__firstlineno__") 533, val := PySem.Value.int 107 532 },
                { hash := PySem.PyData.keyHash P (PySem.Str.ofString "__slots__"), key := PySem.Value.str (PySem.Str.ofString "__slots__") 536, val := PySem.Value.ref (nat_lit 77) },
                { hash := PySem.PyData.keyHash P (PySem.Str.ofString "__init__"), key := PySem.Value.str (PySem.Str.ofString "__init__") 545, val := PySem.Value.ref (nat_lit 84) },
                { hash := PySem.PyData.keyHash P (PySem.Str.ofString "__iter__"), key := PySem.Value.str (PySem.Str.ofString "__iter__") 552, val := PySem.Value.ref (nat_lit 91) },
                { hash := PySem.PyData.keyHash P (PySem.Str.ofString "__next__"), key := PySem.Value.str (PySem.Str.ofString "__next__") 561, val := PySem.Value.ref (nat_lit 98) },
                { hash := PySem.PyData.keyHash P (PySem.Str.ofString "__static_attributes__"), key := PySem.Value.str (PySem.Str.ofString "__static_attributes__") 564, val := PySem.Value.ref (nat_lit 99) },
                { hash := PySem.PyData.keyHash P (PySem.Str.ofString "_func"), key := PySem.Value.str (PySem.Str.ofString "_func") 566, val := PySem.Value.ref (nat_lit 103) },
                { hash := PySem.PyData.keyHash P (PySem.Str.ofString "_it"), key := PySem.Value.str (PySem.Str.ofString "_it") 568, val := PySem.Value.ref (nat_lit 104) },
                { hash := PySem.PyData.keyHash P (PySem.Str.ofString "__doc__"), key := PySem.Value.str (PySem.Str.ofString "__doc__") 569, val := PySem.Value.none }]
              4 }) ::
      (nat_lit 102,
        { cls := PySem.Value.type "type",
          data :=
            PySem.Data.cls
              { name := PySem.Str.ofString "filterfalse", bases := [PySem.Value.type "object"], mro := [PySem.Value.ref (nat_lit 102), PySem.Value.type "object"], ns := 101,
                qualname := PySem.Str.ofString "filterfalse", hasDict := false, slotNames := [PySem.Str.ofString "_func", PySem.Str.ofString "_it"] },
          slots :=
            #[none, none, some (PySem.Value.str (PySem.Str.ofString "filterfalse") 522), some (PySem.Value.str (PySem.Str.ofString "filterfalse") 530), some (PySem.Value.builtin "object.__new__"),
              some (PySem.Value.bool false)] }) ::
      (nat_lit 103,
        { cls := PySem.Value.type "member_descriptor",
          data :=
            PySem.Data.fields #[PySem.Value.str (PySem.Str.ofString "_func") 565, PySem.Value.ref (nat_lit 102), PySem.Value.builtin "proto.slot", PySem.Value.builtin "proto.slot#set", PySem.Value.int 1 0] }) ::
      (nat_lit 104,
        { cls := PySem.Value.type "member_descriptor",
          data :=
            PySem.Data.fields #[PySem.Value.str (PySem.Str.ofString "_it") 567, PySem.Value.ref (nat_lit 102), PySem.Value.builtin "proto.slot", PySem.Value.builtin "proto.slot#set", PySem.Value.int 0 0] }) ::
      (nat_lit 107, { cls := PySem.Value.type "tuple", data := PySem.Data.seq #[] }) ::
      (nat_lit 109, { cls := PySem.Value.type "tuple", data := PySem.Data.seq #[PySem.Value.str (PySem.Str.ofString "flist") 577, PySem.Value.str (PySem.Str.ofString "skip") 578] }) ::
      (nat_lit 110, { cls := PySem.Value.type "tuple", data := PySem.Data.seq #[] }) ::
      (nat_lit 112,
        { cls := PySem.Value.type "code",
          data :=
            PySem.Data.fields
              #[PySem.Value.str (PySem.Str.ofString "_filter") 574, PySem.Value.str (PySem.Str.ofString "_filter") 575, PySem.Value.str (PySem.Str.ofString "/claim/cut.py") 576, PySem.Value.int 127 0,
                PySem.Value.int 2 0, PySem.Value.int 0 0, PySem.Value.int 0 0, PySem.Value.int 3 0, PySem.Value.ref (nat_lit 107), PySem.Value.bool true, PySem.Value.int 276 0, PySem.Value.ref (nat_lit 108),
                PySem.Value.none, PySem.Value.ref (nat_lit 109), PySem.Value.ref (nat_lit 110), PySem.Value.ref (nat_lit 111), PySem.Value.int 579 0, PySem.Value.int 127 0,
                PySem.Value.str (PySem.Str.ofString "/claim/cut.py") 580] }) ::
      (nat_lit 113,
        { cls := PySem.Value.type "function",
          data :=
            PySem.Data.func
              { name := PySem.Str.ofString "_filter", qualname := PySem.Str.ofString "_filter",
                params :=
                  { posonlyargs := [],
                    args :=
                      [{ arg := PySem.Str.ofString "flist", annotation := none, pos := { line := 127, col := 12, endLine := 127, endCol := 17 } },
                        { arg := PySem.Str.ofString "skip", annotation := none, pos := { line := 127, col := 19, endLine := 127, endCol := 23 } }],
                    vararg := none, kwonlyargs := [], kw_defaults := [], kwarg := none, defaults := [] },
                body :=
                  PySem.FuncBody.stmts (defBody 13),
                scope :=
                  { kind := PySem.ScopeKind.function,
                    names :=
                      [(PySem.Str.ofString "flist", PySem.NameKind.local), (PySem.Str.ofString "skip", PySem.NameKind.local), (PySem.Str.ofString "list", PySem.NameKind.globalImplicit),
                        (PySem.Str.ofString "filterfalse", PySem.NameKind.globalImplicit)],
                    isGenerator := false, isCoroutine := false },
                globals := 3, closure := [], defaults := PySem.Value.none, kwdefaults := PySem.Value.none, pyModule := PySem.Value.str (PySem.Str.ofString "cpy313.filecmp") 572,
                code := PySem.Value.ref (nat_lit 112) } }) ::
      (nat_lit 114, { cls := PySem.Value.type "tuple", data := PySem.Data.seq #[] }) ::
      (nat_lit 116,
        { cls := PySem.Value.type "tuple",
          data :=
            PySem.Data.seq
              #[PySem.Value.str (PySem.Str.ofString "expected") 587, PySem.Value.str (PySem.Str.ofString "actual") 588, PySem.Value.str (PySem.Str.ofString "i") 589,
                PySem.Value.str (PySem.Str.ofString "j") 590, PySem.Value.str (PySem.Str.ofString "missing") 591, PySem.Value.str (PySem.Str.ofString "unexpected") 592,
                PySem.Value.str (PySem.Str.ofString "e") 593, PySem.Value.str (PySem.Str.ofString "a") 594] }) ::
      (nat_lit 117, { cls := PySem.Value.type "tuple", data := PySem.Data.seq #[] }) ::
      (nat_lit 119,
        { cls := PySem.Value.type "code",
          data :=
            PySem.Data.fields
              #[PySem.Value.str (PySem.Str.ofString "sorted_list_difference") 584, PySem.Value.str (PySem.Str.ofString "sorted_list_difference") 585,
                PySem.Value.str (PySem.Str.ofString "/claim/cut.py") 586, PySem.Value.int 130 0, PySem.Value.int 2 0, PySem.Value.int 0 0, PySem.Value.int 0 0, PySem.Value.int 3 0, PySem.Value.ref (nat_lit 114),
                PySem.Value.bool true, PySem.Value.int 276 0, PySem.Value.ref (nat_lit 115), PySem.Value.none, PySem.Value.ref (nat_lit 116), PySem.Value.ref (nat_lit 117), PySem.Value.ref (nat_lit 118), PySem.Value.int 595 0,
                PySem.Value.int 130 0, PySem.Value.str (PySem.Str.ofString "/claim/cut.py") 596] }) ::
      (nat_lit 120,
        { cls := PySem.Value.type "function",
          data :=
            PySem.Data.func
              { name := PySem.Str.ofString "sorted_list_difference", qualname := PySem.Str.ofString "sorted_list_difference",
                params :=
                  { posonlyargs := [],
                    args :=
                      [{ arg := PySem.Str.ofString "expected", annotation := none, pos := { line := 130, col := 27, endLine := 130, endCol := 35 } },
                        { arg := PySem.Str.ofString "actual", annotation := none, pos := { line := 130, col := 37, endLine := 130, endCol := 43 } }],
                    vararg := none, kwonlyargs := [], kw_defaults := [], kwarg := none, defaults := [] },
                body :=
                  PySem.FuncBody.stmts (defBody 15),
                scope :=
                  { kind := PySem.ScopeKind.function,
                    names :=
                      [(PySem.Str.ofString "expected", PySem.NameKind.local), (PySem.Str.ofString "actual", PySem.NameKind.local), (PySem.Str.ofString "i", PySem.NameKind.local),
                        (PySem.Str.ofString "j", PySem.NameKind.local), (PySem.Str.ofString "missing", PySem.NameKind.local), (PySem.Str.ofString "unexpected", PySem.NameKind.local),
                        (PySem.Str.ofString "e", PySem.NameKind.local), (PySem.Str.ofString "a", PySem.NameKind.local), (PySem.Str.ofString "IndexError", PySem.NameKind.globalImplicit)],
                    isGenerator := false, isCoroutine := false },
                globals := 3, closure := [], defaults := PySem.Value.none, kwdefaults := PySem.Value.none, pyModule := PySem.Value.str (PySem.Str.ofString "cpy313.unittest.util") 582,
                code := PySem.Value.ref (nat_lit 119) } }) ::
      (nat_lit 121, { cls := PySem.Value.type "tuple", data := PySem.Data.seq #[] }) ::
      (nat_lit 124,
        { cls := PySem.Value.type "code",
          data :=
            PySem.Data.fields
              #[PySem.Value.str (PySem.Str.ofString "_law_all") 600, PySem.Value.str (PySem.Str.ofString "_law_all") 601, PySem.Value.str (PySem.Str.ofString "/claim/cut.py") 602, PySem.Value.int 163 0,
                PySem.Value.int 2 0, PySem.Value.int 0 0, PySem.Value.int 0 0, PySem.Value.int 3 0, PySem.Value.ref (nat_lit 121), PySem.Value.bool true, PySem.Value.int 276 0, PySem.Value.ref (nat_lit 122),
                PySem.Value.none, PySem.Value.none, PySem.Value.none, PySem.Value.ref (nat_lit 123), PySem.Value.int 603 0, PySem.Value.int 163 0, PySem.Value.str (PySem.Str.ofString "/claim/cut.py") 604] }) ::
      (nat_lit 125,
        { cls := PySem.Value.type "function",
          data :=
            PySem.Data.func
              { name := PySem.Str.ofString "_law_all", qualname := PySem.Str.ofString "_law_all",
                params :=
                  { posonlyargs := [],
                    args :=
                      [{ arg := PySem.Str.ofString "letters", annotation := none, pos := { line := 163, col := 13, endLine := 163, endCol := 20 } },
                        { arg := PySem.Str.ofString "size", annotation := none, pos := { line := 163, col := 22, endLine := 163, endCol := 26 } }],
                    vararg := none, kwonlyargs := [], kw_defaults := [], kwarg := none, defaults := [] },
                body :=
                  PySem.FuncBody.stmts (defBody 17),
                scope :=
                  { kind := PySem.ScopeKind.function,
                    names :=
                      [(PySem.Str.ofString "letters", PySem.NameKind.cell), (PySem.Str.ofString "size", PySem.NameKind.local), (PySem.Str.ofString "words", PySem.NameKind.local),
                        (PySem.Str.ofString "k", PySem.NameKind.local), (PySem.Str.ofString "range", PySem.NameKind.globalImplicit)],
                    isGenerator := false, isCoroutine := false,
                    more :=
                      [(PySem.Str.ofString "fast", PySem.Const.str (PySem.Str.ofString "letters")), (PySem.Str.ofString "fast", PySem.Const.str (PySem.Str.ofString "size")),
                        (PySem.Str.ofString "fast", PySem.Const.str (PySem.Str.ofString "words")), (PySem.Str.ofString "fast", PySem.Const.str (PySem.Str.ofString "k")),
                        (PySem.Str.ofString "fast", PySem.Const.str (PySem.Str.ofString "word")), (PySem.Str.ofString "fast", PySem.Const.str (PySem.Str.ofString "letter"))] },
                globals := 3, closure := [], defaults := PySem.Value.none, kwdefaults := PySem.Value.none, pyModule := PySem.Value.str (PySem.Str.ofString "law_kt0017_01") 598,
                code := PySem.Value.ref (nat_lit 124) } }) ::
      (nat_lit 126, { cls := PySem.Value.type "tuple", data := PySem.Data.seq #[] }) ::
      (nat_lit 128,
        { cls := PySem.Value.type "tuple",
          data :=
            PySem.Data.seq
              #[PySem.Value.str (PySem.Str.ofString "text") 609, PySem.Value.str (PySem.Str.ofString "body") 610, PySem.Value.str (PySem.Str.ofString "signs") 611,
                PySem.Value.str (PySem.Str.ofString "sign") 612] }) ::
      (nat_lit 129, { cls := PySem.Value.type "tuple", data := PySem.Data.seq #[] }) ::
      (nat_lit 131,
        { cls := PySem.Value.type "code",
          data :=
            PySem.Data.fields
              #[PySem.Value.str (PySem.Str.ofString "_law_signs") 606, PySem.Value.str (PySem.Str.ofString "_law_signs") 607, PySem.Value.str (PySem.Str.ofString "/claim/cut.py") 608,
                PySem.Value.int 168 0, PySem.Value.int 1 0, PySem.Value.int 0 0, PySem.Value.int 0 0, PySem.Value.int 3 0, PySem.Value.ref (nat_lit 126), PySem.Value.bool true, PySem.Value.int 276 0,
                PySem.Value.ref (nat_lit 127), PySem.Value.none, PySem.Value.ref (nat_lit 128), PySem.Value.ref (nat_lit 129), PySem.Value.ref (nat_lit 130), PySem.Value.int 613 0, PySem.Value.int 168 0,
                PySem.Value.str (PySem.Str.ofString "/claim/cut.py") 614] }) ::
      (nat_lit 132,
        { cls := PySem.Value.type "function",
          data :=
            PySem.Data.func
              { name := PySem.Str.ofString "_law_signs", qualname := PySem.Str.ofString "_law_signs",
                params :=
                  { posonlyargs := [], args := [{ arg := PySem.Str.ofString "text", annotation := none, pos := { line := 168, col := 15, endLine := 168, endCol := 19 } }], vararg := none,
                    kwonlyargs := [], kw_defaults := [], kwarg := none, defaults := [] },
                body :=
                  PySem.FuncBody.stmts (defBody 18),
                scope :=
                  { kind := PySem.ScopeKind.function,
                    names :=
                      [(PySem.Str.ofString "text", PySem.NameKind.local), (PySem.Str.ofString "body", PySem.NameKind.local), (PySem.Str.ofString "signs", PySem.NameKind.local),
                        (PySem.Str.ofString "sign", PySem.NameKind.local)],
                    isGenerator := false, isCoroutine := false },
                globals := 3, closure := [], defaults := PySem.Value.none, kwdefaults := PySem.Value.none, pyModule := PySem.Value.str (PySem.Str.ofString "law_kt0017_01") 598,
                code := PySem.Value.ref (nat_lit 131) } }) ::
      (nat_lit 133, { cls := PySem.Value.type "tuple", data := PySem.Data.seq #[] }) ::
      (nat_lit 135,
        { cls := PySem.Value.type "tuple",
          data :=
            PySem.Data.seq
              #[PySem.Value.str (PySem.Str.ofString "signs") 619, PySem.Value.str (PySem.Str.ofString "name") 620, PySem.Value.str (PySem.Str.ofString "place") 621,
                PySem.Value.str (PySem.Str.ofString "sign") 622] }) ::
      (nat_lit 136, { cls := PySem.Value.type "tuple", data := PySem.Data.seq #[] }) ::
      (nat_lit 138,
        { cls := PySem.Value.type "code",
          data :=
            PySem.Data.fields
              #[PySem.Value.str (PySem.Str.ofString "_law_goes") 616, PySem.Value.str (PySem.Str.ofString "_law_goes") 617, PySem.Value.str (PySem.Str.ofString "/claim/cut.py") 618,
                PySem.Value.int 190 0, PySem.Value.int 2 0, PySem.Value.int 0 0, PySem.Value.int 0 0, PySem.Value.int 3 0, PySem.Value.ref (nat_lit 133), PySem.Value.bool true, PySem.Value.int 276 0,
                PySem.Value.ref (nat_lit 134), PySem.Value.none, PySem.Value.ref (nat_lit 135), PySem.Value.ref (nat_lit 136), PySem.Value.ref (nat_lit 137), PySem.Value.int 623 0, PySem.Value.int 190 0,
                PySem.Value.str (PySem.Str.ofString "/claim/cut.py") 624] }) ::
      (nat_lit 139,
        { cls := PySem.Value.type "function",
          data :=
            PySem.Data.func
              { name := PySem.Str.ofString "_law_goes", qualname := PySem.Str.ofString "_law_goes",
                params :=
                  { posonlyargs := [],
                    args :=
                      [{ arg := PySem.Str.ofString "signs", annotation := none, pos := { line := 190, col := 14, endLine := 190, endCol := 19 } },
                        { arg := PySem.Str.ofString "name", annotation := none, pos := { line := 190, col := 21, endLine := 190, endCol := 25 } }],
                    vararg := none, kwonlyargs := [], kw_defaults := [], kwarg := none, defaults := [] },
                body :=
                  PySem.FuncBody.stmts (defBody 19),
                scope :=
                  { kind := PySem.ScopeKind.function,
                    names :=
                      [(PySem.Str.ofString "signs", PySem.NameKind.local), (PySem.Str.ofString "name", PySem.NameKind.local), (PySem.Str.ofString "place", PySem.NameKind.local),
                        (PySem.Str.ofString "sign", PySem.NameKind.local)],
                    isGenerator := false, isCoroutine := false },
                globals := 3, closure := [], defaults := PySem.Value.none, kwdefaults := PySem.Value.none, pyModule := PySem.Value.str (PySem.Str.ofString "law_kt0017_01") 598,
                code := PySem.Value.ref (nat_lit 138) } }) ::
      (nat_lit 140, { cls := PySem.Value.type "tuple", data := PySem.Data.seq #[] }) ::
      (nat_lit 143,
        { cls := PySem.Value.type "code",
          data :=
            PySem.Data.fields
              #[PySem.Value.str (PySem.Str.ofString "law") 626, PySem.Value.str (PySem.Str.ofString "law") 627, PySem.Value.str (PySem.Str.ofString "/claim/cut.py") 628, PySem.Value.int 197 0,
                PySem.Value.int 1 0, PySem.Value.int 0 0, PySem.Value.int 0 0, PySem.Value.int 3 0, PySem.Value.ref (nat_lit 140), PySem.Value.bool true, PySem.Value.int 276 0, PySem.Value.ref (nat_lit 141),
                PySem.Value.none, PySem.Value.none, PySem.Value.none, PySem.Value.ref (nat_lit 142), PySem.Value.int 629 0, PySem.Value.int 197 0, PySem.Value.str (PySem.Str.ofString "/claim/cut.py") 630] }) ::
      (nat_lit 144,
        { cls := PySem.Value.type "function",
          data :=
            PySem.Data.func
              { name := PySem.Str.ofString "law", qualname := PySem.Str.ofString "law",
                params :=
                  { posonlyargs := [], args := [{ arg := PySem.Str.ofString "script", annotation := none, pos := { line := 197, col := 8, endLine := 197, endCol := 14 } }], vararg := none,
                    kwonlyargs := [], kw_defaults := [], kwarg := none, defaults := [] },
                body :=
                  PySem.FuncBody.stmts (defBody 20),
                scope :=
                  { kind := PySem.ScopeKind.function,
                    names :=
                      [(PySem.Str.ofString "script", PySem.NameKind.local), (PySem.Str.ofString "draws", PySem.NameKind.local), (PySem.Str.ofString "one", PySem.NameKind.local),
                        (PySem.Str.ofString "two", PySem.NameKind.local), (PySem.Str.ofString "marks", PySem.NameKind.local), (PySem.Str.ofString "pair", PySem.NameKind.cell),
                        (PySem.Str.ofString "word", PySem.NameKind.cell), (PySem.Str.ofString "half", PySem.NameKind.local), (PySem.Str.ofString "left", PySem.NameKind.local),
                        (PySem.Str.ofString "taking", PySem.NameKind.local), (PySem.Str.ofString "part", PySem.NameKind.local), (PySem.Str.ofString "signs", PySem.NameKind.cell),
                        (PySem.Str.ofString "fits", PySem.NameKind.local), (PySem.Str.ofString "rest", PySem.NameKind.local), (PySem.Str.ofString "struck", PySem.NameKind.cell),
                        (PySem.Str.ofString "number", PySem.NameKind.cell), (PySem.Str.ofString "kept", PySem.NameKind.local), (PySem.Str.ofString "list", PySem.NameKind.globalImplicit),
                        (PySem.Str.ofString "sorted", PySem.NameKind.globalImplicit), (PySem.Str.ofString "len", PySem.NameKind.globalImplicit),
                        (PySem.Str.ofString "_law_all", PySem.NameKind.globalImplicit), (PySem.Str.ofString "_law_signs", PySem.NameKind.globalImplicit),
                        (PySem.Str.ofString "translate", PySem.NameKind.globalImplicit), (PySem.Str.ofString "_filter", PySem.NameKind.globalImplicit),
                        (PySem.Str.ofString "sorted_list_difference", PySem.NameKind.globalImplicit), (PySem.Str.ofString "range", PySem.NameKind.globalImplicit)],
                    isGenerator := false, isCoroutine := false,
                    more :=
                      [(PySem.Str.ofString "fast", PySem.Const.str (PySem.Str.ofString "script")), (PySem.Str.ofString "fast", PySem.Const.str (PySem.Str.ofString "draws")),
                        (PySem.Str.ofString "fast", PySem.Const.str (PySem.Str.ofString "one")), (PySem.Str.ofString "fast", PySem.Const.str (PySem.Str.ofString "two")),
                        (PySem.Str.ofString "fast", PySem.Const.str (PySem.Str.ofString "marks")), (PySem.Str.ofString "fast", PySem.Const.str (PySem.Str.ofString "pair")),
                        (PySem.Str.ofString "fast", PySem.Const.str (PySem.Str.ofString "x")), (PySem.Str.ofString "fast", PySem.Const.str (PySem.Str.ofString "word")),
                        (PySem.Str.ofString "fast", PySem.Const.str (PySem.Str.ofString "half")), (PySem.Str.ofString "fast", PySem.Const.str (PySem.Str.ofString "left")),
                        (PySem.Str.ofString "fast", PySem.Const.str (PySem.Str.ofString "taking")), (PySem.Str.ofString "fast", PySem.Const.str (PySem.Str.ofString "part")),
                        (PySem.Str.ofString "fast", PySem.Const.str (PySem.Str.ofString "signs")), (PySem.Str.ofString "fast", PySem.Const.str (PySem.Str.ofString "name")),
                        (PySem.Str.ofString "fast", PySem.Const.str (PySem.Str.ofString "fits")), (PySem.Str.ofString "fast", PySem.Const.str (PySem.Str.ofString "rest")),
                        (PySem.Str.ofString "fast", PySem.Const.str (PySem.Str.ofString "struck")), (PySem.Str.ofString "fast", PySem.Const.str (PySem.Str.ofString "number")),
                        (PySem.Str.ofString "fast", PySem.Const.str (PySem.Str.ofString "k")), (PySem.Str.ofString "fast", PySem.Const.str (PySem.Str.ofString "kept"))] },
                globals := 3, closure := [], defaults := PySem.Value.none, kwdefaults := PySem.Value.none, pyModule := PySem.Value.str (PySem.Str.ofString "law_kt0017_01") 598,
                code := PySem.Value.ref (nat_lit 143) } }) :: [])

end Mine
end
section
open PySem PySem.W PyProof.Rows
namespace Mine
/-- the names that the program's top binds -/
noncomputable def LL : List Str := [Str.ofString "_twin_re_1", Str.ofString "_special_chars_map", Str.ofString "filterfalse", Str.ofString "_sre", Str.ofString "translate", Str.ofString "escape", Str.ofString "_translate", Str.ofString "_join_translated_parts", Str.ofString "_filter", Str.ofString "sorted_list_difference", Str.ofString "_law_all", Str.ofString "_law_signs", Str.ofString "_law_goes", Str.ofString "law"]
/-- a call of a def that leaves all that stood as it stood -/
noncomputable def Spec (w : World) (mean : ExcName → Option Value) (mg mb : Str → Option Value) (f : Addr) (args : List Value) (Pre : Heap → Prop) (Post : Heap → Heap → Value → Prop) : Prop :=
  ∀ (dp un : Nat) (gd : Option (List Code)) (cn : Str) (cs : Scope) (L a : Addr) (ccd : Value) (cl : List (Str × Addr)) (outer : List Env) (A₀ : Around) (base h₀ : Heap) (m : Str → Option Value) (s : Shared) (Q E : Value → Shared → Prop),
    Below A₀ base outer h₀ → Fr h₀ L s.heap m → (KK w.params).In h₀ → Top topProg LL mean mg mb h₀ → cs.kind = .function →
    dp + 40 < recursionLimit → un + 200 < cLine → Pre s.heap →
    (∀ r h' tk', s.heap.StaysIn h' → Post s.heap h' r → Q r { s with heap := h', toks := tk' }) →
    wpAny (model PySem.Challenge.rw_kt0017_01.row.prog w) (ktrTop dp un gd cn cs L a ccd cl outer) (call (.ref f) args) Q E s
end Mine
end
section
open PySem PySem.W PyProof.Rows PySem.Calls PySem.Spec
namespace Mine
section
variable {prog : Program} {w : World} {A : Around} {E : Value → Shared → Prop} {s : Shared} {env : Env} {h₀ : Heap} {x : Str} {body : List Stmt} {Q : Flow → Shared → Prop}

/-- a list that stands below the frame, or on the ledger all along -/
noncomputable def ListAt {σ : Type} (h₀ : Heap) (Led : σ → List (Addr × Obj)) (l : Addr) (vs : List Value) : Prop :=
  h₀.IsList l vs.toArray ∨ ∃ nn, ∀ c, (l, listOf vs.toArray nn) ∈ Led c

theorem iter_list {σ : Type} {l : Addr} {vs : List Value} {m₀ : Str → Option Value} (G : σ → Str → Option Value) (Led : σ → List (Addr × Obj)) (P : Nat → σ → Prop) (c₀ : σ)
    (hh : A.handled = none) (hl : ListAt h₀ Led l vs) (F : Fr h₀ env.locals s.heap m₀) (hm : ∀ z, z ≠ x → m₀ z = G c₀ z) (N : News h₀ env.locals s.heap (Led c₀)) (hp : P 0 c₀)
    (hcls : ∀ c, ∀ p ∈ Led c, p.2.cls ≠ .type "list_iterator" ∨ ∀ us, p.2.data ≠ .fields us)
    (turn : ∀ i v c h tk (I : Addr) (it : Obj) (Q' : Flow → Shared → Prop), vs[i]? = some v → P i c →
      Fr h₀ env.locals h (fun y => if y = x then some v else G c y) → News h₀ env.locals h (Led c ++ [(I, it)]) →
      (∀ v s₂, Q (.ret v) s₂ → Q' (.ret v) s₂) → (∀ s₂, Q .next s₂ → Q' .brk s₂) →
      (∀ f c' h' tk' m' news', (f = .next ∨ f = .cont) → Fr h₀ env.locals h' m' → News h₀ env.locals h' news' → (∀ z, z ≠ x → m' z = G c' z) → (∀ p ∈ Led c', p ∈ news') → (I, it) ∈ news' → P (i + 1) c' →
        Q' f { s with heap := h', toks := tk' }) →
      wpAny (model prog w) A (execs body env) Q' E { s with heap := h, toks := tk })
    (done : ∀ c (u : Str → Option Value) h tk, P vs.length c → Fr h₀ env.locals h (fun y => if y = x then u y else G c y) → News h₀ env.locals h (Led c) → Q .next { s with heap := h, toks := tk }) :
    wpAny (model prog w) A (pyIter (.ref l)) (fun it s₂ => LoopAtV prog w A h₀ env x body Q E it s₂) E s := by
  have em : ∀ (c : σ) (m' : Str → Option Value) (v : Value), (∀ z, z ≠ x → m' z = G c z) → (fun y => if y = x then some v else m' y) = (fun y => if y = x then some v else G c y) := by
    intro c m' v h
    funext y
    by_cases hy : y = x
    · rw [if_pos hy, if_pos hy]
    · rw [if_neg hy, if_neg hy, h y hy]
  have hls : s.heap.IsList l vs.toArray := by
    rcases hl with hl | ⟨nn, hl⟩
    · exact hl.at fun o e => F.keep l o e
    · exact ⟨_, (N _ (hl c₀)).1, rfl, nn, rfl⟩
  obtain ⟨ol, hol, hrest⟩ := id hls
  have hne : l ≠ s.heap.objs.size := Nat.ne_of_lt (Heap.lt_size hol)
  have hnL : l ≠ env.locals := by
    rcases hl with hl | ⟨nn, hl⟩
    · obtain ⟨o2, ho2, _⟩ := hl
      exact Nat.ne_of_lt (Nat.lt_of_lt_of_le (Heap.lt_size ho2) F.above)
    · exact (N _ (hl c₀)).2.1
  refine wpAny_pyIter_list hls ?_
  have W := Walks.list (prog := prog) (w := w) hh s.heap.objs.size l hne vs.toArray
  have hlen : vs.toArray.size = vs.length := by simp
  rw [hlen] at W
  refine ⟨_, _, _, vs.length, _, _, m₀, Led c₀, (fun i m nx => ∃ c, nx = Led c ∧ (∀ z, z ≠ x → m z = G c z) ∧ P i c), rfl, W, ?_, ?_, ?_, ⟨⟨_, Heap.get?_push_size _ rfl, rfl, rfl⟩, hls.at fun o e => Heap.get?_push_of_some _ e⟩, F.push _, (fun p hp => ⟨Heap.get?_push_of_some _ (N p hp).1, (N p hp).2⟩), ⟨c₀, rfl, hm, hp⟩, ?_, ?_⟩
  · intro hm
    rcases List.mem_cons.mp hm with e | hm
    · exact absurd F.ns.lt (e ▸ Nat.lt_irrefl _)
    · exact hnL ((List.mem_singleton.mp hm).symm)
  · intro b hb
    rw [List.mem_singleton.mp hb]
    exact next_is_new F
  · intro p hp hI
    exact absurd (Heap.lt_size (N p hp).1) ((List.mem_singleton.mp hI) ▸ Nat.lt_irrefl _)
  · rintro i v m₁ news₁ s₁ own ⟨hh', tk', rfl⟩ hin hP ⟨c, rfl, hG, hPc⟩ hoff hown hget hfp hSt F₁ N₁
    have hvi : vs[i]? = some v := by simpa using hP
    have hit : hh'.IsListIter s.heap.objs.size l (i + 1) := hSt.1
    obtain ⟨it, hI, hIc, hId⟩ := id hit
    have hIn : (s.heap.objs.size, it) ∈ own := hfp _ (by simp) (next_is_new F) it hI
    rw [em c m₁ v hG] at F₁
    have N₂ : News h₀ env.locals hh' (Led c ++ [(s.heap.objs.size, it)]) := fun p hp => by
      rcases List.mem_append.mp hp with hp | hp
      · exact N₁ p (List.mem_append.mpr (.inr hp))
      · rw [List.mem_singleton.mp hp]; exact N₁ _ (List.mem_append.mpr (.inl hIn))
    refine turn i v c hh' tk' s.heap.objs.size it _ hvi hPc F₁ N₂ (fun v s₂ q => .ret q) (fun s₂ q => .brk q) ?_
    rintro f c' h' tk₂ m' news' hf F' N' hG' hL' hI' hP'
    have step : LoopStepU h₀ env.locals [s.heap.objs.size] own (fun m nx => ∃ c, nx = Led c ∧ (∀ z, z ≠ x → m z = G c z) ∧ P (i + 1) c) { s with heap := hh', toks := tk' } .next { s with heap := h', toks := tk₂ } := by
      have hI2 := (N' _ hI').1
      refine ⟨rfl, h', tk₂, m', Led c', rfl, F', fun p hp => ?_, fun p hp hq => ?_, c', rfl, hG', hP'⟩
      · rcases List.mem_append.mp hp with hp | hp
        · rcases List.mem_cons.mp (hown p hp) with h1 | h1
          · have h2 := hget p hp
            have h3 : p = (s.heap.objs.size, it) := by
              obtain ⟨pa, po⟩ := p
              dsimp only at h1 h2
              subst h1
              rw [hI] at h2
              rw [Option.some.inj h2]
            rw [h3]; exact N' _ hI'
          · have h1 := List.mem_singleton.mp h1
            rcases hl with hl | ⟨nn, hl⟩
            · exfalso
              obtain ⟨o2, ho2, _⟩ := hl
              have h3 := (N₁ p (List.mem_append.mpr (.inl hp))).2.2
              rw [h1, ho2] at h3; cases h3
            · have h2 := hget p hp
              have h4 := (N₁ _ (List.mem_append.mpr (.inr (hl c)))).1
              have h3 : p = (l, listOf vs.toArray nn) := by
                obtain ⟨pa, po⟩ := p
                dsimp only at h1 h2 h4
                subst h1
                rw [h4] at h2
                rw [Option.some.inj h2]
              rw [h3]; exact N' _ (hL' _ (hl c'))
        · exact N' p (hL' p hp)
      · have h1 := List.mem_singleton.mp hq
        have h2 := (N' p (hL' p hp)).1
        rw [h1, hI2] at h2
        have h3 := Option.some.inj h2
        rcases hcls c' p hp with h4 | h4
        · exact h4 (by rw [← h3]; exact hIc)
        · exact h4 _ (by rw [← h3]; exact hId)
    rcases hf with rfl | rfl
    · exact .next step
    · exact .cont step
  · rintro h' tk m' news' F' N' _ ⟨c, rfl, hG, hPc⟩
    refine done c m' h' tk hPc ?_ N'
    have : (fun y => if y = x then m' y else G c y) = m' := by
      funext y
      by_cases hy : y = x
      · rw [if_pos hy]
      · rw [if_neg hy, hG y hy]
    rw [this]; exact F'

theorem for_list {σ : Type} {l : Addr} {vs : List Value} {m₀ : Str → Option Value} {px pos : Pos} {y : Str} {py : Pos} (G : σ → Str → Option Value) (Led : σ → List (Addr × Obj)) (P : Nat → σ → Prop) (c₀ : σ)
    (hh : A.handled = none) (hl : ListAt h₀ Led l vs) (F : Fr h₀ env.locals s.heap m₀) (hy : wpAny (model prog w) A (eval (.Name y py) env) (fun v s' => v = .ref l ∧ s' = s) E s) (hm : ∀ z, z ≠ x → m₀ z = G c₀ z) (N : News h₀ env.locals s.heap (Led c₀)) (hp : P 0 c₀)
    (hcls : ∀ c, ∀ p ∈ Led c, p.2.cls ≠ .type "list_iterator" ∨ ∀ us, p.2.data ≠ .fields us)
    (hx : env.kindOf x = some .local) (hpc : (env.scope.kind == .class || (env.scope.kind == .module && env.locals != env.globals)) = false) (hE : PassesOwn (model prog w) A env E)
    (turn : ∀ i v c h tk (I : Addr) (it : Obj) (Q' : Flow → Shared → Prop), vs[i]? = some v → P i c →
      Fr h₀ env.locals h (fun y => if y = x then some v else G c y) → News h₀ env.locals h (Led c ++ [(I, it)]) →
      (∀ v s₂, Q (.ret v) s₂ → Q' (.ret v) s₂) → (∀ s₂, Q .next s₂ → Q' .brk s₂) →
      (∀ f c' h' tk' m' news', (f = .next ∨ f = .cont) → Fr h₀ env.locals h' m' → News h₀ env.locals h' news' → (∀ z, z ≠ x → m' z = G c' z) → (∀ p ∈ Led c', p ∈ news') → (I, it) ∈ news' → P (i + 1) c' →
        Q' f { s with heap := h', toks := tk' }) →
      wpAny (model prog w) A (execs body env) Q' E { s with heap := h, toks := tk })
    (done : ∀ c (u : Str → Option Value) h tk, P vs.length c → Fr h₀ env.locals h (fun y => if y = x then u y else G c y) → News h₀ env.locals h (Led c) → Q .next { s with heap := h, toks := tk }) :
    wpAny (model prog w) A (exec (.For (.Name x px) (.Name y py) body [] pos) env) Q E s := by
  refine For_invV h₀ hx hpc (wpAny_mono hy ?_ fun _ _ e => e) (by intro _; rfl) hE
  rintro v s' ⟨rfl, rfl⟩
  exact iter_list G Led P c₀ hh hl F hm N hp hcls turn done

/-- while: a word over a state, a measure that falls -/
theorem while_inv {σ : Type} {m₀ : Str → Option Value} {test : Expr} {pos : Pos} (G : σ → Str → Option Value) (Led : σ → List (Addr × Obj)) (P : Nat → σ → Prop) (n₀ : Nat) (c₀ : σ)
    (F : Fr h₀ env.locals s.heap m₀) (hm : ∀ z, m₀ z = G c₀ z) (N : News h₀ env.locals s.heap (Led c₀)) (hp : P n₀ c₀) (hE : PassesOwn (model prog w) A env E)
    (turn : ∀ n c h tk (Q' : Bool → Shared → Prop), P n c → Fr h₀ env.locals h (G c) → News h₀ env.locals h (Led c) →
      (∀ s₂, Q .next s₂ → Q' false s₂) →
      (∀ s₂, (∀ (Q'' : Flow → Shared → Prop), (∀ v s₃, Q (.ret v) s₃ → Q'' (.ret v) s₃) → (∀ s₃, Q .next s₃ → Q'' .brk s₃) →
        (∀ f n' c' h' tk' m' news', (f = .next ∨ f = .cont) → n' < n → Fr h₀ env.locals h' m' → News h₀ env.locals h' news' → (∀ z, m' z = G c' z) → (∀ p ∈ Led c', p ∈ news') → P n' c' →
          Q'' f { s with heap := h', toks := tk' }) → wpAny (model prog w) A (execs body env) Q'' E s₂) → Q' true s₂) →
      wpAny (model prog w) A (isTrue test env (eval test env)) Q' E { s with heap := h, toks := tk }) :
    wpAny (model prog w) A (exec (.While test body [] pos) env) Q E s := by
  refine wpAny_While ?_
  refine codeAny_whileLoop (fun n s' => ∃ c h tk m', s' = { s with heap := h, toks := tk } ∧ Fr h₀ env.locals h m' ∧ (∀ z, m' z = G c z) ∧ News h₀ env.locals h (Led c) ∧ P n c) ?_ n₀ ⟨c₀, s.heap, s.toks, m₀, rfl, F, hm, N, hp⟩
  rintro n s' ⟨c, h, tk, m', rfl, F', hG, N', hP⟩
  have e : m' = G c := funext hG
  subst e
  have hEn : ∀ {α : Type} {t : Sem α} {Q₁ : α → Shared → Prop} {s₁ : Shared}, wpAny (model prog w) A t Q₁ E s₁ → wpAny (model prog w) A t Q₁ (notedBy (model prog w) A env fun e s' => cameBackBy (model prog w) A env E e s') s₁ := fun h => wpAny_passesOwn hE h
  refine hEn (turn n c h tk _ hP F' N' ?_ ?_)
  · intro s₂ q
    simp only [Bool.false_eq_true, if_false]
    exact wpAny_execs_nil q
  · intro s₂ q
    simp only [if_true]
    refine hEn (q _ (fun v s₃ q => q) (fun s₃ q => q) ?_)
    rintro f n' c' h' tk' m₂ news' hf hn F₂ N₂ hG₂ hL₂ hP₂
    rcases hf with rfl | rfl
    · exact ⟨n', hn, c', h', tk', m₂, rfl, F₂, hG₂, fun p hp => N₂ p (hL₂ p hp), hP₂⟩
    · exact ⟨n', hn, c', h', tk', m₂, rfl, F₂, hG₂, fun p hp => N₂ p (hL₂ p hp), hP₂⟩
end

section
variable {prog : Program} {w : World} {A A₀ : Around} {base h₀ : Heap} {outer : List Env} {L : Addr} {m : Str → Option Value} {K : Frag} {p : Program} {loose : List Str} {mean : ExcName → Option Value} {mg mb : Str → Option Value} {s : Shared} {Q E : Value → Shared → Prop}

/-- a def is entered that raises nothing: all that stood is its ground -/
theorem enterP {env : Env} {name qual : Str} {params : Arguments} {body : List Stmt} {scope : Scope} {dV kV doc pm cdv ct oc : Value} {an od : Option Addr} {osl : Array (Option Value)} {f : Addr} {args : List Value} {binds : List (Str × Value)}
    (B : Below A₀ base outer h₀) (F : Fr h₀ L s.heap m) (X₀ : K.In h₀) (T : Top p loose mean mg mb h₀) (hA : A.frames = some (env :: outer)) (hf : env.frame = some L) (hke : env.scope.kind = .function)
    (ho : K.lookup f = some ⟨oc, od, .func (fnOf name qual params body scope dV kV doc pm an cdv ct), osl⟩) (hcd : codeIn K cdv qual = true) (hroom : A.depth < recursionLimit)
    (hbind : BindsTo s (fnOf name qual params body scope dV kV doc pm an cdv ct) ⟨args, []⟩ binds) (hloc : ∀ y ∈ binds, scope.names.lookup y.1 = some .local)
    (h : ∀ L' h₁ (Q' : Flow → Shared → Prop), (∀ v s', Q v s' → Q' (.ret v) s') → (∀ s', Q .none s' → Q' .next s') → Fr s.heap L' h₁ (fun y => binds.reverse.lookup y) → News s.heap L' h₁ [] → Below A base (env :: outer) s.heap → K.In s.heap → Top p loose mean mg mb s.heap →
      wpAny (model prog w) (A.deeper (envOf qual scope L' f cdv)) (execs body (envOf qual scope L' f cdv)) Q' (fun _ _ => False) { s with heap := h₁, toks := s.toks + binds.length })
    (hco : scope.isCoroutine = false) (hgen : scope.isGenerator = false) (hk : scope.kind = .function)
    (hcell : ∀ x ∈ scope.names, x.2 ≠ .cell) : wpAny (model prog w) A (call (.ref f) args) Q E s := by
  refine wpAny_call ?_
  obtain ⟨FG, BG, st, lv⟩ := groundX (R := fun r s' => match r with | .ok (.ret v) => Q v s' | .ok _ => False | .error e => E e s') B F (News.nil : News h₀ L s.heap []) hA hf hke
  refine codeAny_call_def (fd := fnX name qual params body scope [] dV kV doc pm an cdv ct) (body := body) (binds := binds) hroom ((X₀.keeps F.keep) _ _ ho) rfl (T.nolimit.keeps F.keep) (codeRec_of (X₀.keeps F.keep) hcd) rfl hbind hcell hloc (fun h₁ hns hk₁ => ?_) hco hgen hk
  exact wpAny_mono (h s.heap.objs.size h₁ _ (fun v s' q => q) (fun s' q => q) ⟨hns, hk₁, Nat.le_refl _⟩ News.nil BG (X₀.keeps st) (T.keeps st)) (fun fl s' hl => hl) fun _ _ y => y.elim

theorem enterC {env : Env} {name qual : Str} {params : Arguments} {body : List Stmt} {scope : Scope} {dV kV doc pm cdv ct oc : Value} {an od : Option Addr} {osl : Array (Option Value)} {f : Addr} {args : List Value} {binds : List (Str × Value)}
    (B : Below A₀ base outer h₀) (F : Fr h₀ L s.heap m) (X₀ : K.In h₀) (T : Top p loose mean mg mb h₀) (hA : A.frames = some (env :: outer)) (hf : env.frame = some L) (hke : env.scope.kind = .function)
    (ho : K.lookup f = some ⟨oc, od, .func (fnOf name qual params body scope dV kV doc pm an cdv ct), osl⟩) (hcd : codeIn K cdv qual = true) (hroom : A.depth < recursionLimit)
    (hbind : BindsTo s (fnOf name qual params body scope dV kV doc pm an cdv ct) ⟨args, []⟩ binds) (hkind : (binds.all fun y => scope.names.lookup y.1 == some .local || scope.names.lookup y.1 == some .cell) = true)
    (hnd : ((cellsFrom 0 scope.names []).map (·.1)).Nodup)
    (h : ∀ L' h₁ tk cells (Q' : Flow → Shared → Prop), (∀ v s', Q v s' → Q' (.ret v) s') → (∀ s', Q .none s' → Q' .next s') → Fr s.heap L' h₁ (bindL (envOfC qual scope L' f cdv).kindOf binds fun _ => none) → News s.heap L' h₁ (cells ++ []) →
      CellsAre (bindC (envOfC qual scope L' f cdv).kindOf binds fun _ => none) (cellsFrom (L' + 1) scope.names []) cells → Below A base (env :: outer) s.heap → K.In s.heap → Top p loose mean mg mb s.heap →
      wpAny (model prog w) (A.deeper (envOfC qual scope L' f cdv)) (execs body (envOfC qual scope L' f cdv)) Q' (fun _ _ => False) { s with heap := h₁, toks := tk })
    (hco : scope.isCoroutine = false) (hgen : scope.isGenerator = false) (hk : scope.kind = .function) : wpAny (model prog w) A (call (.ref f) args) Q E s := by
  refine wpAny_call ?_
  obtain ⟨FG, BG, st, lv⟩ := groundX (R := fun r s' => match r with | .ok (.ret v) => Q v s' | .ok _ => False | .error e => E e s') B F (News.nil : News h₀ L s.heap []) hA hf hke
  refine codeAny_call_function hroom ((X₀.keeps F.keep) _ _ ho) rfl hco hgen rfl (codeRec_of (X₀.keeps F.keep) hcd) (hbind _ _ _ _ ?_)
  refine wpAny_newFunctionEnv_cells hk (kindsX hkind _) fun env' he s' x => ?_
  subst he
  refine ⟨(T.nolimit.keeps F.keep).keeps x.toInCall.keep, codeAny_func ?_⟩
  obtain ⟨h₁, tk, rfl, _⟩ := x.done
  have hk₁ := x.toInCall.keep
  obtain ⟨cells, NC, Y⟩ := Cl.news (h₀ := s.heap) (Nat.le_refl _) fun n c hm => ⟨x.cell n c (lookup_of_mem_nodup (cellsFrom_names scope.names 0 (s.heap.objs.size + 1) [] [] rfl ▸ hnd) hm), x.above n c hm⟩
  refine wpAny_mono (h s.heap.objs.size h₁ tk cells _ (fun v s' q => q) (fun s' q => q) ⟨x.toInCall.ns, fun b o e => hk₁ b o e, Nat.le_refl _⟩ (fun p hp => ?_) Y BG (X₀.keeps st) (T.keeps st)) (fun fl s' hl => hl) fun _ _ y => y.elim
  rcases List.mem_append.mp hp with hp | hp
  · exact ⟨(NC p hp).1, (NC p hp).2.1, (NC p hp).2.2⟩
  · cases hp
end
end Mine
end
section
open PySem PySem.W PyProof.Rows PySem.Calls PySem.Spec
namespace Mine
theorem stays_trans {a b c : Heap} (h : a.StaysIn b) (k : b.StaysIn c) : a.StaysIn c := fun x o e => k x o (h x o e)
/-- texts, item by item -/
inductive Txs : List Value → List Str → Prop
  | nil : Txs [] []
  | cons {x : Str} {t : Tok} {vs : List Value} {xs : List Str} : Txs vs xs → Txs (.str x t :: vs) (x :: xs)
theorem Txs.length {vs : List Value} {xs : List Str} (h : Txs vs xs) : vs.length = xs.length := by
  induction h with
  | nil => rfl
  | cons _ ih => simp [ih]
theorem Txs.at {vs : List Value} {xs : List Str} (h : Txs vs xs) : ∀ {i : Nat} {v : Value}, vs[i]? = some v → ∃ y t, v = .str y t ∧ xs[i]? = some y := by
  induction h with
  | nil => intro i v h; simp at h
  | cons _ ih =>
    intro i v h
    cases i with
    | zero => simp at h; exact ⟨_, _, h.symm, by simp⟩
    | succ i => simp at h; simpa using ih h
theorem Txs.append {vs ws : List Value} {xs ys : List Str} (h : Txs vs xs) (k : Txs ws ys) : Txs (vs ++ ws) (xs ++ ys) := by
  induction h with
  | nil => exact k
  | cons _ ih => exact ih.cons
theorem Txs.strs {vs : List Value} {xs : List Str} (h : Txs vs xs) : StrsAre vs xs := by
  induction h with
  | nil => exact .nil
  | cons _ ih => exact .cons _ _ ih
/-- a call from the law's own frame: exceptions may fly within -/
noncomputable def SpecX (w : World) (mean : ExcName → Option Value) (mg mb : Str → Option Value) (f : Addr) (args : List Value) (Pre : Heap → Prop) (Post : Heap → Heap → Value → Prop) : Prop :=
  ∀ (dp un : Nat) (gd : Option (List Code)) (cn : Str) (cs : Scope) (L a : Addr) (ccd : Value) (cl : List (Str × Addr)) (A₀ : Around) (h₀ : Heap) (m : Str → Option Value) (s : Shared) (Q E : Value → Shared → Prop),
    Below A₀ h₀ [] h₀ → Fr h₀ L s.heap m → (KK w.params).In h₀ → Top topProg LL mean mg mb h₀ → cs.kind = .function →
    dp + 40 < recursionLimit → un + 200 < cLine → Pre s.heap →
    (∀ r h' tk', Fr h₀ L h' m → (∀ news, News h₀ L s.heap news → News h₀ L h' news) → Post s.heap h' r → Q r { s with heap := h', toks := tk' }) →
    wpAny (model PySem.Challenge.rw_kt0017_01.row.prog w) (ktrTop dp un gd cn cs L a ccd cl []) (call (.ref f) args) Q E s
end Mine
end
section
open PySem PySem.W PyProof.Rows PySem.Calls PySem.Spec
namespace Mine
local macro_rules | `(tactic| k_room) => `(tactic| ktr_room)
local macro_rules | `(tactic| walk_at "M enter") => `(tactic| (k_dflt (refine' enterP ?k1 ?k2 ?k3 ?k5 ?kA ?kF ?kK ?k6 ?k7 ?k8 ?k9 ?kB ?_ ?c2 ?c3 ?c4 ?c5; (case kA => exact rfl); (case kF => exact rfl); (case kK => assumption); (case k1 => k_asm); (case k2 => k_asm); (case k3 => k_asm); (case k5 => k_asm); (case k6 => k_is); (case k7 => k_is); (case k8 => ktr_room); (case k9 => exact BindsTo.of_eq rfl); (case c5 => decide); (case kB => exact locs rfl); (case c2 => exact rfl); (case c3 => exact rfl); (case c4 => exact rfl); k_whole)))
local macro_rules | `(tactic| walk_at "M frame") => `(tactic| (intro z hz; (try dsimp only); (repeat' split) <;> first | rfl | contradiction | (exfalso; simp_all; done) | (simp_all; done)))
local macro_rules | `(tactic| walk_at "M frame0") => `(tactic| (intro z; (try dsimp only); (repeat' split) <;> first | rfl | contradiction | (exfalso; simp_all; done) | (subst_vars; first | rfl | (exfalso; simp_all (config := { decide := true }); done) | (simp (config := { decide := true }) at *; done)) | (simp_all; done)))
local macro_rules | `(tactic| walk_at "M led") => `(tactic| (intro p hp; first | exact absurd hp List.not_mem_nil | ((simp only [List.mem_cons, List.mem_append, List.not_mem_nil, or_false, false_or] at hp ⊢); ((repeat (rcases hp with hp | hp)) <;> first | (simp only [hp, true_or, or_true]; done) | (simp; done)))))
local macro_rules | `(tactic| walk_at "M mem") => `(tactic| first | (simp only [List.mem_cons, List.mem_append, List.not_mem_nil, or_false, false_or, true_or, or_true]; done) | (simp; done))
local macro_rules | `(tactic| walk_at "M enterC") => `(tactic| (k_dflt (refine' enterC ?k1 ?k2 ?k3 ?k5 ?kA ?kF ?kK ?k6 ?k7 ?k8 ?k9 ?kB ?kD ?_ ?c2 ?c3 ?c4; (case kA => exact rfl); (case kF => exact rfl); (case kK => assumption); (case k1 => k_asm); (case k2 => k_asm); (case k3 => k_asm); (case k5 => k_asm); (case k6 => k_is); (case k7 => k_is); (case k8 => ktr_room); (case k9 => exact BindsTo.of_eq rfl); (case kB => exact rfl); (case kD => decide +kernel); (case c2 => exact rfl); (case c3 => exact rfl); (case c4 => exact rfl); k_whole)))
local macro_rules | `(tactic| walk_at "M steps") => `(tactic| repeat' (first | (k_unfold; (try dsimp only)) | (k_end; wrow_close) | ((fail_if_success (with_reducible show wpAny _ _ (exec (Stmt.While _ _ _ _) _) _ _ _)); (fail_if_success (with_reducible show wpAny _ _ (exec (Stmt.For _ _ _ _ _) _) _ _ _)); first | walk1 | (dsimp only; walk1) | (leave1; walk_say "STEP leave1"; try dsimp only) | fail "no step")))
local macro_rules | `(tactic| walk_at "M ss") => `(tactic| repeat' (first | (k_unfold; (try dsimp only)) | (k_end; wrow_close) | ((fail_if_success (with_reducible show wpAny _ _ (exec (Stmt.While _ _ _ _) _) _ _ _)); (fail_if_success (with_reducible show wpAny _ _ (exec (Stmt.For _ _ _ _ _) _) _ _ _)); (fail_if_success (with_reducible show wpAny _ _ (subscriptTail _ _ (Value.ref _) _) _ _ _)); (fail_if_success (with_reducible show wpAny _ _ (callWith _ (Value.ref _) _ _ _) _ _ _)); (fail_if_success (with_reducible show wpAny _ _ (truthy (Value.ref _)) _ _ _)); first | walk1 | (dsimp only; walk1) | (leave1; walk_say "STEP leave1"; try dsimp only) | fail "no step")))
local macro_rules | `(tactic| walk_at "M halt") => `(tactic| repeat' (first | (k_unfold; (try dsimp only)) | (k_end; wrow_close) | ((fail_if_success (with_reducible show wpAny _ _ (exec (Stmt.While _ _ _ _) _) _ _ _)); (fail_if_success (with_reducible show wpAny _ _ (call (Value.ref _) _) _ _ _)); (fail_if_success (with_reducible show wpAny _ _ (subscriptTail _ _ (Value.str _ _) (Value.int _ _)) _ _ _)); (fail_if_success (with_reducible show wpAny _ _ (exec (Stmt.For _ _ _ _ _) _) _ _ _)); first | walk1 | (dsimp only; walk1) | (leave1; walk_say "STEP leave1"; try dsimp only) | fail "no step")))
local macro_rules | `(tactic| walk_at "M hs") => `(tactic| repeat' (first | (k_unfold; (try dsimp only)) | (k_end; wrow_close) | ((fail_if_success (with_reducible show wpAny _ _ (exec (Stmt.While _ _ _ _) _) _ _ _)); (fail_if_success (with_reducible show wpAny _ _ (call (Value.ref _) _) _ _ _)); (fail_if_success (with_reducible show wpAny _ _ (subscriptTail _ _ (Value.str _ _) (Value.int _ _)) _ _ _)); (fail_if_success (with_reducible show wpAny _ _ (exec (Stmt.For _ _ _ _ _) _) _ _ _)); (fail_if_success (with_reducible show wpAny _ _ (subscriptTail _ _ (Value.ref _) _) _ _ _)); (fail_if_success (with_reducible show wpAny _ _ (callWith _ (Value.ref _) _ _ _) _ _ _)); (fail_if_success (with_reducible show wpAny _ _ (truthy (Value.ref _)) _ _ _)); first | walk1 | (dsimp only; walk1) | (leave1; walk_say "STEP leave1"; try dsimp only) | fail "no step")))

/-- what the scan answers -/
noncomputable def goesF (x : Str) : List Str → Int → Bool
  | [], _ => true
  | y :: r, p => if Txt.find3 x y p + 1 = 0 then false else goesF x r (Txt.find3 x y p + 1)

theorem goes_turn {x y : Str} {xs : List Str} {i : Nat} {p : Int} (h : xs[i]? = some y) : goesF x (xs.drop i) p = if Txt.find3 x y p + 1 = 0 then false else goesF x (xs.drop (i + 1)) (Txt.find3 x y p + 1) := by
  rw [List.drop_eq_getElem_cons (i := i) (by exact (List.getElem?_eq_some_iff.mp h).1)]
  have : xs[i]'((List.getElem?_eq_some_iff.mp h).1) = y := (List.getElem?_eq_some_iff.mp h).2
  rw [this]; rfl

set_option maxRecDepth 100000 in
set_option maxHeartbeats 8000000 in
theorem goes_spec (w : World) (mean : ExcName → Option Value) (mg mb : Str → Option Value) (sl : Addr) (vs : List Value) (xs : List Str) (x : Str) (t : Tok) (hx : Txs vs xs) :
    Spec w mean mg mb 139 [.ref sl, .str x t] (fun h => h.IsList sl vs.toArray) (fun _ _ r => r = .bool (goesF x xs 0)) := by
  unfold Spec
  k_fill
  intro dp un gd cn cs L a ccd cl outer A₀ base h₀ m s Q E B F X T hk hd hu hpre hret
  walk_at "M enter"
  intro L' h₁ Q' hQr hQn F' N' B' X' T'
  clear F B X T
  replace F' : Fr s.heap L' h₁ (fun y => List.lookup y [((Str.ofString "name"), .str x t), ((Str.ofString "signs"), .ref sl)]) := F'
  try dsimp only
  k_steps
  (rename Fr _ _ _ _ => F9); (rename News _ _ _ _ => N9)
  refine' for_list (σ := Int × Tok) (fun c y => if y = (Str.ofString "place") then some (.int c.1 c.2) else List.lookup y [((Str.ofString "name"), .str x t), ((Str.ofString "signs"), .ref sl)]) (fun _ => []) (fun i c => goesF x xs 0 = goesF x (xs.drop i) c.1) (0, _) ?h1 (.inl hpre) F9 ?h3 ?h4 N9 ?h6 ?h7 ?h8 ?h9 ?h10 ?h11 ?h12
  case h4 => intro _ _; dsimp only; exact rfl
  case h1 => exact rfl
  case h3 => exact ld F9 rfl ⟨rfl, rfl⟩
  case h6 => exact rfl
  case h7 => exact fun _ _ h => nomatch h
  case h8 => exact rfl
  case h9 => exact rfl
  case h10 => passes_own
  case h11 =>
    intro i v c h tk I it Q'' hvi hP F2 N2 hr hb hn
    obtain ⟨y, ty, rfl, hy⟩ := hx.at hvi
    have ht := goes_turn (p := c.1) (x := x) hy
    clear F9 N9
    k_steps
    · rename Txt.find3 _ _ _ + 1 = 0 => hz
      (rename Fr _ _ _ _ => F9); (rename News _ _ _ _ => N9)
      refine hr _ _ (hQr _ _ (hret _ _ _ F9.keep ?_))
      dsimp only
      rw [hP, ht, if_pos hz]
    · rename Txt.find3 _ _ _ + 1 ≠ 0 => hz
      (rename Fr _ _ _ _ => F9); (rename News _ _ _ _ => N9)
      refine hn .next (Txt.find3 x y c.1 + 1, _) _ _ _ _ (.inl rfl) F9 N9 (by walk_at "M frame") (by walk_at "M led") (by walk_at "M mem") ?_
      dsimp only
      rw [hP, ht, if_neg hz]
  case h12 =>
    intro c u h tk hP F2 N2
    clear F9 N9
    k_steps
    (rename Fr _ _ _ _ => F9); (rename News _ _ _ _ => N9)
    refine (hQr _ _ (hret _ _ _ F9.keep ?_))
    dsimp only
    rw [hP, hx.length, List.drop_length]; rfl
end Mine
end
section
open PySem PySem.W PyProof.Rows PySem.Calls PySem.Spec
namespace Mine
section
variable {prog : Program} {w : World} {A : Around} {E : Value → Shared → Prop} {R : Result → Shared → Prop} {s : Shared}

theorem wp_noE {α : Type} {M : Model} {A : Around} {t : Sem α} {Q : α → Shared → Prop} {s : Shared} {E : Value → Shared → Prop} (h : wpAny M A t Q (fun _ _ => False) s) : wpAny M A t Q E s :=
  wpAny_mono h (fun _ _ q => q) fun _ _ f => f.elim

noncomputable abbrev comp2 (elt : Expr) (x : Str) (px : Pos) (iter : Expr) (y : Str) (py : Pos) (iter2 : Expr) (scope : Scope) (pos : Pos) : Expr :=
  .ListComp elt [⟨.Name x px, iter, [], 0⟩, ⟨.Name y py, iter2, [], 0⟩] scope pos

theorem compTurn_in (elt iter iter2 : Expr) (x y : Str) (px py : Pos) (scope : Scope) (pos : Pos) (it acc : Value) (env : Env) :
    compTurn (comp2 elt x px iter y py iter2 scope pos) 1 it acc env = (standAt iter2.pos >>= fun _ => pyNext it >>= fun r => match r with
      | none => pure (.done .next)
      | some v => letOwnedTupleGo (.Name y py) it v >>= fun _ => assign (.Name y py) env v >>= fun _ =>
        (eval elt env >>= fun x => call (.builtin "list.append") [acc, x] >>= fun _ => pure ()) >>= fun _ =>
          again (.compLoop (comp2 elt x px iter y py iter2 scope pos) 1 it acc env)) := by rfl

theorem comp2_in {elt iter iter2 : Expr} {x y : Str} {px py : Pos} {scope : Scope} {pos : Pos} {I₂ ll D : Addr} {us : List Value} {ys₀ : Array Value} {cenv : Env} {m : Str → Option Value} (F : Value → Value → Prop)
    (hh : A.handled = none) (hy : cenv.kindOf y = some .local) (hp : (cenv.scope.kind == .class || (cenv.scope.kind == .module && cenv.locals != cenv.globals)) = false) (hyx : x ≠ y)
    (hDC : D ≠ cenv.locals) (hID : I₂ ≠ D) (hIC : I₂ ≠ cenv.locals) (hlI : ll ≠ I₂) (hlD : ll ≠ D) (hlC : ll ≠ cenv.locals)
    (hst : s.heap.IsListIter I₂ ll 0) (hlst : s.heap.IsList ll us.toArray) (hacc : s.heap.PlainList D ys₀) (hn : s.heap.Ns cenv.locals m)
    (helt : ∀ u s₂ m₂, u ∈ us → s₂.heap.Ns cenv.locals m₂ → m₂ y = some u → m₂ x = m x → (∀ b o, b ≠ cenv.locals → b ≠ I₂ → b ≠ D → s.heap.get? b = some o → s₂.heap.get? b = some o) →
      wpAny (model prog w) A (eval elt cenv) (fun z s₃ => F u z ∧ Keeps s₂ s₃) (fun _ _ => False) s₂)
    (hsz : ys₀.size + us.length ≤ sizeLine)
    (hR : ∀ h' tk m' (zs : List Value), h'.Ns cenv.locals m' → m' x = m x → h'.PlainList D (ys₀ ++ zs.toArray) → Paired F us zs → (∀ b o, b ≠ cenv.locals → b ≠ I₂ → b ≠ D → s.heap.get? b = some o → h'.get? b = some o) →
      R (.ok .next) { s with heap := h', toks := tk }) :
    codeAny (model prog w) A (.compLoop (comp2 elt x px iter y py iter2 scope pos) 1 (.ref I₂) (.ref D) cenv) R s := by
  have W := Walks.list (prog := prog) (w := w) hh I₂ ll hlI us.toArray
  refine codeAny_loop rfl (fun k s' => ∃ h' tk m' zs i, s' = { s with heap := h', toks := tk } ∧ h'.IsListIter I₂ ll i ∧ h'.IsList ll us.toArray ∧ h'.PlainList D (ys₀ ++ (zs : List Value).toArray) ∧ h'.Ns cenv.locals m' ∧ m' x = m x ∧
      Paired F (us.take i) zs ∧ i ≤ us.length ∧ k = us.length + 1 - i ∧ (∀ b o, b ≠ cenv.locals → b ≠ I₂ → b ≠ D → s.heap.get? b = some o → h'.get? b = some o)) (fun k s' hI => ?_) (us.length + 1)
    ⟨s.heap, s.toks, m, [], 0, rfl, hst, hlst, by simpa using hacc, hn, rfl, by simpa using Paired.nil, Nat.zero_le _, rfl, fun _ _ _ _ _ e => e⟩
  obtain ⟨H, tk, m', zs, i, rfl, hit, hl', hD', hn', hmx, hF, hi, rfl, hk⟩ := hI
  show wpAny _ A ((compTurn (comp2 elt x px iter y py iter2 scope pos) 1 (.ref I₂) (.ref D) cenv).onRaise (fun x => do noteFrame x cenv; theTreesLotGoes x)) _ _ _
  refine wpAny_noted (wp_noE ?_)
  rw [compTurn_in]
  refine wpAny_bind (wpAny_standAt (wpAny_bind ?_))
  by_cases hlt : i < us.length
  · refine W.item i _ _ _ (by simpa using hlt) ⟨hit, hl'⟩ fun v h₁ tk₁ hPv hst₁ hk₁ => ?_
    have hvi : us[i]? = some v := by simpa using hPv
    refine wpAny_bind (wpAny_of_eq (show letOwnedTupleGo (.Name y py) (.ref I₂) v = pure () from rfl) ?_)
    have hn₁ : h₁.Ns cenv.locals m' := hn'.at' fun o e => hk₁ _ o (by simp [Ne.symm hIC]) e
    refine wpAny_bind (wpAny_assign_Name (wpAny_storeName_local hy hn₁ (fun h₂ hn₂ hs₂ => ?_) hp))
    have up : ∀ b o, b ≠ cenv.locals → b ≠ I₂ → H.get? b = some o → h₂.get? b = some o := fun b o hbC hbI e => hs₂.extBut b o hbC (hk₁ b o (by simpa using hbI) e)
    refine wpAny_bind (wpAny_bind (wpAny_mono (helt v _ _ (List.mem_of_getElem? hvi) hn₂ (by simp) (by simp [hyx, hmx]) fun b o hbC hbI hbD e => up b o hbC hbI (hk b o hbC hbI hbD e)) (fun z s₃ hz => ?_) fun _ _ f => f))
    obtain ⟨hFz, h₃, tk₃, rfl, hk₃⟩ := hz
    have hD₃ : h₃.PlainList D (ys₀ ++ zs.toArray) := by
      obtain ⟨nn, ho⟩ := hD'
      exact ⟨nn, hk₃ _ _ (up D _ hDC (Ne.symm hID) ho)⟩
    have hlen := hF.length
    have hzs : (ys₀ ++ zs.toArray).size ≤ sizeLine := by
      simp only [Array.size_append, List.size_toArray]
      simp only [List.length_take] at hlen
      omega
    refine wpAny_bind (wpAny_list_append_plain (hsz := hzs) hD₃ fun h₄ hD₄ hs₄ => wpAny_pure ?_)
    have hit₁ := hst₁.1
    have hit₃ : h₃.IsListIter I₂ ll (i + 1) := hit₁.at fun o e => hk₃ _ _ (hs₂.extBut _ _ hIC e)
    have hl₃ : h₃.IsList ll us.toArray := hl'.at fun o e => hk₃ _ _ (up ll o hlC hlI e)
    have hts : us.take (i + 1) = us.take i ++ [v] := by rw [List.take_add_one, hvi]; rfl
    refine wpAny_pure ⟨rfl, us.length + 1 - (i + 1), by omega, h₄, tk₃, _, zs ++ [z], i + 1, rfl, hit₃.at fun o e => hs₄.extBut _ _ hID e, hl₃.at fun o e => hs₄.extBut _ _ hlD e, by simpa using hD₄, (hn₂.keeps hk₃).sameBut hs₄ (Ne.symm hDC), by simp [hyx, hmx], ?_, hlt, rfl, ?_⟩
    · rw [hts]; exact hF.snoc hFz
    · exact fun b o hbC hbI hbD e => hs₄.extBut b o hbD (hk₃ b o (up b o hbC hbI (hk b o hbC hbI hbD e)))
  · have hie : i = us.length := by omega
    subst hie
    refine W.done _ _ _ (by simpa using ⟨hit, hl'⟩) fun h₁ tk₁ hk₁ => wpAny_pure ?_
    have k₁ : ∀ b o, b ≠ I₂ → H.get? b = some o → h₁.get? b = some o := fun b o hb e => hk₁ b o (by simpa using hb) e
    refine hR h₁ tk₁ m' zs (hn'.at' fun o e => k₁ _ o (Ne.symm hIC) e) hmx ?_ (by simpa using hF) fun b o hbC hbI hbD e => k₁ b o hbI (hk b o hbC hbI hbD e)
    obtain ⟨nn, ho⟩ := hD'
    exact ⟨nn, k₁ _ _ (Ne.symm hID) ho⟩

theorem codeAny_compStart_in {elt iter iter2 : Expr} {x y : Str} {px py : Pos} {scope : Scope} {pos : Pos} {it acc : Value} {env : Env}
    (h0 : codeAny (model prog w) A (.compLoop (comp2 elt x px iter y py iter2 scope pos) 1 it acc env) R s)
    (h : wpAny (model prog w) A (pyIter it) (fun it' s' => codeAny (model prog w) A (.compLoop (comp2 elt x px iter y py iter2 scope pos) 1 it' acc env) R s')
      (notedBy (model prog w) A env fun x s' => R (.error x) s') s) :
    codeAny (model prog w) A (.compStart (comp2 elt x px iter y py iter2 scope pos) 1 it acc env) R s := by
  refine codeAny_of_tree ?_
  show wpAny _ _ ((compStart (comp2 elt x px iter y py iter2 scope pos) 1 it acc env).onRaise (fun x => do noteFrame x env; standAt theWindowsPlace)) _ _ s
  refine wpAny_notedAt ?_
  unfold compStart
  show wpAny _ _ (ask >>= _) _ _ s
  refine wpAny_bind (wpAny_askSetting (wpAny_ite ?_))
  split
  · first
      | exact wpAny_bind (wpAny_pure (wpAny_pure (And.intro rfl h0)))
      | exact wpAny_pure (And.intro rfl h0)
  · first
      | exact wpAny_bind (wpAny_rule (wpAny_bind (wpAny_standAt (wpAny_bind (wpAny_mono h (fun it' s' h' => wpAny_pure (And.intro rfl h')) fun _ _ x => x)))))
      | (refine wpAny_bind (wpAny_rule ?_); show wpAny _ _ (standAt iter2.pos >>= _) _ _ s; exact wpAny_bind (wpAny_standAt (wpAny_bind (wpAny_mono h (fun it' s' h' => wpAny_pure (And.intro rfl h')) fun _ _ x => x))))

theorem compTurn_out (elt iter iter2 : Expr) (x y : Str) (px py : Pos) (scope : Scope) (pos : Pos) (it acc : Value) (env : Env) :
    compTurn (comp2 elt x px iter y py iter2 scope pos) 0 it acc env = (standAt iter.pos >>= fun _ => pyNext it >>= fun r => match r with
      | none => pure (.done .next)
      | some v => letOwnedTupleGo (.Name x px) it v >>= fun _ => assign (.Name x px) env v >>= fun _ =>
        eval iter2 env >>= fun xv => standAt iter2.pos >>= fun _ => foldedSetIterable iter2 env xv >>= fun xv => holding [xv] (pyIter xv) >>= fun it2 => runOwn (.compStart (comp2 elt x px iter y py iter2 scope pos) 1 it2 acc env) env >>= fun _ =>
          again (.compLoop (comp2 elt x px iter y py iter2 scope pos) 0 it acc env)) := by rfl

/-- the pairs' values, row by row -/
noncomputable def Rows2 (F : Value → Value → Value → Prop) (us : List Value) : List Value → List Value → Prop
  | [], ys => ys = []
  | v :: r, ys => ∃ zs rest, ys = zs ++ rest ∧ Paired (F v) us zs ∧ Rows2 F us r rest
theorem Rows2.snoc {F : Value → Value → Value → Prop} {us : List Value} {v : Value} {zs : List Value} (k : Paired (F v) us zs) : ∀ {vs ys : List Value}, Rows2 F us vs ys → Rows2 F us (vs ++ [v]) (ys ++ zs)
  | [], ys, h => by
    have h : ys = [] := h
    subst h
    exact ⟨zs, [], by simp, k, rfl⟩
  | u :: r, ys, h => by
    obtain ⟨z, rest, rfl, h1, h2⟩ := h
    exact ⟨z, rest ++ zs, by simp, h1, Rows2.snoc k h2⟩
theorem Rows2.length {F : Value → Value → Value → Prop} {us : List Value} : ∀ {vs ys : List Value}, Rows2 F us vs ys → ys.length = vs.length * us.length
  | [], ys, h => by
    have h : ys = [] := h
    subst h; simp
  | u :: r, ys, h => by
    obtain ⟨z, rest, rfl, h1, h2⟩ := h
    have := h1.length
    have := Rows2.length h2
    simp only [List.length_append, List.length_cons, Nat.succ_mul]
    omega

theorem comp2_out {elt iter iter2 : Expr} {x y : Str} {px py : Pos} {scope : Scope} {pos : Pos} {I wl ll D : Addr} {vs us : List Value} {cenv : Env} {m : Str → Option Value} (F : Value → Value → Value → Prop)
    (hh : A.handled = none) (hx : cenv.kindOf x = some .local) (hy : cenv.kindOf y = some .local) (hp : (cenv.scope.kind == .class || (cenv.scope.kind == .module && cenv.locals != cenv.globals)) = false) (hyx : x ≠ y)
    (hs2 : ∀ v, foldedSetIterable iter2 cenv v = pure v)
    (hDC : D ≠ cenv.locals) (hID : I ≠ D) (hIC : I ≠ cenv.locals) (hwI : wl ≠ I) (hwD : wl ≠ D) (hwC : wl ≠ cenv.locals) (hlI : ll ≠ I) (hlD : ll ≠ D) (hlC : ll ≠ cenv.locals)
    (hst : s.heap.IsListIter I wl 0) (hlst : s.heap.IsList wl vs.toArray) (hll : s.heap.IsList ll us.toArray) (hacc : s.heap.PlainList D #[]) (hn : s.heap.Ns cenv.locals m)
    (hit2 : ∀ s₂ m₂, s₂.heap.Ns cenv.locals m₂ → (∀ b o, b ≠ cenv.locals → b ≠ I → b ≠ D → s.heap.get? b = some o → s₂.heap.get? b = some o) →
      wpAny (model prog w) A (eval iter2 cenv) (fun z s₃ => z = .ref ll ∧ s₃ = s₂) (fun _ _ => False) s₂)
    (helt : ∀ v u s₂ m₂, v ∈ vs → u ∈ us → s₂.heap.Ns cenv.locals m₂ → m₂ x = some v → m₂ y = some u → (∀ b o, b ≠ cenv.locals → b ≠ I → b ≠ D → s.heap.get? b = some o → s₂.heap.get? b = some o) →
      wpAny (model prog w) A (eval elt cenv) (fun z s₃ => F v u z ∧ Keeps s₂ s₃) (fun _ _ => False) s₂)
    (hsz : vs.length * us.length ≤ sizeLine)
    (hR : ∀ h' tk m' (ys : List Value), h'.Ns cenv.locals m' → h'.PlainList D ys.toArray → Rows2 F us vs ys → (∀ b o, b ≠ cenv.locals → b ≠ I → b ≠ D → s.heap.get? b = some o → h'.get? b = some o) →
      R (.ok .next) { s with heap := h', toks := tk }) :
    codeAny (model prog w) A (.compLoop (comp2 elt x px iter y py iter2 scope pos) 0 (.ref I) (.ref D) cenv) R s := by
  have W := Walks.list (prog := prog) (w := w) hh I wl hwI vs.toArray
  refine codeAny_loop rfl (fun k s' => ∃ h' tk m' ys i, s' = { s with heap := h', toks := tk } ∧ h'.IsListIter I wl i ∧ h'.IsList wl vs.toArray ∧ h'.IsList ll us.toArray ∧ h'.PlainList D (ys : List Value).toArray ∧ h'.Ns cenv.locals m' ∧
      Rows2 F us (vs.take i) ys ∧ i ≤ vs.length ∧ k = vs.length + 1 - i ∧ (∀ b o, b ≠ cenv.locals → b ≠ I → b ≠ D → s.heap.get? b = some o → h'.get? b = some o)) (fun k s' hI => ?_) (vs.length + 1)
    ⟨s.heap, s.toks, m, [], 0, rfl, hst, hlst, hll, by simpa using hacc, hn, rfl, Nat.zero_le _, rfl, fun _ _ _ _ _ e => e⟩
  obtain ⟨H, tk, m', ys, i, rfl, hit, hl', hll', hD', hn', hF, hi, rfl, hk⟩ := hI
  show wpAny _ A ((compTurn (comp2 elt x px iter y py iter2 scope pos) 0 (.ref I) (.ref D) cenv).onRaise (fun x => do noteFrame x cenv; theTreesLotGoes x)) _ _ _
  refine wpAny_noted (wp_noE ?_)
  rw [compTurn_out]
  refine wpAny_bind (wpAny_standAt (wpAny_bind ?_))
  by_cases hlt : i < vs.length
  · refine W.item i _ _ _ (by simpa using hlt) ⟨hit, hl'⟩ fun v h₁ tk₁ hPv hst₁ hk₁ => ?_
    have hvi : vs[i]? = some v := by simpa using hPv
    refine wpAny_bind (wpAny_of_eq (show letOwnedTupleGo (.Name x px) (.ref I) v = pure () from rfl) ?_)
    have hn₁ : h₁.Ns cenv.locals m' := hn'.at' fun o e => hk₁ _ o (by simp [Ne.symm hIC]) e
    refine wpAny_bind (wpAny_assign_Name (wpAny_storeName_local hx hn₁ (fun h₂ hn₂ hs₂ => ?_) hp))
    have up : ∀ b o, b ≠ cenv.locals → b ≠ I → H.get? b = some o → h₂.get? b = some o := fun b o hbC hbI e => hs₂.extBut b o hbC (hk₁ b o (by simpa using hbI) e)
    have base₂ : ∀ b o, b ≠ cenv.locals → b ≠ I → b ≠ D → s.heap.get? b = some o → h₂.get? b = some o := fun b o hbC hbI hbD e => up b o hbC hbI (hk b o hbC hbI hbD e)
    refine wpAny_bind (wpAny_mono (hit2 _ _ hn₂ base₂) (fun z s₃ hz => ?_) fun _ _ f => f)
    obtain ⟨rfl, rfl⟩ := hz
    refine wpAny_bind (wpAny_standAt (wpAny_bind (wpAny_of_eq (hs2 _) ?_)))
    have hll₂ : h₂.IsList ll us.toArray := hll'.at fun o e => up ll o hlC hlI e
    obtain ⟨oll, holl, _⟩ := id hll₂
    refine wpAny_bind (wpAny_holding (wpAny_pyIter_list hll₂ ?_))
    have hit₁ := hst₁.1
    have hit₂ : h₂.IsListIter I wl (i + 1) := hit₁.at fun o e => hs₂.extBut _ _ hIC e
    have hl₂ : h₂.IsList wl vs.toArray := hl'.at fun o e => up wl o hwC hwI e
    obtain ⟨nD, hoD⟩ := hD'
    have hoD₂ := up D _ hDC (Ne.symm hID) hoD
    obtain ⟨oC, eC, pC, hoC, hrestC⟩ := id hn₂
    have hDlt : D < h₂.objs.size := Heap.lt_size hoD₂
    have hClt : cenv.locals < h₂.objs.size := Heap.lt_size hoC
    have hllt : ll < h₂.objs.size := Heap.lt_size holl
    obtain ⟨oI, hoI, _⟩ := id hit₂
    have hIlt : I < h₂.objs.size := Heap.lt_size hoI
    obtain ⟨ow, how, _⟩ := id hl₂
    have hwlt : wl < h₂.objs.size := Heap.lt_size how
    have pushed : ∀ {o' : Obj} b o, h₂.get? b = some o → (h₂.push o').get? b = some o := fun b o e => Heap.get?_push_of_some _ e
    refine wpAny_bind (wpAny_runOwn ?_)
    have hlen := hF.length
    have hts : vs.take (i + 1) = vs.take i ++ [v] := by rw [List.take_add_one, hvi]; rfl
    have hszi : ys.toArray.size + us.length ≤ sizeLine := by
      simp only [List.size_toArray]
      simp only [List.length_take] at hlen
      rw [Nat.min_eq_left (Nat.le_of_lt hlt)] at hlen
      have h3 : (i + 1) * us.length ≤ vs.length * us.length := Nat.mul_le_mul_right _ hlt
      rw [Nat.succ_mul] at h3
      omega
    have inner : ∀ (R' : Result → Shared → Prop), (∀ h' tk m' (zs : List Value), h'.Ns cenv.locals m' → h'.PlainList D (ys.toArray ++ zs.toArray) → Paired (F v) us zs → (∀ b o, b ≠ cenv.locals → b ≠ h₂.objs.size → b ≠ D → (h₂.push { cls := .type "list_iterator", data := .fields #[.ref ll, .int 0 0] }).get? b = some o → h'.get? b = some o) →
        R' (.ok .next) { s with heap := h', toks := tk }) → codeAny (model prog w) A (.compLoop (comp2 elt x px iter y py iter2 scope pos) 1 (.ref h₂.objs.size) (.ref D) cenv) R' { s with heap := h₂.push { cls := .type "list_iterator", data := .fields #[.ref ll, .int 0 0] }, toks := tk₁ + 1 } := by
      intro R' hR'
      refine comp2_in (F v) hh hy hp hyx hDC (Nat.ne_of_gt hDlt) (Nat.ne_of_gt hClt) (Nat.ne_of_lt hllt) hlD hlC ⟨_, Heap.get?_push_size _ rfl, rfl, rfl⟩ (hll₂.at fun o e => pushed _ _ e) ⟨nD, pushed _ _ hoD₂⟩ (hn₂.at' fun o e => pushed _ _ e) ?_ hszi ?_
      · intro u s₄ m₄ hu hn₄ hmy hmx hk₄
        exact helt v u s₄ m₄ (List.mem_of_getElem? hvi) hu hn₄ (by rw [hmx]; simp) hmy fun b o hbC hbI hbD e => hk₄ b o hbC (Nat.ne_of_lt (Heap.lt_size (base₂ b o hbC hbI hbD e))) hbD (pushed _ _ (base₂ b o hbC hbI hbD e))
      · intro h' tk m' zs hn₄ _ hD₄ hP hk₄
        exact hR' h' tk m' zs hn₄ hD₄ hP hk₄
    have fin : ∀ h' tk m' (zs : List Value), h'.Ns cenv.locals m' → h'.PlainList D (ys.toArray ++ zs.toArray) → Paired (F v) us zs → (∀ b o, b ≠ cenv.locals → b ≠ h₂.objs.size → b ≠ D → (h₂.push { cls := .type "list_iterator", data := .fields #[.ref ll, .int 0 0] }).get? b = some o → h'.get? b = some o) →
        wpAny (model prog w) A (again (.compLoop (comp2 elt x px iter y py iter2 scope pos) 0 (.ref I) (.ref D) cenv)) (fun fin s' => match fin with
          | .done f => R (.ok f) s'
          | .again c' => c' = .compLoop (comp2 elt x px iter y py iter2 scope pos) 0 (.ref I) (.ref D) cenv ∧ ∃ m, m < vs.length + 1 - i ∧ ∃ h' tk m' ys i, s' = { s with heap := h', toks := tk } ∧ h'.IsListIter I wl i ∧ h'.IsList wl vs.toArray ∧ h'.IsList ll us.toArray ∧ h'.PlainList D (ys : List Value).toArray ∧ h'.Ns cenv.locals m' ∧
            Rows2 F us (vs.take i) ys ∧ i ≤ vs.length ∧ m = vs.length + 1 - i ∧ (∀ b o, b ≠ cenv.locals → b ≠ I → b ≠ D → s.heap.get? b = some o → h'.get? b = some o)) (fun _ _ => False) { s with heap := h', toks := tk } := by
      intro h' tk₄ m' zs hn₄ hD₄ hP hk₄
      have k₄ : ∀ b o, b ≠ cenv.locals → b ≠ D → h₂.get? b = some o → h'.get? b = some o := fun b o hbC hbD e => hk₄ b o hbC (Nat.ne_of_lt (Heap.lt_size e)) hbD (pushed _ _ e)
      refine wpAny_pure ⟨rfl, vs.length + 1 - (i + 1), by omega, h', tk₄, m', ys ++ zs, i + 1, rfl, hit₂.at fun o e => k₄ _ _ hIC hID e, hl₂.at fun o e => k₄ _ _ hwC hwD e, hll₂.at fun o e => k₄ _ _ hlC hlD e, by simpa using hD₄, hn₄, ?_, hlt, rfl, fun b o hbC hbI hbD e => k₄ b o hbC hbD (base₂ b o hbC hbI hbD e)⟩
      rw [hts]; exact hF.snoc hP
    exact codeAny_compStart_in (inner _ fin) (wp_noE (wpAny_pyIter_listiter ⟨_, Heap.get?_push_size _ rfl, rfl, rfl⟩ (inner _ fin)))
  · have hie : i = vs.length := by omega
    subst hie
    refine W.done _ _ _ (by simpa using ⟨hit, hl'⟩) fun h₁ tk₁ hk₁ => wpAny_pure ?_
    have k₁ : ∀ b o, b ≠ I → H.get? b = some o → h₁.get? b = some o := fun b o hb e => hk₁ b o (by simpa using hb) e
    refine hR h₁ tk₁ m' ys (hn'.at' fun o e => k₁ _ o (Ne.symm hIC) e) ?_ (by simpa using hF) fun b o hbC hbI hbD e => k₁ b o hbI (hk b o hbC hbI hbD e)
    obtain ⟨nn, ho⟩ := hD'
    exact ⟨nn, k₁ _ _ (Ne.symm hID) ho⟩
end
section
variable {prog : Program} {w : World} {A : Around} {E : Value → Shared → Prop} {env : Env}
theorem comp2_block {elt iter iter2 : Expr} {x y : Str} {px py : Pos} {scope : Scope} {cl : List (Str × Addr)} {pos : Pos} {s₂ : Shared} {I wl ll : Addr} {vs us : List Value} (F : Value → Value → Value → Prop) {RR : Value → Addr → Result → Shared → Prop}
    (hh : A.handled = none) (hcell : ∀ z ∈ scope.names, z.2 ≠ .cell) (hkind : scope.kind = .function) (hx : scope.names.lookup x = some .local) (hy : scope.names.lookup y = some .local) (hyx : x ≠ y)
    (hs2 : ∀ C v, foldedSetIterable iter2 (compEnvC scope cl C env) v = pure v)
    (hwI : wl ≠ I) (hlI : ll ≠ I) (hst : s₂.heap.IsListIter I wl 0) (hlst : s₂.heap.IsList wl vs.toArray) (hll : s₂.heap.IsList ll us.toArray)
    (hit2 : ∀ C s₃ m₃, s₂.heap.objs.size ≤ C → s₃.heap.Ns C m₃ → (∀ b o, b ≠ I → s₂.heap.get? b = some o → s₃.heap.get? b = some o) →
      wpAny (model prog w) A (eval iter2 (compEnvC scope cl C env)) (fun z s₄ => z = .ref ll ∧ s₄ = s₃) (fun _ _ => False) s₃)
    (helt : ∀ C v u s₃ m₃, s₂.heap.objs.size ≤ C → v ∈ vs → u ∈ us → s₃.heap.Ns C m₃ → m₃ x = some v → m₃ y = some u → (∀ b o, b ≠ I → s₂.heap.get? b = some o → s₃.heap.get? b = some o) →
      wpAny (model prog w) A (eval elt (compEnvC scope cl C env)) (fun z s₄ => F v u z ∧ Keeps s₃ s₄) (fun _ _ => False) s₃)
    (hsz : vs.length * us.length ≤ sizeLine)
    (hRR : ∀ D C h' tk m' (ys : List Value), s₂.heap.get? D = none → s₂.heap.get? C = none → D ≠ C → h'.Ns C m' → h'.PlainList D ys.toArray → Rows2 F us vs ys →
      (∀ b o, b ≠ I → s₂.heap.get? b = some o → h'.get? b = some o) → RR (.ref D) C (.ok .next) { s₂ with heap := h', toks := tk }) :
    wpAny (model prog w) A (newList []) (fun acc s₃ => wpAny (model prog w) A (newFunctionEnv scope env.globals cl [] env.qual none .none (some env)) (fun cenv s₄ =>
      codeAny (model prog w) A (.compStart (comp2 elt x px iter y py iter2 scope pos) 0 (.ref I) acc { cenv with scope := relabel scope env }) (RR acc cenv.locals) s₄) E s₃) E s₂ := by
  refine wpAny_newObj_type (wpAny_newFunctionEnv hcell (by intro y hy; simp at hy) (fun h₁ hns₁ hsb₁ => ?_) hkind)
  dsimp only at hns₁ hsb₁ ⊢
  generalize hH2 : s₂.heap.push { cls := .type "list", dict := none, data := .seq ([] : List Value).toArray } = H2 at hns₁ hsb₁ ⊢
  have hC : H2.objs.size = s₂.heap.objs.size + 1 := by rw [← hH2, Heap.size_push]
  have hDC : s₂.heap.objs.size ≠ H2.objs.size := by rw [hC]; exact Nat.ne_of_lt (Nat.lt_succ_self _)
  have hCle : s₂.heap.objs.size ≤ H2.objs.size := by rw [hC]; exact Nat.le_succ _
  have below : ∀ b, b < s₂.heap.objs.size → b ≠ H2.objs.size ∧ b ≠ s₂.heap.objs.size := fun b hb => ⟨by rw [hC]; exact Nat.ne_of_lt (Nat.lt_succ_of_lt hb), Nat.ne_of_lt hb⟩
  have lt_of : ∀ {b o}, s₂.heap.get? b = some o → b < s₂.heap.objs.size := fun e => Heap.lt_size e
  have old : ∀ b o, s₂.heap.get? b = some o → h₁.get? b = some o := fun b o e => hsb₁.extBut b o (below b (Heap.lt_size e)).1 (Heap.get?_push_of_some _ (hH2 ▸ Heap.get?_push_of_some _ e))
  have hacc : h₁.PlainList s₂.heap.objs.size #[] := ⟨_, hsb₁.extBut _ _ hDC (Heap.get?_push_of_some _ (hH2 ▸ Heap.get?_push_size _ rfl))⟩
  have fresh : ∀ a, s₂.heap.objs.size ≤ a → s₂.heap.get? a = none := fun a ha => by
    cases e : s₂.heap.get? a with
    | none => rfl
    | some o' => exact absurd (Heap.lt_size e) (Nat.not_lt.mpr ha)
  obtain ⟨oI, hoI, _⟩ := id hst
  obtain ⟨ow, how, _⟩ := id hlst
  obtain ⟨ol, hol, _⟩ := id hll
  have up : ∀ {h' : Heap}, (∀ b o, b ≠ H2.objs.size → b ≠ I → b ≠ s₂.heap.objs.size → h₁.get? b = some o → h'.get? b = some o) → ∀ b o, b ≠ I → s₂.heap.get? b = some o → h'.get? b = some o :=
    fun hk b o hbI e => hk b o (below b (Heap.lt_size e)).1 hbI (below b (Heap.lt_size e)).2 (old b o e)
  have loop : codeAny (model prog w) A (.compLoop (comp2 elt x px iter y py iter2 scope pos) 0 (.ref I) (.ref s₂.heap.objs.size) (compEnvC scope cl H2.objs.size env))
        (RR (.ref s₂.heap.objs.size) H2.objs.size) { s₂ with heap := h₁, toks := s₂.toks + ([] : List (Str × Value)).length } := by
    refine comp2_out (cenv := compEnvC scope cl H2.objs.size env) F hh (lookup_relabel_local hx) (lookup_relabel_local hy) (by simp [compEnvC, relabel, hkind]) hyx (hs2 _) hDC (Nat.ne_of_lt (lt_of hoI)) (below _ (lt_of hoI)).1 hwI (below _ (lt_of how)).2 (below _ (lt_of how)).1
      hlI (below _ (lt_of hol)).2 (below _ (lt_of hol)).1 (hst.at fun o e => old _ _ e) (hlst.at fun o e => old _ _ e) (hll.at fun o e => old _ _ e) hacc hns₁ ?_ ?_ hsz ?_
    · intro s₃ m₃ hn₃ hk₃
      exact hit2 _ s₃ m₃ hCle hn₃ (up hk₃)
    · intro v u s₃ m₃ hv hu hn₃ h1 h2 hk₃
      exact helt _ v u s₃ m₃ hCle hv hu hn₃ h1 h2 (up hk₃)
    · intro h' tk m' ys hn₃ hD₃ hr hk₃
      exact hRR _ _ h' tk m' ys (fresh _ (Nat.le_refl _)) (fresh _ hCle) hDC hn₃ hD₃ hr (up hk₃)
  refine codeAny_of_tree ?_
  show wpAny _ _ ((compStart (comp2 elt x px iter y py iter2 scope pos) 0 (.ref I) (.ref s₂.heap.objs.size) (compEnvC scope cl H2.objs.size env)).onRaise (fun x => do noteFrame x (compEnvC scope cl H2.objs.size env); standAt theWindowsPlace)) _ _ _
  refine wpAny_notedAt (wp_noE ?_)
  unfold compStart
  show wpAny _ _ (ask >>= _) _ _ _
  refine wpAny_bind (wpAny_askSetting (wpAny_ite ?_))
  have it₁ : h₁.IsListIter I wl 0 := hst.at fun o e => old _ _ e
  split
  · first
      | exact wpAny_bind (wpAny_pure (wpAny_pure (And.intro rfl loop)))
      | exact wpAny_pure (And.intro rfl loop)
  · first
      | exact wpAny_bind (wpAny_rule (wpAny_bind (wpAny_standAt (wpAny_bind (wpAny_pyIter_listiter it₁ (wpAny_pure (And.intro rfl loop)))))))
      | (refine wpAny_bind (wpAny_rule ?_); show wpAny _ _ (standAt iter.pos >>= _) _ _ _; exact wpAny_bind (wpAny_standAt (wpAny_bind (wpAny_pyIter_listiter it₁ (wpAny_pure (And.intro rfl loop))))))

/-- NAME = [elt for x in iter for y in iter2]: two lists of the frame's -/
theorem assign_comp2 {s : Shared} {h₀ : Heap} {m : Str → Option Value} {news : List (Addr × Obj)} {elt iter iter2 : Expr} {x y z : Str} {px py pz : Pos} {scope : Scope} {cl : List (Str × Addr)} {pos spos : Pos} {wl ll : Addr} {vs us : List Value} (F : Value → Value → Value → Prop) {Q : Flow → Shared → Prop}
    (hh : A.handled = none) (hcell : ∀ z ∈ scope.names, z.2 ≠ .cell) (hkind : scope.kind = .function) (hx : scope.names.lookup x = some .local) (hy : scope.names.lookup y = some .local) (hyx : x ≠ y)
    (hs2 : ∀ C v, foldedSetIterable iter2 (compEnvC scope cl C env) v = pure v) (hs : ∀ x, foldedSetIterable iter env x = pure x)
    (hsw : swapsWith (comp2 elt x px iter y py iter2 scope pos) (some (.Name z pz)) spos.line env = pure true) (hclos : closureFor scope env = pure cl)
    (hnames : ∀ z ∈ scope.names, z.2 = .local → scope.names.lookup z.1 = some .local)
    (hz : env.kindOf z = some .local) (hp : (env.scope.kind == .class || (env.scope.kind == .module && env.locals != env.globals)) = false)
    (Fr0 : Fr h₀ env.locals s.heap m) (N : News h₀ env.locals s.heap news)
    (hiter : wpAny (model prog w) A (eval iter env) (fun v s' => v = .ref wl ∧ s' = s) E s) (hlst : s.heap.IsList wl vs.toArray) (hll : s.heap.IsList ll us.toArray)
    (hit2 : ∀ C s₃ m₃, s.heap.objs.size < C → s₃.heap.Ns C m₃ → s.heap.StaysIn s₃.heap →
      wpAny (model prog w) A (eval iter2 (compEnvC scope cl C env)) (fun z s₄ => z = .ref ll ∧ s₄ = s₃) (fun _ _ => False) s₃)
    (helt : ∀ C v u s₃ m₃, s.heap.objs.size < C → v ∈ vs → u ∈ us → s₃.heap.Ns C m₃ → m₃ x = some v → m₃ y = some u → s.heap.StaysIn s₃.heap →
      wpAny (model prog w) A (eval elt (compEnvC scope cl C env)) (fun z s₄ => F v u z ∧ Keeps s₃ s₄) (fun _ _ => False) s₃)
    (hsz : vs.length * us.length ≤ sizeLine)
    (done : ∀ D nn h' tk (ys : List Value), Fr h₀ env.locals h' (fun y => if y = z then some (.ref D) else m y) → News h₀ env.locals h' ((D, listOf ys.toArray nn) :: news) → Rows2 F us vs ys → s.heap.get? D = none → Q .next { s with heap := h', toks := tk }) :
    wpAny (model prog w) A (exec (.Assign [.Name z pz] (comp2 elt x px iter y py iter2 scope pos) spos) env) Q E s := by
  rw [exec_Assign_Name_used _ _ _ _ hsw]
  refine wpAny_bind (wpAny_standAt (wpAny_bind ?_))
  show wpAny _ A (do let _ ← comprehension (comp2 elt x px iter y py iter2 scope pos) scope env _ (newList []) false (eval iter env) (some (assign (.Name z pz) env))) _ _ s
  refine wpAny_bind (wpAny_mono (wpAny_comprehension_free (use := some (assign (.Name z pz) env)) (Q := fun _ s' => Q .next s') rfl hs hclos hkind hnames
    (wpAny_mono hiter (fun xv s₁ h₁ => ?_) fun _ _ e => e)) (fun _ s' hq => wpAny_pure (wpAny_pure hq)) fun _ _ e => e)
  obtain ⟨rfl, rfl⟩ := h₁
  refine wpAny_pyIter_list hlst ?_
  obtain ⟨ow, how, _⟩ := id hlst
  obtain ⟨ol, hol, _⟩ := id hll
  have psh : ∀ {o' : Obj} b o, s₁.heap.get? b = some o → (s₁.heap.push o').get? b = some o := fun b o e => Heap.get?_push_of_some _ e
  have ne : ∀ {b o}, s₁.heap.get? b = some o → b ≠ s₁.heap.objs.size := fun e => Nat.ne_of_lt (Heap.lt_size e)
  have hsize : ∀ {o' : Obj} {C : Addr}, (s₁.heap.push o').objs.size ≤ C → s₁.heap.objs.size < C := fun hC => by rw [Heap.size_push] at hC; exact hC
  refine comp2_block (RR := fun acc C => compPost (model prog w) A E (some (assign (.Name z pz) env)) (fun _ s' => Q .next s') acc C) F hh hcell hkind hx hy hyx hs2 (ne how) (ne hol) ⟨_, Heap.get?_push_size _ rfl, rfl, rfl⟩ (hlst.at fun o e => psh _ _ e) (hll.at fun o e => psh _ _ e) ?_ ?_ hsz ?_
  · intro C s₃ m₃ hC hn hk
    exact hit2 C s₃ m₃ (hsize hC) hn fun b o e => hk b o (ne e) (psh b o e)
  · intro C v u s₃ m₃ hC hv hu hn h1 h2 hk
    exact helt C v u s₃ m₃ (hsize hC) hv hu hn h1 h2 fun b o e => hk b o (ne e) (psh b o e)
  · intro D C h' tk m' ys hD hC hDC hn hl hr hk
    have keep : s₁.heap.StaysIn h' := fun b o e => hk b o (ne e) (psh b o e)
    have none_of : ∀ {b}, (s₁.heap.push { cls := .type "list_iterator", data := .fields #[.ref wl, .int 0 0] }).get? b = none → s₁.heap.get? b = none := fun {b} hb => by
      cases e : s₁.heap.get? b with
      | none => rfl
      | some o => rw [psh b o e] at hb; cases hb
    have hD' := none_of hD
    have hC' := none_of hC
    have F' : Fr h₀ env.locals h' m := ⟨Fr0.ns.at' fun o e => keep _ o e, fun b o e => keep b o (Fr0.keep b o e), Fr0.above⟩
    obtain ⟨oL, eL, pL, hoL, _⟩ := id Fr0.ns
    have hLC : env.locals ≠ C := by rintro rfl; rw [hC'] at hoL; cases hoL
    have hLD : env.locals ≠ D := by rintro rfl; rw [hD'] at hoL; cases hoL
    show wpAny _ A (assign (.Name z pz) env (.ref D)) _ _ _
    refine wpAny_assign_Name (wpAny_storeName_local hz F'.ns (fun h₂ hn₂ hs₂ => ?_) hp)
    refine ⟨m', hn.sameBut hs₂ (Ne.symm hLC), fun h₃ hs₃ => ?_⟩
    have k₃ : ∀ b o, b ≠ env.locals → s₁.heap.get? b = some o → h₃.get? b = some o := fun b o hb e => hs₃.extBut b o (by rintro rfl; rw [hC'] at e; cases e) (hs₂.extBut b o hb (keep b o e))
    obtain ⟨nn, ho⟩ := hl
    refine done D nn h₃ _ ys ⟨hn₂.sameBut hs₃ hLC, fun b o e => k₃ b o (Nat.ne_of_lt (Nat.lt_of_lt_of_le (Heap.lt_size e) Fr0.above)) (Fr0.keep b o e), Fr0.above⟩ ?_ hr hD'
    intro p hp
    rcases List.mem_cons.mp hp with rfl | hp
    · refine ⟨hs₃.extBut _ _ hDC (hs₂.extBut _ _ (Ne.symm hLD) ho), Ne.symm hLD, ?_⟩
      cases e : h₀.get? D with
      | none => rfl
      | some o => rw [Fr0.keep D o e] at hD'; cases hD'
    · exact ⟨k₃ _ _ (N p hp).2.1 (N p hp).1, (N p hp).2⟩
end
section
variable {prog : Program} {w : World} {A : Around} {E : Value → Shared → Prop} {s : Shared} {env : Env} {h₀ : Heap} {x : Str} {body : List Stmt} {Q : Flow → Shared → Prop}
theorem iter_range {σ : Type} {r : Addr} {a₀ b₀ : Int} {t₀ u₀ v₀ : Tok} {n : Nat} {m₀ : Str → Option Value} (G : σ → Str → Option Value) (Led : σ → List (Addr × Obj)) (P : Nat → σ → Prop) (c₀ : σ)
    (hh : A.handled = none) (hr : IsRange s.heap r a₀ b₀ 1 t₀ u₀ v₀) (hsmall : Builtin.Range.small a₀ b₀ 1 = true) (hn : Builtin.Range.rangeSize a₀ b₀ 1 = (n : Int)) (F : Fr h₀ env.locals s.heap m₀) (hm : ∀ z, z ≠ x → m₀ z = G c₀ z) (N : News h₀ env.locals s.heap (Led c₀)) (hp : P 0 c₀)
    (hcls : ∀ c, ∀ p ∈ Led c, p.2.cls ≠ .type "range_iterator" ∨ ∀ us, p.2.data ≠ .fields us)
    (turn : ∀ i c h tk t (I : Addr) (it : Obj) (Q' : Flow → Shared → Prop), i < n → P i c →
      Fr h₀ env.locals h (fun y => if y = x then some (.int (a₀ + (i : Int)) t) else G c y) → News h₀ env.locals h (Led c ++ [(I, it)]) →
      (∀ v s₂, Q (.ret v) s₂ → Q' (.ret v) s₂) → (∀ s₂, Q .next s₂ → Q' .brk s₂) →
      (∀ f c' h' tk' m' news', (f = .next ∨ f = .cont) → Fr h₀ env.locals h' m' → News h₀ env.locals h' news' → (∀ z, z ≠ x → m' z = G c' z) → (∀ p ∈ Led c', p ∈ news') → (I, it) ∈ news' → P (i + 1) c' →
        Q' f { s with heap := h', toks := tk' }) →
      wpAny (model prog w) A (execs body env) Q' E { s with heap := h, toks := tk })
    (done : ∀ c (u : Str → Option Value) h tk, P n c → Fr h₀ env.locals h (fun y => if y = x then u y else G c y) → News h₀ env.locals h (Led c) → Q .next { s with heap := h, toks := tk }) :
    wpAny (model prog w) A (pyIter (.ref r)) (fun it s₂ => LoopAtV prog w A h₀ env x body Q E it s₂) E s := by
  have em : ∀ (c : σ) (m' : Str → Option Value) (v : Value), (∀ z, z ≠ x → m' z = G c z) → (fun y => if y = x then some v else m' y) = (fun y => if y = x then some v else G c y) := by
    intro c m' v h
    funext y
    by_cases hy : y = x
    · rw [if_pos hy, if_pos hy]
    · rw [if_neg hy, if_neg hy, h y hy]
  refine wpAny_pyIter_range hr hsmall ?_
  have W := Walks.range (prog := prog) (w := w) hh s.heap.objs.size a₀ 1 n
  refine ⟨_, _, _, n, _, _, m₀, Led c₀, (fun i m nx => ∃ c, nx = Led c ∧ (∀ z, z ≠ x → m z = G c z) ∧ P i c), rfl, W, ?_, ?_, ?_, ?_, F.push _, (fun p hp => ⟨Heap.get?_push_of_some _ (N p hp).1, (N p hp).2⟩), ⟨c₀, rfl, hm, hp⟩, ?_, ?_⟩
  · intro hm
    exact absurd F.ns.lt ((List.mem_singleton.mp hm) ▸ Nat.lt_irrefl _)
  · intro b hb
    rw [List.mem_singleton.mp hb]
    exact next_is_new F
  · intro p hp hI
    exact absurd (Heap.lt_size (N p hp).1) ((List.mem_singleton.mp hI) ▸ Nat.lt_irrefl _)
  · show IsRangeIter _ _ _ _ _
    rw [hn]; simpa using Heap.get?_push_size _ rfl
  · rintro i v m₁ news₁ s₁ own ⟨hh', tk', rfl⟩ hin hP ⟨c, rfl, hG, hPc⟩ hoff hown hget hfp hSt F₁ N₁
    obtain ⟨t, rfl⟩ := hP
    have e1 : a₀ + (i : Int) * 1 = a₀ + (i : Int) := by omega
    rw [e1] at F₁
    have hit : IsRangeIter hh' s.heap.objs.size (a₀ + ((i + 1 : Nat) : Int) * 1) ((n : Int) - ((i + 1 : Nat) : Int)) 1 := hSt
    obtain ⟨it, hI, hIc, hId⟩ : ∃ it, hh'.get? s.heap.objs.size = some it ∧ it.cls = .type "range_iterator" ∧ it.data = .fields #[rawInt (a₀ + ((i + 1 : Nat) : Int) * 1), rawInt ((n : Int) - ((i + 1 : Nat) : Int)), rawInt 1] := ⟨_, hit, rfl, rfl⟩
    have hIn : (s.heap.objs.size, it) ∈ own := hfp _ (by simp) (next_is_new F) it hI
    rw [em c m₁ _ hG] at F₁
    have N₂ : News h₀ env.locals hh' (Led c ++ [(s.heap.objs.size, it)]) := fun p hp => by
      rcases List.mem_append.mp hp with hp | hp
      · exact N₁ p (List.mem_append.mpr (.inr hp))
      · rw [List.mem_singleton.mp hp]; exact N₁ _ (List.mem_append.mpr (.inl hIn))
    refine turn i c hh' tk' t s.heap.objs.size it _ hin hPc F₁ N₂ (fun v s₂ q => .ret q) (fun s₂ q => .brk q) ?_
    rintro f c' h' tk₂ m' news' hf F' N' hG' hL' hI' hP'
    have step : LoopStepU h₀ env.locals [s.heap.objs.size] own (fun m nx => ∃ c, nx = Led c ∧ (∀ z, z ≠ x → m z = G c z) ∧ P (i + 1) c) { s with heap := hh', toks := tk' } .next { s with heap := h', toks := tk₂ } := by
      have hI2 := (N' _ hI').1
      refine ⟨rfl, h', tk₂, m', Led c', rfl, F', fun p hp => ?_, fun p hp hq => ?_, c', rfl, hG', hP'⟩
      · rcases List.mem_append.mp hp with hp | hp
        · have h1 := List.mem_singleton.mp (hown p hp)
          have h2 := hget p hp
          have h3 : p = (s.heap.objs.size, it) := by
            obtain ⟨pa, po⟩ := p
            dsimp only at h1 h2
            subst h1
            rw [hI] at h2
            rw [Option.some.inj h2]
          rw [h3]; exact N' _ hI'
        · exact N' p (hL' p hp)
      · have h1 := List.mem_singleton.mp hq
        have h2 := (N' p (hL' p hp)).1
        rw [h1, hI2] at h2
        have h3 := Option.some.inj h2
        rcases hcls c' p hp with h4 | h4
        · exact h4 (by rw [← h3]; exact hIc)
        · exact h4 _ (by rw [← h3]; exact hId)
    rcases hf with rfl | rfl
    · exact .next step
    · exact .cont step
  · rintro h' tk m' news' F' N' _ ⟨c, rfl, hG, hPc⟩
    refine done c m' h' tk hPc ?_ N'
    have : (fun y => if y = x then m' y else G c y) = m' := by
      funext y
      by_cases hy : y = x
      · rw [if_pos hy]
      · rw [if_neg hy, hG y hy]
    rw [this]; exact F'
end
end Mine
end
section
open PySem PySem.W PyProof.Rows PySem.Calls PySem.Spec
namespace Mine
local macro_rules | `(tactic| k_room) => `(tactic| ktr_room)
local macro_rules | `(tactic| walk_at "M enter") => `(tactic| (k_dflt (refine' enterP ?k1 ?k2 ?k3 ?k5 ?kA ?kF ?kK ?k6 ?k7 ?k8 ?k9 ?kB ?_ ?c2 ?c3 ?c4 ?c5; (case kA => exact rfl); (case kF => exact rfl); (case kK => assumption); (case k1 => k_asm); (case k2 => k_asm); (case k3 => k_asm); (case k5 => k_asm); (case k6 => k_is); (case k7 => k_is); (case k8 => ktr_room); (case k9 => exact BindsTo.of_eq rfl); (case c5 => decide); (case kB => exact locs rfl); (case c2 => exact rfl); (case c3 => exact rfl); (case c4 => exact rfl); k_whole)))
local macro_rules | `(tactic| walk_at "M frame") => `(tactic| (intro z hz; (try dsimp only); (repeat' split) <;> first | rfl | contradiction | (exfalso; simp_all; done) | (simp_all; done)))
local macro_rules | `(tactic| walk_at "M frame0") => `(tactic| (intro z; (try dsimp only); (repeat' split) <;> first | rfl | contradiction | (exfalso; simp_all; done) | (subst_vars; first | rfl | (exfalso; simp_all (config := { decide := true }); done) | (simp (config := { decide := true }) at *; done)) | (simp_all; done)))
local macro_rules | `(tactic| walk_at "M led") => `(tactic| (intro p hp; first | exact absurd hp List.not_mem_nil | ((simp only [List.mem_cons, List.mem_append, List.not_mem_nil, or_false, false_or] at hp ⊢); ((repeat (rcases hp with hp | hp)) <;> first | (simp only [hp, true_or, or_true]; done) | (simp; done)))))
local macro_rules | `(tactic| walk_at "M mem") => `(tactic| first | (simp only [List.mem_cons, List.mem_append, List.not_mem_nil, or_false, false_or, true_or, or_true]; done) | (simp; done))
local macro_rules | `(tactic| walk_at "M enterC") => `(tactic| (k_dflt (refine' enterC ?k1 ?k2 ?k3 ?k5 ?kA ?kF ?kK ?k6 ?k7 ?k8 ?k9 ?kB ?kD ?_ ?c2 ?c3 ?c4; (case kA => exact rfl); (case kF => exact rfl); (case kK => assumption); (case k1 => k_asm); (case k2 => k_asm); (case k3 => k_asm); (case k5 => k_asm); (case k6 => k_is); (case k7 => k_is); (case k8 => ktr_room); (case k9 => exact BindsTo.of_eq rfl); (case kB => exact rfl); (case kD => decide +kernel); (case c2 => exact rfl); (case c3 => exact rfl); (case c4 => exact rfl); k_whole)))
local macro_rules | `(tactic| walk_at "M steps") => `(tactic| repeat' (first | (k_unfold; (try dsimp only)) | (k_end; wrow_close) | ((fail_if_success (with_reducible show wpAny _ _ (exec (Stmt.While _ _ _ _) _) _ _ _)); (fail_if_success (with_reducible show wpAny _ _ (exec (Stmt.For _ _ _ _ _) _) _ _ _)); first | walk1 | (dsimp only; walk1) | (leave1; walk_say "STEP leave1"; try dsimp only) | fail "no step")))
local macro_rules | `(tactic| walk_at "M ss") => `(tactic| repeat' (first | (k_unfold; (try dsimp only)) | (k_end; wrow_close) | ((fail_if_success (with_reducible show wpAny _ _ (exec (Stmt.While _ _ _ _) _) _ _ _)); (fail_if_success (with_reducible show wpAny _ _ (exec (Stmt.For _ _ _ _ _) _) _ _ _)); (fail_if_success (with_reducible show wpAny _ _ (subscriptTail _ _ (Value.ref _) _) _ _ _)); (fail_if_success (with_reducible show wpAny _ _ (callWith _ (Value.ref _) _ _ _) _ _ _)); (fail_if_success (with_reducible show wpAny _ _ (truthy (Value.ref _)) _ _ _)); first | walk1 | (dsimp only; walk1) | (leave1; walk_say "STEP leave1"; try dsimp only) | fail "no step")))
local macro_rules | `(tactic| walk_at "M halt") => `(tactic| repeat' (first | (k_unfold; (try dsimp only)) | (k_end; wrow_close) | ((fail_if_success (with_reducible show wpAny _ _ (exec (Stmt.While _ _ _ _) _) _ _ _)); (fail_if_success (with_reducible show wpAny _ _ (call (Value.ref _) _) _ _ _)); (fail_if_success (with_reducible show wpAny _ _ (subscriptTail _ _ (Value.str _ _) (Value.int _ _)) _ _ _)); (fail_if_success (with_reducible show wpAny _ _ (exec (Stmt.For _ _ _ _ _) _) _ _ _)); first | walk1 | (dsimp only; walk1) | (leave1; walk_say "STEP leave1"; try dsimp only) | fail "no step")))
local macro_rules | `(tactic| walk_at "M hs") => `(tactic| repeat' (first | (k_unfold; (try dsimp only)) | (k_end; wrow_close) | ((fail_if_success (with_reducible show wpAny _ _ (exec (Stmt.While _ _ _ _) _) _ _ _)); (fail_if_success (with_reducible show wpAny _ _ (call (Value.ref _) _) _ _ _)); (fail_if_success (with_reducible show wpAny _ _ (subscriptTail _ _ (Value.str _ _) (Value.int _ _)) _ _ _)); (fail_if_success (with_reducible show wpAny _ _ (exec (Stmt.For _ _ _ _ _) _) _ _ _)); (fail_if_success (with_reducible show wpAny _ _ (subscriptTail _ _ (Value.ref _) _) _ _ _)); (fail_if_success (with_reducible show wpAny _ _ (callWith _ (Value.ref _) _ _ _) _ _ _)); (fail_if_success (with_reducible show wpAny _ _ (truthy (Value.ref _)) _ _ _)); first | walk1 | (dsimp only; walk1) | (leave1; walk_say "STEP leave1"; try dsimp only) | fail "no step")))

/-- all words of a length -/
noncomputable def wordsF (ls : List Str) : Nat → List Str
  | 0 => [(Str.ofString "")]
  | n + 1 => (wordsF ls n).flatMap fun x => ls.map fun y => x ++ y


theorem wordsF_len {ls : List Str} (h : ∀ y ∈ ls, y.length = 1) : ∀ n, ∀ x ∈ wordsF ls n, x.length = n
  | 0, x, hx => by
    have : x = (Str.ofString "") := by simpa [wordsF] using hx
    rw [this]; decide
  | n + 1, x, hx => by
    simp only [wordsF, List.mem_flatMap, List.mem_map] at hx
    obtain ⟨a, ha, b, hb, rfl⟩ := hx
    rw [Str.length_append, wordsF_len h n a ha, h b hb]
theorem wordsF_count {ls : List Str} : ∀ n, (wordsF ls n).length = ls.length ^ n
  | 0 => by simp [wordsF]
  | n + 1 => by
    have key : ∀ l : List Str, (l.flatMap fun x => ls.map fun y => x ++ y).length = l.length * ls.length := by
      intro l
      induction l with
      | nil => simp
      | cons a r ih => rw [List.flatMap_cons, List.length_append, List.length_map, ih, List.length_cons, Nat.succ_mul, Nat.add_comm]
    rw [wordsF, key, wordsF_count n, Nat.pow_succ]

noncomputable abbrev GlueF (v u z : Value) : Prop := ∃ x y tx ty tz, v = .str x tx ∧ u = .str y ty ∧ z = .str (x ++ y) tz
theorem paired_txs {x : Str} {tx : Tok} {us zs : List Value} {ls : List Str} (h : Paired (GlueF (.str x tx)) us zs) (k : Txs us ls) : Txs zs (ls.map fun y => x ++ y) := by
  induction h generalizing ls with
  | nil => cases k; exact .nil
  | cons h _ ih =>
    obtain ⟨x', y', _, _, _, e1, e2, rfl⟩ := h
    cases e1
    subst e2
    cases k with
    | cons k => exact (ih k).cons
theorem rows_txs {us : List Value} {ls : List Str} (k : Txs us ls) : ∀ {vs ys : List Value} {xs : List Str}, Rows2 GlueF us vs ys → Txs vs xs → Txs ys (xs.flatMap fun x => ls.map fun y => x ++ y)
  | _, ys, _, h, .nil => by
    have h : ys = [] := h
    subst h; exact .nil
  | _, ys, _, h, .cons hx => by
    obtain ⟨z, rest, rfl, h1, h2⟩ := h
    exact (paired_txs h1 k).append (rows_txs k h2 hx)
set_option maxRecDepth 100000 in
set_option maxHeartbeats 8000000 in
theorem all_spec (w : World) (mean : ExcName → Option Value) (mg mb : Str → Option Value) (ll : Addr) (lvs : List Value) (ls : List Str) (n : Nat) (t : Tok) (hx : Txs lvs ls) (hl : ls.length = 2) (hl1 : ∀ y ∈ ls, y.length = 1) (hn : n ≤ 5) :
    Spec w mean mg mb 125 [.ref ll, .int n t] (fun h => h.IsList ll lvs.toArray) (fun h h' r => ∃ rl nn vs, r = .ref rl ∧ h.get? rl = none ∧ h'.get? rl = some (listOf (vs : List Value).toArray nn) ∧ Txs vs (wordsF ls n)) := by
  unfold Spec
  k_fill
  intro dp un gd cn cs L a ccd cl outer A₀ base h₀ m s Q E B F X T hk hd hu hpre hret
  walk_at "M enterC"
  intro L' h₁ tk cells Q' hQr hQn F' N' Y' B' X' T'
  clear F B X T
  obtain ⟨o1, rfl, d1⟩ := CellsAre.one Y'
  replace d1 : o1.data = Data.cell (some (.ref ll)) := d1
  replace F' : Fr s.heap L' h₁ (fun y => if y = (Str.ofString "size") then some (.int n t) else none) := F'
  replace N' : News s.heap L' h₁ [(L' + 1, o1)] := N'
  clear Y'
  try dsimp only
  k_steps
  (rename Fr _ _ _ _ => F9); (rename News _ _ _ _ => N9)
  rename IsRange _ _ _ _ _ _ _ _ => R9
  refine' iter_range (σ := Addr × Nat × List Value) (n := n) (fun c y => if y = (Str.ofString "words") then some (.ref c.1) else if y = (Str.ofString "size") then some (.int n t) else none) (fun c => [(c.1, listOf c.2.2.toArray c.2.1), (L' + 1, o1)]) (fun i c => Txs c.2.2 (wordsF ls i)) (_, _, _) ?h1 R9 ?h2 ?h3 F9 ?h4 N9 ?h5 ?h6 ?h7 ?h8
  case h4 => exact fun _ _ => rfl
  case h1 => exact rfl
  case h2 =>
    show Builtin.Range.small 0 (n : Int) 1 = true
    have h6 : n = 0 ∨ n = 1 ∨ n = 2 ∨ n = 3 ∨ n = 4 ∨ n = 5 := by omega
    rcases h6 with rfl | rfl | rfl | rfl | rfl | rfl <;> decide
  case h3 =>
    show Builtin.Range.rangeSize 0 (n : Int) 1 = (n : Int)
    have h6 : n = 0 ∨ n = 1 ∨ n = 2 ∨ n = 3 ∨ n = 4 ∨ n = 5 := by omega
    rcases h6 with rfl | rfl | rfl | rfl | rfl | rfl <;> decide
  case h5 => exact .cons .nil
  case h6 =>
    intro c p hp
    simp only [List.mem_cons, List.not_mem_nil, or_false] at hp
    rcases hp with rfl | rfl
    · exact .inl (by intro e; injection e with e; exact absurd e (by decide))
    · exact .inr (fun us e => by rw [d1] at e; cases e)
  case h7 =>
    intro i c h tk t2 I it Q'' hi hP F2 N2 hr hb hn2
    clear F9 N9 R9
    k_steps
    have hm := fun x hx => wordsF_len hl1 i x hx
    have hcnt := wordsF_count (ls := ls) i
    rw [hl] at hcnt
    have hpw : 2 ^ i ≤ 2 ^ 5 := Nat.pow_le_pow_right (by omega) (by omega)
    have hvl := hP.length
    have hul := hx.length
    have hwl : (Shared.mk h s.gens s.drawn tk s.os).heap.IsList c.1 c.2.2.toArray := ⟨_, (N2 (c.1, listOf c.2.2.toArray c.2.1) (by walk_at "M mem")).1, rfl, _, rfl⟩
    have hll2 : (Shared.mk h s.gens s.drawn tk s.os).heap.IsList ll lvs.toArray := hpre.at fun o e => F2.keep _ o e
    have hcl : (Shared.mk h s.gens s.drawn tk s.os).heap.IsCell (L' + 1) (some (.ref ll)) := ⟨o1, (N2 (L' + 1, o1) (by walk_at "M mem")).1, d1⟩
    refine' assign_comp2 (cl := [((Str.ofString "letters"), L' + 1)]) (wl := c.1) (ll := ll) (vs := c.2.2) (us := lvs) GlueF rfl (by decide) rfl rfl rfl (by decide) (fun _ _ => rfl) (fun _ => rfl) rfl rfl (by decide) rfl rfl F2 N2 ?g1 hwl hll2 ?g2 ?g3 ?g4 ?g5
    case g1 => exact wpAny_Name (wpAny_loadName_local rfl rfl F2.ns rfl ⟨rfl, rfl⟩) (by decide)
    case g2 =>
      intro C s₃ m₃ hC hn₃ hk₃
      exact wpAny_Name (wpAny_loadName_cell (c := L' + 1) (v := .ref ll) rfl rfl rfl (by obtain ⟨o, e1, e2⟩ := hcl; exact ⟨o, hk₃ _ _ e1, e2⟩) ⟨rfl, rfl⟩) (by decide)
    case g3 =>
      intro C v u s₃ m₃ hC hv hu hn₃ h1 h2 hk₃
      obtain ⟨iv, hiv⟩ := List.mem_iff_getElem?.mp hv
      obtain ⟨iu, hiu⟩ := List.mem_iff_getElem?.mp hu
      obtain ⟨x, tx, rfl, hx1⟩ := hP.at hiv
      obtain ⟨y, ty, rfl, hy1⟩ := hx.at hiu
      have e1 := hm x (List.mem_of_getElem? hx1)
      have e2 := hl1 y (List.mem_of_getElem? hy1)
      refine wpAny_BinOp (wpAny_Name (wpAny_loadName_local rfl rfl hn₃ h1 (wpAny_Name (wpAny_loadName_local rfl rfl hn₃ h2 ?_) (by decide))) (by decide))
      refine PyProof.Rows.add_str (fun t' tk' => ⟨⟨x, y, tx, ty, t', rfl, rfl, rfl⟩, s₃.heap, tk', rfl, fun _ _ e => e⟩) ?_
      rw [e1, e2, PySem.sizeLine_eq]; omega
    case g4 =>
      rw [hvl, hcnt, hul, hl, PySem.sizeLine_eq]; omega
    case g5 =>
      intro D nn h' tk' ys F3 N3 hrows hD
      try dsimp only
      refine wpAny_execs_nil (hn2 .next (D, nn, ys) _ _ _ _ (.inl rfl) F3 N3 (by walk_at "M frame") (by walk_at "M led") (by walk_at "M mem") ?_)
      exact rows_txs hx hrows hP
  case h8 =>
    intro c u h tk hP F2 N2
    clear F9 N9 R9
    k_steps
    refine hQr _ _ (hret _ _ _ F2.keep ?_)
    exact ⟨c.1, c.2.1, c.2.2, rfl, (N2 (c.1, listOf c.2.2.toArray c.2.1) (by walk_at "M mem")).2.2, (N2 (c.1, listOf c.2.2.toArray c.2.1) (by walk_at "M mem")).1, hP⟩
end Mine
end
section
open PySem PySem.W PyProof.Rows PySem.Calls PySem.Spec
namespace Mine
namespace MineB
open PySem.MeetsSeq PySem.SeqInW
theorem lk_contains : typeLookup (.type "list") ((Str.ofString "__contains__")) = pure (some (.builtin "list.__contains__")) := by rw [typeLookup_type, builtinLookup_eq_fast]; kernel_rfl
theorem ty_contains : typeOf (.builtin "list.__contains__") = pure (.type "wrapper_descriptor") := by show builtinType _ = _; rw [builtinType_eq_fast]; kernel_rfl
theorem wd_set : typeLookup (.type "wrapper_descriptor") ((Str.ofString "__set__")) = pure none := by rw [typeLookup_type, builtinLookup_eq_fast]; kernel_rfl
theorem wd_del : typeLookup (.type "wrapper_descriptor") ((Str.ofString "__delete__")) = pure none := by rw [typeLookup_type, builtinLookup_eq_fast]; kernel_rfl
theorem slot_wd : Slot "wrapper_descriptor" "__get__" "wrapper_descriptor.__get__" :=
  .of (owner := "wrapper_descriptor") (n := "__get__") (by rw [typeLookup_type, builtinLookup_eq_fast]; kernel_rfl) (by decide +kernel) (by decide +kernel) (by decide +kernel)
    (by first | exact .inl (by decide +kernel) | exact .inr (by decide +kernel)) (by rw [isSubtype_type]; kernel_rfl)
theorem entry_wd : entryFor table "wrapper_descriptor.__get__" = some Builtin.«wrapper_descriptor.__get__» := entryFor_of_tree (by kernel_rfl)
theorem args_wd (a b c : Value) : argsOk "wrapper_descriptor.__get__" ⟨[a, b, c], []⟩ := by unfold argsOk; kernel_rfl
theorem sub_ll : isSubtype (.type "list") (.type "list") = pure true := by rw [isSubtype_type]; kernel_rfl

theorem meets_wd (a : Addr) (xs : Array Value) (k : Nat) (sl : Array (Option Value)) :
    Meets (Builtin.«wrapper_descriptor.__get__» ⟨[.builtin "list.__contains__", .ref a, .type "list"], []⟩) (fun A R s => s.heap.get? a = some { cls := .type "list", dict := none, data := .seq xs k, slots := sl } ∧ ∀ tk', R (.ok (.ret (.ref s.heap.objs.size))) { s with heap := s.heap.push { cls := .type "method-wrapper", data := .fields #[.builtin "list.__contains__", .ref a] }, toks := tk' }) :=
  Meets.of_wp fun prog w A R s hs => by
    obtain ⟨hp, g, d, tk, os⟩ := s
    obtain ⟨hx, hs⟩ := hs
    have hT : (⟨hp, g, d, tk, os⟩ : Shared).TypeIs (.ref a) "list" := ⟨_, hx, rfl⟩
    have h3 := sub_ll
    unfold Builtin.«wrapper_descriptor.__get__»
    repeat (any_goals (first | assumption | wp_step))
    have e : (".".intercalate ("list.__contains__".cutAt '.').dropLast) = "list" := by decide +kernel
    rw [e]
    repeat (any_goals (first | assumption | wp_step))
    exact ⟨_, rfl, hs _⟩

theorem meets_contains (a : Addr) (xs : Array Value) (k : Nat) (sl : Array (Option Value)) (u : Tok) :
    Meets (Builtin.«object.__getattribute__» ⟨[.ref a, .str ((Str.ofString "__contains__")) u], []⟩) (fun A R s => s.heap.get? a = some { cls := .type "list", dict := none, data := .seq xs k, slots := sl } ∧ A.handled = none ∧ ∀ tk', R (.ok (.ret (.ref s.heap.objs.size))) { s with heap := s.heap.push { cls := .type "method-wrapper", data := .fields #[.builtin "list.__contains__", .ref a] }, toks := tk' }) :=
  Meets.of_wp fun prog w A R s hs => by
    obtain ⟨hp, g, d, tk, os⟩ := s
    obtain ⟨hx, hh, hs⟩ := hs
    have hT : (⟨hp, g, d, tk, os⟩ : Shared).TypeIs (.ref a) "list" := ⟨_, hx, rfl⟩
    have h1 := lk_contains
    have h2 := ty_contains
    have h3 := slot_wd.lookup
    have h4 := wd_set
    have h5 := wd_del
    have hT2 : (⟨hp, g, d, tk, os⟩ : Shared).TypeIs (.builtin "list.__contains__") "wrapper_descriptor" := h2
    unfold Builtin.«object.__getattribute__»
    repeat (any_goals (first | assumption | ((with_reducible show wpAny _ _ (call (Value.builtin "wrapper_descriptor.__get__") _ _) _ _ _); refine call_meets slot_wd h2 entry_wd (args_wd _ _ _) (meets_wd a xs k sl) ⟨hx, fun tk' => ?_⟩) | wp_step))
    exact wpAny_pure ⟨_, rfl, hs _⟩
theorem getAttr_contains {prog : Program} {w : World} {A : Around} {E : Value → Shared → Prop} {s : Shared} {a : Addr} {o : Obj} {xs : Array Value} {k : Nat} {Q : Value → Shared → Prop}
    (hx : s.heap.get? a = some o) (hc : o.cls = .type "list") (hdat : o.data = .seq xs k) (hd : o.dict = none) (hA : A.handled = none)
    (h : ∀ tk', Q (.ref s.heap.objs.size) { s with heap := s.heap.push { cls := .type "method-wrapper", data := .fields #[.builtin "list.__contains__", .ref a] }, toks := tk' }) :
    wpAny (model prog w) A (getAttr (.ref a) ((Str.ofString "__contains__")) true) Q E s := by
  obtain ⟨c, dct, dat, sl⟩ := o
  simp only at hc hdat hd
  subst hc hdat hd
  obtain ⟨hp, g, d, tk, os⟩ := s
  have hT : ∀ tk', (⟨hp, g, d, tk', os⟩ : Shared).TypeIs (.ref a) "list" := fun _ => ⟨_, hx, rfl⟩
  have f3 := F.slot_list_getattribute.lookup
  have f4 := F.slot_list_getattribute.bind (.ref a)
  have f5 := am_list_getattr_none
  unfold getAttr getAttrBy
  repeat (any_goals (first | assumption | exact hT _ | ((with_reducible show wpAny _ _ (call (Value.builtin "list.__getattribute__") _ _) _ _ _); refine call_meets F.slot_list_getattribute (hT _) am_entry_list_getattribute (F.args_list_getattribute_2 _ _) (meets_contains a xs k sl _) ⟨hx, hA, fun tk' => ?_⟩) | wp_step))
  exact wpAny_pure (h _)
theorem sig_contains (a b : Value) : checkBoundCall "list.__contains__" ⟨[a, b], []⟩ = pure () := by
  unfold checkBoundCall
  rw [signature?_of (id := "list.__contains__") (n := ['_', '_', 's', 'n', 'i', 'a', 't', 'n', 'o', 'c', '_', '_']) (o := ['t', 's', 'i', 'l']) (by kernel_rfl) F.owner_list]
  kernel_rfl
/-- a bound built-in is called -/
theorem call_bound {prog : Program} {w : World} {A : Around} {s : Shared} {q : Addr} {id : String} {B : Builtin} {self : Value} {args : List Value} {cls : String} {S : PySem.Spec} {R : Result → Shared → Prop}
    (hq : s.heap.get? q = some { cls := .type cls, data := .fields #[.builtin id, self] }) (hcls : cls = "method-wrapper" ∨ cls = "builtin_function_or_method")
    (plain : plainId id = true) (entry : entryFor table id = some B)
    (check : ∀ (Q : Unit → Shared → Prop), Q () s → wpAny (model prog w) A.in1 (checkBoundCall id ⟨self :: args, []⟩) Q (fun e s' => R (.error e) s') s)
    (g : Meets (B ⟨self :: args, []⟩) S) (h : S A R s) : codeAny (model prog w) A (.call (.ref q) ⟨args, []⟩) R s := by
  obtain ⟨hh, gn, dr, t, os⟩ := s
  have fin : codeAny (model prog w) A (.builtin id ⟨self :: args, []⟩) R ⟨hh, gn, dr, t, os⟩ := codeAny_builtin entry (by rw [Around.under_plainId plain _]; exact g prog w A R _ h)
  refine codeAny_of_tree ?_
  show wpAny _ A.in1 (callAny (.ref q) _) _ _ _
  unfold callAny
  dsimp only at hq
  refine wpAny_bind (wpAny_load hq ?_)
  rcases hcls with rfl | rfl
  · refine wpAny_bind (wpAny_mono (check (fun _ s' => codeAny (model prog w) A (.builtin id ⟨self :: args, []⟩) R s') fin) (fun _ s' h' => ?_) fun _ _ e => e)
    exact wpAny_pure ⟨plainId_quiet plain _, h'⟩
  · refine wpAny_bind (wpAny_mono (check (fun _ s' => codeAny (model prog w) A (.builtin id ⟨self :: args, []⟩) R s') fin) (fun _ s' h' => ?_) fun _ _ e => e)
    exact wpAny_pure ⟨plainId_quiet plain _, h'⟩

theorem callWith_bound {M : Model} {A : Around} {E : Value → Shared → Prop} {s : Shared} {Q : Value → Shared → Prop} {pos : Pos} {env : Env} {q : Addr} {e : Expr} {rest : List Expr} {id cls : String} {self : Value} (hcls : cls = "method-wrapper" ∨ cls = "builtin_function_or_method")
    (h : wpAny M A (spliced (backTo pos (starEach (e :: rest) env))) (fun vs s₁ => s₁.heap.get? q = some { cls := .type cls, data := .fields #[.builtin id, self] } ∧ wpAny M A (call (.ref q) ([] ++ vs)) Q E s₁) E s)
    (he : starEach (e :: rest) env = (false, eval e env) :: starEach rest env := by rfl) (hplain : (backTo pos (starEach rest env)).any (·.1) = false := by rfl) :
    wpAny M A (callWith pos (.ref q) [] (backTo pos (starEach (e :: rest) env)) []) Q E s := by
  rw [he] at h ⊢
  refine callWith_of (P := fun h => h.get? q = some { cls := .type cls, data := .fields #[.builtin id, self] }) (by show ((false || (backTo pos (starEach rest env)).any (·.1)) || false) = false; rw [hplain]; rfl) (fun hh hq => ⟨.machine, .inr (.inl rfl), ?_⟩) (evalArgs_plain h)
  intro A' Q' E' s' k hQ
  unfold keeperOf
  refine wpAny_bind (wpAny_load (k _ _ hq) ?_)
  rcases hcls with rfl | rfl
  · exact wpAny_pure hQ
  · exact wpAny_pure hQ
theorem call_contains {prog : Program} {w : World} {A : Around} {E : Value → Shared → Prop} {s : Shared} {Q : Value → Shared → Prop} {q l : Addr} {items : Array Value} {x : Value} (e : Value → Bool) (he : ∀ y, y ∈ items → EqGives y x (e y))
    (hq : s.heap.get? q = some { cls := .type "method-wrapper", data := .fields #[.builtin "list.__contains__", .ref l] }) (hl : s.heap.PlainList l items) (h : Q (.bool (items.any e)) s) :
    wpAny (model prog w) A (call (.ref q) [x]) Q E s := by
  obtain ⟨n, ho⟩ := hl
  exact wpAny_call (call_bound hq (.inl rfl) F.slot_list_contains.plain F.entry_list_contains (fun Q' hQ' => wpAny_of_eq (sig_contains _ _) hQ') (SeqInW.list_containsW l items n none #[] x e he) ⟨ho, h⟩)
end MineB
end Mine
end
section
open PySem PySem.W PyProof.Rows PySem.Calls PySem.Spec
namespace Mine
namespace MineB
section
variable {prog : Program} {w : World} {A : Around} {E : Value → Shared → Prop} {s : Shared}
theorem iter_call {l : Addr} {items : Array Value} {Q : Value → Shared → Prop} (hl : s.heap.IsList l items)
    (h : Q (.ref s.heap.objs.size) { s with heap := s.heap.push { cls := .type "list_iterator", data := .fields #[.ref l, .int 0 0] } }) :
    wpAny (model prog w) A (call (.builtin "iter") [.ref l]) Q E s := by
  refine call_function_entry (by decide +kernel) (by decide +kernel) kdk_entry_iter (kdk_args_iter _) ?_
  unfold Builtin.«iter»
  refine wpAny_bind (m := someArgs "iter" 1 2 _) (wpAny_of_eq (a := [Value.ref l]) (by first | rfl | kernel_rfl!) ?_)
  show wpAny _ _ (pyIter (.ref l) >>= _) _ _ _
  refine wpAny_bind (wpAny_pyIter_list hl ?_)
  exact wpAny_pure ⟨_, rfl, h⟩

theorem next_item {it l : Addr} {i : Nat} {items : Array Value} {x : Value} {Q : Value → Shared → Prop} (hit : s.heap.IsListIter it l i)
    (hl : s.heap.IsList l items) (hx : items[i]? = some x)
    (hQ : ∀ h', h'.get? it = some { cls := .type "list_iterator", data := .fields #[.ref l, .int ((i : Int) + 1) 0] } → Heap.SameBut it s.heap h' → Q x { s with heap := h' })
    (hex : s.heap.get? it = some { cls := .type "list_iterator", data := .fields #[.ref l, .int i 0] }) :
    wpAny (model prog w) A (call (.builtin "next") [.ref it]) Q E s := by
  obtain ⟨o, ho, hc, hd⟩ := id hit
  obtain ⟨ol, hol, _, nl, hdl⟩ := hl
  refine call_function_entry (by decide +kernel) (by decide +kernel) kdk_entry_next (kdk_args_next _) ?_
  unfold Builtin.«next»
  refine wpAny_bind (m := someArgs "next" 1 2 _) (wpAny_of_eq (a := [Value.ref it]) (by first | rfl | kernel_rfl!) ?_)
  dsimp only
  refine wpAny_bind (wpAny_specialOf (name := Str.ofString "__next__") hit.typeIs slot_listiter_next.lookup ?_)
  refine wpAny_ite_split (fun hab => absurd hab (by decide)) (fun _ => ?_)
  refine wpAny_bind (wpAny_callSpecial?_slot (name := Str.ofString "__next__") hit.typeIs slot_listiter_next
    (wpAny_call_entry slot_listiter_next hit.typeIs entry_listiter_next ?_ (args_listiter_next _)))
  show wpAny _ _ (field (.ref it) 0 >>= _) _ _ s
  refine wpAny_bind (wpAny_field ho hd (x := .ref l) rfl ?_)
  show wpAny _ _ (if (Value.ref l == Value.none) = true then _ else _) _ _ s
  rw [if_neg (show ¬ ((Value.ref l == Value.none) = true) from Bool.false_ne_true)]
  show wpAny _ _ (field (.ref it) 1 >>= _) _ _ s
  refine wpAny_bind (wpAny_field ho hd (x := .int i 0) rfl ?_)
  show wpAny _ _ (seqItems? (.ref l) >>= _) _ _ s
  refine wpAny_bind (wpAny_seqItems hol hdl ?_)
  simp only [Int.toNat_natCast, hx]
  refine wpAny_bind (wpAny_setField ho hd (by simp) (wpAny_pure ⟨x, rfl, wpAny_pure ⟨_, rfl, hQ _ ?_ (Heap.SameBut.update ..)⟩⟩))
  rw [Heap.get?_update_self _ hex rfl]
  rfl

theorem next_end {it l : Addr} {i : Nat} {items : Array Value} {Q : Value → Shared → Prop} (hh : A.handled = none) (hit : s.heap.IsListIter it l i)
    (hl : s.heap.IsList l items) (hx : items[i]? = none)
    (hE : ∀ h₁ h' e, Heap.SameBut it s.heap h₁ → h₁.get? it = some { cls := .type "list_iterator", data := .fields #[.none, .int i 0] } → Heap.NewExc h₁ h' e "StopIteration" → E (.ref e) { s with heap := h' })
    (hex : s.heap.get? it = some { cls := .type "list_iterator", data := .fields #[.ref l, .int i 0] }) :
    wpAny (model prog w) A (call (.builtin "next") [.ref it]) Q E s := by
  obtain ⟨o, ho, hc, hd⟩ := id hit
  obtain ⟨ol, hol, _, nl, hdl⟩ := hl
  refine call_function_entry (by decide +kernel) (by decide +kernel) kdk_entry_next (kdk_args_next _) ?_
  unfold Builtin.«next»
  refine wpAny_bind (m := someArgs "next" 1 2 _) (wpAny_of_eq (a := [Value.ref it]) (by first | rfl | kernel_rfl!) ?_)
  dsimp only
  refine wpAny_bind (wpAny_specialOf (name := Str.ofString "__next__") hit.typeIs slot_listiter_next.lookup ?_)
  refine wpAny_ite_split (fun hab => absurd hab (by decide)) (fun _ => ?_)
  refine wpAny_bind (wpAny_callSpecial?_slot (name := Str.ofString "__next__") hit.typeIs slot_listiter_next
    (wpAny_call_entry slot_listiter_next hit.typeIs entry_listiter_next ?_ (args_listiter_next _)))
  show wpAny _ _ (field (.ref it) 0 >>= _) _ _ s
  refine wpAny_bind (wpAny_field ho hd (x := .ref l) rfl ?_)
  show wpAny _ _ (if (Value.ref l == Value.none) = true then _ else _) _ _ s
  rw [if_neg (show ¬ ((Value.ref l == Value.none) = true) from Bool.false_ne_true)]
  show wpAny _ _ (field (.ref it) 1 >>= _) _ _ s
  refine wpAny_bind (wpAny_field ho hd (x := .int i 0) rfl ?_)
  show wpAny _ _ (seqItems? (.ref l) >>= _) _ _ s
  refine wpAny_bind (wpAny_seqItems hol hdl ?_)
  simp only [Int.toNat_natCast, hx]
  refine wpAny_bind (wpAny_rule (wpAny_bind (wpAny_setField ho hd (by simp) ?_)))
  show wpAny _ _ (newExc (.type "StopIteration") [] >>= _) _ _ _
  refine wpAny_bind ?_
  simp only [newExc, newTuple]
  refine wpAny_bind (wpAny_newObj_type ?_ (by size_fits))
  refine wpAny_bind (m := firstArgMember _ _) (wpAny_of_eq (a := Value.none) (by first | rfl | (simp only [firstArgMember]; rfl)) ?_)
  refine wpAny_newObj_type ?_ (by size_fits)
  simp only [raiseNew]
  refine wpAny_bind (wpAny_handled ?_)
  rw [show A.in1.in1.handled = none from hh]
  refine wpAny_bind (wpAny_pure (wpAny_throw ?_))
  refine hE (s.heap.update it (Obj.mapFields (·.setIfInBounds 0 .none))) _ _ (Heap.SameBut.update ..) ?_ ⟨fun b o e => Heap.get?_push_of_some _ (Heap.get?_push_of_some _ e), ?_, ?_⟩
  · rw [Heap.get?_update_self _ hex rfl]; rfl
  · cases e : (s.heap.update it (Obj.mapFields (·.setIfInBounds 0 .none))).get? (((s.heap.update it (Obj.mapFields (·.setIfInBounds 0 .none))).push { cls := .type "tuple", data := .seq ([] : List Value).toArray })).objs.size with
    | none => rfl
    | some o => exact absurd (Heap.lt_size e) (by rw [Heap.size_push]; exact Nat.not_lt.mpr (Nat.le_succ _))
  · exact ⟨_, _, Heap.get?_push_size _ rfl, rfl, rfl⟩
end
end MineB
end Mine
end
section
open PySem PySem.W PyProof.Rows PySem.Calls PySem.Spec
namespace Mine
local macro_rules | `(tactic| k_room) => `(tactic| ktr_room)
local macro_rules | `(tactic| walk_at "M enter") => `(tactic| (k_dflt (refine' enterP ?k1 ?k2 ?k3 ?k5 ?kA ?kF ?kK ?k6 ?k7 ?k8 ?k9 ?kB ?_ ?c2 ?c3 ?c4 ?c5; (case kA => exact rfl); (case kF => exact rfl); (case kK => assumption); (case k1 => k_asm); (case k2 => k_asm); (case k3 => k_asm); (case k5 => k_asm); (case k6 => k_is); (case k7 => k_is); (case k8 => ktr_room); (case k9 => exact BindsTo.of_eq rfl); (case c5 => decide); (case kB => exact locs rfl); (case c2 => exact rfl); (case c3 => exact rfl); (case c4 => exact rfl); k_whole)))
local macro_rules | `(tactic| walk_at "M frame") => `(tactic| (intro z hz; (try dsimp only); (repeat' split) <;> first | rfl | contradiction | (exfalso; simp_all; done) | (simp_all; done)))
local macro_rules | `(tactic| walk_at "M frame0") => `(tactic| (intro z; (try dsimp only); (repeat' split) <;> first | rfl | contradiction | (exfalso; simp_all; done) | (subst_vars; first | rfl | (exfalso; simp_all (config := { decide := true }); done) | (simp (config := { decide := true }) at *; done)) | (simp_all; done)))
local macro_rules | `(tactic| walk_at "M led") => `(tactic| (intro p hp; first | exact absurd hp List.not_mem_nil | ((simp only [List.mem_cons, List.mem_append, List.not_mem_nil, or_false, false_or] at hp ⊢); ((repeat (rcases hp with hp | hp)) <;> first | (simp only [hp, true_or, or_true]; done) | (simp; done)))))
local macro_rules | `(tactic| walk_at "M mem") => `(tactic| first | (simp only [List.mem_cons, List.mem_append, List.not_mem_nil, or_false, false_or, true_or, or_true]; done) | (simp; done))
local macro_rules | `(tactic| walk_at "M enterC") => `(tactic| (k_dflt (refine' enterC ?k1 ?k2 ?k3 ?k5 ?kA ?kF ?kK ?k6 ?k7 ?k8 ?k9 ?kB ?kD ?_ ?c2 ?c3 ?c4; (case kA => exact rfl); (case kF => exact rfl); (case kK => assumption); (case k1 => k_asm); (case k2 => k_asm); (case k3 => k_asm); (case k5 => k_asm); (case k6 => k_is); (case k7 => k_is); (case k8 => ktr_room); (case k9 => exact BindsTo.of_eq rfl); (case kB => exact rfl); (case kD => decide +kernel); (case c2 => exact rfl); (case c3 => exact rfl); (case c4 => exact rfl); k_whole)))
local macro_rules | `(tactic| walk_at "M steps") => `(tactic| repeat' (first | (k_unfold; (try dsimp only)) | (k_end; wrow_close) | ((fail_if_success (with_reducible show wpAny _ _ (exec (Stmt.While _ _ _ _) _) _ _ _)); (fail_if_success (with_reducible show wpAny _ _ (exec (Stmt.For _ _ _ _ _) _) _ _ _)); first | walk1 | (dsimp only; walk1) | (leave1; walk_say "STEP leave1"; try dsimp only) | fail "no step")))
local macro_rules | `(tactic| walk_at "M ss") => `(tactic| repeat' (first | (k_unfold; (try dsimp only)) | (k_end; wrow_close) | ((fail_if_success (with_reducible show wpAny _ _ (exec (Stmt.While _ _ _ _) _) _ _ _)); (fail_if_success (with_reducible show wpAny _ _ (exec (Stmt.For _ _ _ _ _) _) _ _ _)); (fail_if_success (with_reducible show wpAny _ _ (subscriptTail _ _ (Value.ref _) _) _ _ _)); (fail_if_success (with_reducible show wpAny _ _ (callWith _ (Value.ref _) _ _ _) _ _ _)); (fail_if_success (with_reducible show wpAny _ _ (truthy (Value.ref _)) _ _ _)); first | walk1 | (dsimp only; walk1) | (leave1; walk_say "STEP leave1"; try dsimp only) | fail "no step")))
local macro_rules | `(tactic| walk_at "M halt") => `(tactic| repeat' (first | (k_unfold; (try dsimp only)) | (k_end; wrow_close) | ((fail_if_success (with_reducible show wpAny _ _ (exec (Stmt.While _ _ _ _) _) _ _ _)); (fail_if_success (with_reducible show wpAny _ _ (call (Value.ref _) _) _ _ _)); (fail_if_success (with_reducible show wpAny _ _ (subscriptTail _ _ (Value.str _ _) (Value.int _ _)) _ _ _)); (fail_if_success (with_reducible show wpAny _ _ (exec (Stmt.For _ _ _ _ _) _) _ _ _)); first | walk1 | (dsimp only; walk1) | (leave1; walk_say "STEP leave1"; try dsimp only) | fail "no step")))
local macro_rules | `(tactic| walk_at "M hs") => `(tactic| repeat' (first | (k_unfold; (try dsimp only)) | (k_end; wrow_close) | ((fail_if_success (with_reducible show wpAny _ _ (exec (Stmt.While _ _ _ _) _) _ _ _)); (fail_if_success (with_reducible show wpAny _ _ (call (Value.ref _) _) _ _ _)); (fail_if_success (with_reducible show wpAny _ _ (subscriptTail _ _ (Value.str _ _) (Value.int _ _)) _ _ _)); (fail_if_success (with_reducible show wpAny _ _ (exec (Stmt.For _ _ _ _ _) _) _ _ _)); (fail_if_success (with_reducible show wpAny _ _ (subscriptTail _ _ (Value.ref _) _) _ _ _)); (fail_if_success (with_reducible show wpAny _ _ (callWith _ (Value.ref _) _ _ _) _ _ _)); (fail_if_success (with_reducible show wpAny _ _ (truthy (Value.ref _)) _ _ _)); first | walk1 | (dsimp only; walk1) | (leave1; walk_say "STEP leave1"; try dsimp only) | fail "no step")))

noncomputable abbrev mwObj (sl : Addr) : Obj := { cls := .type "method-wrapper", data := .fields #[.builtin "list.__contains__", .ref sl] }
noncomputable abbrev itObj (l : Addr) (i : Int) : Obj := { cls := .type "list_iterator", data := .fields #[.ref l, .int i 0] }
noncomputable abbrev itEnd (i : Int) : Obj := { cls := .type "list_iterator", data := .fields #[.none, .int i 0] }
noncomputable abbrev ffObj (d q it : Addr) : Obj := ⟨.ref 102, some d, .plain, #[some (.ref q), some (.ref it)]⟩
section
variable {prog : Program} {w : World} {A : Around} {E : Value → Shared → Prop} {s : Shared} {h₀ : Heap} {L : Addr} {m : Str → Option Value} {news : List (Addr × Obj)}
theorem getAttr_contains_K {a : Addr} {xs : Array Value} {Q : Value → Shared → Prop} (F : Fr h₀ L s.heap m) (N : News h₀ L s.heap news) (hx : s.heap.PlainList a xs) (hA : A.handled = none)
    (h : ∀ q h' tk', Fr h₀ L h' m → News h₀ L h' ((q, mwObj a) :: news) → (∀ p ∈ news, p.1 < q) → Q (.ref q) { s with heap := h', toks := tk' }) :
    wpAny (model prog w) A (getAttr (.ref a) ((Str.ofString "__contains__")) true) Q E s := by
  obtain ⟨k, ho⟩ := hx
  exact MineB.getAttr_contains ho rfl rfl rfl hA fun tk' => h _ _ tk' (F.push _) (N.push F _) fun p hp => Heap.lt_size (N p hp).1
theorem iter_K {a : Addr} {xs : Array Value} {Q : Value → Shared → Prop} (F : Fr h₀ L s.heap m) (N : News h₀ L s.heap news) (hx : s.heap.IsList a xs)
    (h : ∀ q h', Fr h₀ L h' m → News h₀ L h' ((q, itObj a 0) :: news) → (∀ p ∈ news, p.1 < q) → Q (.ref q) { s with heap := h' }) :
    wpAny (model prog w) A (call (.builtin "iter") [.ref a]) Q E s :=
  MineB.iter_call hx (h _ _ (F.push _) (N.push F _) fun p hp => Heap.lt_size (N p hp).1)
theorem news_turn {a : Addr} {o o' : Obj} {rest : List (Addr × Obj)} {h h' : Heap} (N : News h₀ L h ((a, o) :: rest)) (off : ∀ p ∈ rest, p.1 ≠ a) (hs : Heap.SameBut a h h') (ho : h'.get? a = some o') : News h₀ L h' ((a, o') :: rest) := by
  intro p hp
  rcases List.mem_cons.mp hp with rfl | hp
  · exact ⟨ho, (N (a, o) (.head _)).2⟩
  · exact ⟨(hs.2 _ (off p hp)).trans (N p (.tail _ hp)).1, (N p (.tail _ hp)).2⟩
theorem fr_turn {a : Addr} {o : Obj} {rest : List (Addr × Obj)} {h h' : Heap} (F : Fr h₀ L h m) (N : News h₀ L h ((a, o) :: rest)) (hs : Heap.SameBut a h h') : Fr h₀ L h' m :=
  F.change hs (N (a, o) (.head _)).2.1 (N (a, o) (.head _)).2.2
theorem next_K {it l : Addr} {i : Nat} {items : Array Value} {x : Value} {rest : List (Addr × Obj)} {Q : Value → Shared → Prop} (F : Fr h₀ L s.heap m) (N : News h₀ L s.heap ((it, itObj l i) :: rest)) (off : ∀ p ∈ rest, p.1 ≠ it)
    (hl : s.heap.IsList l items) (hx : items[i]? = some x)
    (h : ∀ h', Fr h₀ L h' m → News h₀ L h' ((it, itObj l ((i + 1 : Nat) : Int)) :: rest) → Q x { s with heap := h' }) :
    wpAny (model prog w) A (call (.builtin "next") [.ref it]) Q E s := by
  have e := (N _ (.head _)).1
  refine MineB.next_item ⟨_, e, rfl, rfl⟩ hl hx (fun h' ho hs => h h' (fr_turn F N hs) (news_turn N off hs ?_)) e
  rw [ho]; push_cast; rfl
theorem next_end_K {it l : Addr} {i : Nat} {items : Array Value} {rest : List (Addr × Obj)} {Q : Value → Shared → Prop} (hh : A.handled = none) (F : Fr h₀ L s.heap m) (N : News h₀ L s.heap ((it, itObj l i) :: rest)) (off : ∀ p ∈ rest, p.1 ≠ it)
    (hl : s.heap.IsList l items) (hx : items[i]? = none)
    (hE : ∀ h₁ h' e, Fr h₀ L h₁ m → News h₀ L h₁ ((it, itEnd i) :: rest) → Heap.NewExc h₁ h' e "StopIteration" → E (.ref e) { s with heap := h' }) :
    wpAny (model prog w) A (call (.builtin "next") [.ref it]) Q E s := by
  have e := (N _ (.head _)).1
  exact MineB.next_end hh ⟨_, e, rfl, rfl⟩ hl hx (fun h₁ h' e hs ho hx => hE h₁ h' e (fr_turn F N hs) (news_turn N off hs ho) hx) e
end

/-- is the text in the list? -/
noncomputable def hasV (svs : List Value) : Value → Bool
  | .str y _ => svs.toArray.any fun u => match u with | .str z _ => z.cps.toList == y.cps.toList | _ => false
  | _ => false
noncomputable abbrev keepV (svs : List Value) (v : Value) : Bool := !hasV svs v
theorem take_filter_succ {f : Value → Bool} {l : List Value} {i : Nat} {v : Value} (h : l[i]? = some v) : (l.take (i + 1)).filter f = (l.take i).filter f ++ (if f v then [v] else []) := by
  rw [List.take_add_one, h, List.filter_append]
  cases hp : f v <;> simp [hp]
theorem bound_is {prog : Program} {w : World} {A : Around} {E : Value → Shared → Prop} {s : Shared} {Q : Value → Shared → Prop} {q l : Addr} {svs : List Value} {y : Str} {t : Tok} {ss : List Str} (hs : Txs svs ss)
    (hq : s.heap.get? q = some (mwObj l)) (hl : s.heap.PlainList l svs.toArray) (h : Q (.bool (hasV svs (.str y t))) s) :
    wpAny (model prog w) A (call (.ref q) [.str y t]) Q E s := by
  refine MineB.call_contains (fun u => match u with | .str z _ => z.cps.toList == y.cps.toList | _ => false) ?_ hq hl h
  intro u hu
  obtain ⟨i, hi⟩ := List.mem_iff_getElem?.mp (by simpa using hu : u ∈ svs)
  obtain ⟨z, tz, rfl, _⟩ := hs.at hi
  exact SeqRoads2.EqGives.str z y tz t
set_option maxRecDepth 100000 in
set_option maxHeartbeats 8000000 in
theorem next_spec (w : World) {mean : ExcName → Option Value} {mg mb : Str → Option Value} {A A₀ : Around} {base H0 : Heap} {outer : List Env} {env : Env} {LF : Addr} {mF : Str → Option Value} {s : Shared} {Q E : Value → Shared → Prop}
    {fl sl it x d q : Addr} {fvs svs : List Value} {fs ss : List Str} {p : Nat} {nx : List (Addr × Obj)}
    (hf : Txs fvs fs) (hs : Txs svs ss)
    (B : Below A₀ base outer H0) (F : Fr H0 LF s.heap mF) (X : (KK w.params).In H0) (T : Top topProg LL mean mg mb H0) (hA : A.frames = some (env :: outer)) (hef : env.frame = some LF) (hke : env.scope.kind = .function) (hhand : A.handled = none)
    (hdp : A.depth + 10 < recursionLimit) (hun : A.units + 60 < cLine)
    (N : News H0 LF s.heap ((it, itObj fl p) :: (x, ffObj d q it) :: (d, dictOf [] 0) :: (q, mwObj sl) :: nx)) (l1 : q < d) (l2 : d < x) (l3 : x < it) (off : ∀ c ∈ nx, c.1 ≠ it)
    (hfl : H0.IsList fl fvs.toArray) (hsl : H0.PlainList sl svs.toArray)
    (item : ∀ v j h' tk', fvs[j]? = some v → keepV svs v = true → (fvs.take j).filter (keepV svs) = (fvs.take p).filter (keepV svs) → Fr H0 LF h' mF →
      News H0 LF h' ((it, itObj fl ((j + 1 : Nat) : Int)) :: (x, ffObj d q it) :: (d, dictOf [] 0) :: (q, mwObj sl) :: nx) → Q v { s with heap := h', toks := tk' })
    (stop : ∀ h' tk' e g j, fvs.filter (keepV svs) = (fvs.take p).filter (keepV svs) → RaisedSN base g (env :: outer) e (.type "StopIteration") ((it, itEnd j) :: (x, ffObj d q it) :: (d, dictOf [] 0) :: (q, mwObj sl) :: nx) h' → g.UpToSlots h' → Fr H0 LF g mF →
      E (.ref e) { s with heap := h', toks := tk' }) :
    wpAny (model PySem.Challenge.rw_kt0017_01.row.prog w) A (call (.ref 98) [.ref x]) Q E s := by
  revert X
  k_fill
  intro X
  refine wpAny_call ?_
  k_dflt (refine' code_defG ?k1 ?k2 ?k3 ?k4 ?k5 ?kA ?kF ?kK ?k6 ?k7 ?k8 ?k9 ?kB ?_ ?c2 ?c3 ?c4 ?c5; (case kA => exact hA); (case kF => exact hef); (case kK => assumption); (case k1 => k_asm); (case k2 => k_asm); (case k3 => k_asm); (case k4 => exact N); (case k5 => k_asm); (case k6 => k_is); (case k7 => k_is); (case k8 => omega); (case k9 => exact BindsTo.of_eq rfl); (case c5 => decide); (case kB => exact locs rfl); (case c2 => exact rfl); (case c3 => exact rfl); (case c4 => exact rfl); k_whole)
  intro g L' h₁ FG F' N' B' X' T' GS
  clear F N B X T
  replace F' : Fr g L' h₁ (fun y => List.lookup y [((Str.ofString "self"), .ref x)]) := F'
  try dsimp only
  walk_at "M steps"
  (rename Fr _ _ _ _ => F9); (rename News _ _ _ _ => N9)
  refine' while_inv (σ := Nat × Option Value) (fun c y => if y = (Str.ofString "item") then c.2 else if y = (Str.ofString "func") then some (.ref q) else List.lookup y [((Str.ofString "self"), .ref x)]) (fun c => (it, itObj fl c.1) :: (x, ffObj d q it) :: (d, dictOf [] 0) :: (q, mwObj sl) :: nx) (fun n c => n = fvs.length - c.1 ∧ (fvs.take c.1).filter (keepV svs) = (fvs.take p).filter (keepV svs)) (fvs.length - p) (p, none) F9 ?h1 N9 ?h2 ?h3 ?h4
  case h1 => walk_at "M frame0"
  case h2 => exact ⟨rfl, rfl⟩
  case h3 => passes_own
  case h4 =>
    intro n c h tk Q2 hP F2 N2 hfin hgo
    obtain ⟨hP1, hP2⟩ := hP
    clear F9 N9
    walk_at "M steps"
    refine hgo _ fun Q3 hr hb hn => ?_
    have hflh : h.IsList fl fvs.toArray := (FG.lst hfl).at fun o e => F2.keep _ o e
    have off2 : ∀ z ∈ ((x, ffObj d q it) :: (d, dictOf [] 0) :: (q, mwObj sl) :: nx : List (Addr × Obj)), z.1 ≠ it := by
      intro z hz
      rcases List.mem_cons.mp hz with rfl | hz
      · exact Nat.ne_of_lt l3
      rcases List.mem_cons.mp hz with rfl | hz
      · exact Nat.ne_of_lt (Nat.lt_trans l2 l3)
      rcases List.mem_cons.mp hz with rfl | hz
      · exact Nat.ne_of_lt (Nat.lt_trans l1 (Nat.lt_trans l2 l3))
      exact off z hz
    walk_at "M steps"
    cases hv : fvs[c.1]? with
    | some v =>
      refine next_K F2 N2 off2 hflh (by simpa using hv) ?_
      intro h5 F5 N5
      obtain ⟨y, ty, rfl, hy⟩ := hf.at hv
      have hlt : c.1 < fvs.length := (List.getElem?_eq_some_iff.mp hv).1
      clear F2 N2 hflh
      walk_at "M steps"
      refine MineB.callWith_bound (id := "list.__contains__") (self := .ref sl) (.inl rfl) ?_
      walk_at "M steps"
      · (rename Fr _ _ _ _ => F9); (rename News _ _ _ _ => N9)
        exact (N9 (q, mwObj sl) (by walk_at "M mem")).1
      (rename Fr _ _ _ _ => F9); (rename News _ _ _ _ => N9)
      refine bound_is hs (N9 (q, mwObj sl) (by walk_at "M mem")).1 ?_ ?_
      · obtain ⟨nn, e⟩ := hsl
        exact ⟨nn, F9.keep _ _ (FG.keep _ _ e)⟩
      cases hk : hasV svs (.str y ty) with
      | false =>
        walk_at "M steps"
        (rename Fr _ _ _ _ => F9); (rename News _ _ _ _ => N9)
        refine hr _ _ (leaveK_ F9 N9 fun kF kN => ?_)
        exact item _ c.1 _ _ hv (by rw [keepV, hk]; rfl) hP2 kF kN
      | true =>
        walk_at "M steps"
        (rename Fr _ _ _ _ => F9); (rename News _ _ _ _ => N9)
        refine hn .next (fvs.length - (c.1 + 1)) (c.1 + 1, some (.str y ty)) _ _ _ _ (.inl rfl) (by rw [hP1]; omega) F9 N9 ?_ (fun p hp => hp) ⟨rfl, ?_⟩
        · walk_at "M frame0"
        · rw [take_filter_succ hv, hP2, keepV, hk]; simp
    | none =>
      refine next_end_K hhand F2 N2 off2 hflh (by simpa using hv) ?_
      intro h5 h6 e F5 N5 hx
      refine leave_newS B' hx F5 N5 fun h' R _ U => ?_
      dsimp only
      refine stop _ _ _ _ _ ?_ R U FG
      rw [← hP2, List.take_of_length_le (List.getElem?_eq_none_iff.mp hv)]
end Mine
end
section
open PySem PySem.W PyProof.Rows PySem.Calls PySem.Spec
namespace Mine
local macro_rules | `(tactic| k_room) => `(tactic| ktr_room)
local macro_rules | `(tactic| walk_at "M enter") => `(tactic| (k_dflt (refine' enterP ?k1 ?k2 ?k3 ?k5 ?kA ?kF ?kK ?k6 ?k7 ?k8 ?k9 ?kB ?_ ?c2 ?c3 ?c4 ?c5; (case kA => exact rfl); (case kF => exact rfl); (case kK => assumption); (case k1 => k_asm); (case k2 => k_asm); (case k3 => k_asm); (case k5 => k_asm); (case k6 => k_is); (case k7 => k_is); (case k8 => ktr_room); (case k9 => exact BindsTo.of_eq rfl); (case c5 => decide); (case kB => exact locs rfl); (case c2 => exact rfl); (case c3 => exact rfl); (case c4 => exact rfl); k_whole)))
local macro_rules | `(tactic| walk_at "M frame") => `(tactic| (intro z hz; (try dsimp only); (repeat' split) <;> first | rfl | contradiction | (exfalso; simp_all; done) | (simp_all; done)))
local macro_rules | `(tactic| walk_at "M frame0") => `(tactic| (intro z; (try dsimp only); (repeat' split) <;> first | rfl | contradiction | (exfalso; simp_all; done) | (subst_vars; first | rfl | (exfalso; simp_all (config := { decide := true }); done) | (simp (config := { decide := true }) at *; done)) | (simp_all; done)))
local macro_rules | `(tactic| walk_at "M led") => `(tactic| (intro p hp; first | exact absurd hp List.not_mem_nil | ((simp only [List.mem_cons, List.mem_append, List.not_mem_nil, or_false, false_or] at hp ⊢); ((repeat (rcases hp with hp | hp)) <;> first | (simp only [hp, true_or, or_true]; done) | (simp; done)))))
local macro_rules | `(tactic| walk_at "M mem") => `(tactic| first | (simp only [List.mem_cons, List.mem_append, List.not_mem_nil, or_false, false_or, true_or, or_true]; done) | (simp; done))
local macro_rules | `(tactic| walk_at "M enterC") => `(tactic| (k_dflt (refine' enterC ?k1 ?k2 ?k3 ?k5 ?kA ?kF ?kK ?k6 ?k7 ?k8 ?k9 ?kB ?kD ?_ ?c2 ?c3 ?c4; (case kA => exact rfl); (case kF => exact rfl); (case kK => assumption); (case k1 => k_asm); (case k2 => k_asm); (case k3 => k_asm); (case k5 => k_asm); (case k6 => k_is); (case k7 => k_is); (case k8 => ktr_room); (case k9 => exact BindsTo.of_eq rfl); (case kB => exact rfl); (case kD => decide +kernel); (case c2 => exact rfl); (case c3 => exact rfl); (case c4 => exact rfl); k_whole)))
local macro_rules | `(tactic| walk_at "M steps") => `(tactic| repeat' (first | (k_unfold; (try dsimp only)) | (k_end; wrow_close) | ((fail_if_success (with_reducible show wpAny _ _ (exec (Stmt.While _ _ _ _) _) _ _ _)); (fail_if_success (with_reducible show wpAny _ _ (exec (Stmt.For _ _ _ _ _) _) _ _ _)); first | walk1 | (dsimp only; walk1) | (leave1; walk_say "STEP leave1"; try dsimp only) | fail "no step")))
local macro_rules | `(tactic| walk_at "M ss") => `(tactic| repeat' (first | (k_unfold; (try dsimp only)) | (k_end; wrow_close) | ((fail_if_success (with_reducible show wpAny _ _ (exec (Stmt.While _ _ _ _) _) _ _ _)); (fail_if_success (with_reducible show wpAny _ _ (exec (Stmt.For _ _ _ _ _) _) _ _ _)); (fail_if_success (with_reducible show wpAny _ _ (subscriptTail _ _ (Value.ref _) _) _ _ _)); (fail_if_success (with_reducible show wpAny _ _ (callWith _ (Value.ref _) _ _ _) _ _ _)); (fail_if_success (with_reducible show wpAny _ _ (truthy (Value.ref _)) _ _ _)); first | walk1 | (dsimp only; walk1) | (leave1; walk_say "STEP leave1"; try dsimp only) | fail "no step")))
local macro_rules | `(tactic| walk_at "M halt") => `(tactic| repeat' (first | (k_unfold; (try dsimp only)) | (k_end; wrow_close) | ((fail_if_success (with_reducible show wpAny _ _ (exec (Stmt.While _ _ _ _) _) _ _ _)); (fail_if_success (with_reducible show wpAny _ _ (call (Value.ref _) _) _ _ _)); (fail_if_success (with_reducible show wpAny _ _ (subscriptTail _ _ (Value.str _ _) (Value.int _ _)) _ _ _)); (fail_if_success (with_reducible show wpAny _ _ (exec (Stmt.For _ _ _ _ _) _) _ _ _)); first | walk1 | (dsimp only; walk1) | (leave1; walk_say "STEP leave1"; try dsimp only) | fail "no step")))
local macro_rules | `(tactic| walk_at "M hs") => `(tactic| repeat' (first | (k_unfold; (try dsimp only)) | (k_end; wrow_close) | ((fail_if_success (with_reducible show wpAny _ _ (exec (Stmt.While _ _ _ _) _) _ _ _)); (fail_if_success (with_reducible show wpAny _ _ (call (Value.ref _) _) _ _ _)); (fail_if_success (with_reducible show wpAny _ _ (subscriptTail _ _ (Value.str _ _) (Value.int _ _)) _ _ _)); (fail_if_success (with_reducible show wpAny _ _ (exec (Stmt.For _ _ _ _ _) _) _ _ _)); (fail_if_success (with_reducible show wpAny _ _ (subscriptTail _ _ (Value.ref _) _) _ _ _)); (fail_if_success (with_reducible show wpAny _ _ (callWith _ (Value.ref _) _ _ _) _ _ _)); (fail_if_success (with_reducible show wpAny _ _ (truthy (Value.ref _)) _ _ _)); first | walk1 | (dsimp only; walk1) | (leave1; walk_say "STEP leave1"; try dsimp only) | fail "no step")))

noncomputable abbrev ffLed (fl sl it x d q : Addr) (p : Nat) (S : Addr) (acc : Array Value) (c : Nat) : List (Addr × Obj) :=
  [(it, itObj fl p), (x, ffObj d q it), (d, dictOf [] 0), (q, mwObj sl), (S, listOf acc c)]
theorem news_last {h₀ h h' : Heap} {L S : Addr} {o o' : Obj} {pre : List (Addr × Obj)} (N : News h₀ L h (pre ++ [(S, o)])) (off : ∀ p ∈ pre, p.1 ≠ S) (hs : Heap.SameBut S h h') (ho : h'.get? S = some o') : News h₀ L h' (pre ++ [(S, o')]) := by
  intro p hp
  rcases List.mem_append.mp hp with hp | hp
  · exact ⟨(hs.2 _ (off p hp)).trans (N p (List.mem_append_left _ hp)).1, (N p (List.mem_append_left _ hp)).2⟩
  · rw [List.mem_singleton.mp hp]
    exact ⟨ho, (N (S, o) (by simp)).2⟩
theorem led_update {h₀ h : Heap} {L S : Addr} {m : Str → Option Value} {o o' : Obj} {pre : List (Addr × Obj)} (F : Fr h₀ L h m) (N : News h₀ L h (pre ++ [(S, o)])) (off : ∀ p ∈ pre, p.1 ≠ S) (f : Obj → Obj) (ho : (h.update S f).get? S = some o') :
    Fr h₀ L (h.update S f) m ∧ News h₀ L (h.update S f) (pre ++ [(S, o')]) :=
  ⟨F.change (Heap.SameBut.update ..) (N (S, o) (by simp)).2.1 (N (S, o) (by simp)).2.2, news_last N off (Heap.SameBut.update ..) ho⟩
set_option maxRecDepth 100000 in
set_option maxHeartbeats 8000000 in
theorem ext_loop (w : World) {mean : ExcName → Option Value} {mg mb : Str → Option Value} {A A₀ : Around} {base H0 : Heap} {outer : List Env} {env : Env} {LF : Addr} {mF : Str → Option Value} {R : Result → Shared → Prop}
    {fl sl it x d q S : Addr} {fvs svs : List Value} {fs ss : List Str} {res : Value} {s₀ : Shared}
    (hf : Txs fvs fs) (hs : Txs svs ss)
    (B : Below A₀ base outer H0) (X : (KK w.params).In H0) (T : Top topProg LL mean mg mb H0) (hA : A.frames = some (env :: outer)) (hef : env.frame = some LF) (hke : env.scope.kind = .function) (hhand : A.handled = none)
    (hdp : A.depth + 10 < recursionLimit) (hun : A.units + 70 < cLine)
    (l1 : q < d) (l2 : d < x) (l3 : x < it) (l4 : it < S)
    (hfl : H0.IsList fl fvs.toArray) (hsl : H0.PlainList sl svs.toArray) (hsz : fvs.length ≤ sizeLine)
    (fin : ∀ h' tk' e g j c, RaisedSN base g (env :: outer) e (.type "StopIteration") [(it, itEnd j), (x, ffObj d q it), (d, dictOf [] 0), (q, mwObj sl), (S, listOf (fvs.filter (keepV svs)).toArray c)] h' → g.UpToSlots h' → Fr H0 LF g mF →
      R (.ok (.ret res)) { s₀ with heap := h', toks := tk' }) :
    ∀ (k p : Nat) (h : Heap) (tk : Nat) (acc : Array Value) (c : Nat), (fvs.filter (keepV svs)).length < acc.size + k → Fr H0 LF h mF → News H0 LF h (ffLed fl sl it x d q p S acc c) → acc = ((fvs.take p).filter (keepV svs)).toArray →
      codeAny (model PySem.Challenge.rw_kt0017_01.row.prog w) A (.builtin "list.extend.loop" ⟨[.ref S, .ref x, res], []⟩) R { s₀ with heap := h, toks := tk } := by
  revert X
  k_fill
  intro X k
  have sub : ∀ p, ((fvs.take p).filter (keepV svs)).length ≤ (fvs.filter (keepV svs)).length := fun p => by
    have : ((fvs.take p).filter (keepV svs)).Sublist (fvs.filter (keepV svs)) := (List.take_sublist p fvs).filter _
    exact this.length_le
  induction k with
  | zero =>
    intro p h tk acc c hk Fh N hacc
    have := sub p
    rw [hacc] at hk
    simp at hk
    omega
  | succ k ih =>
    intro p h tk acc c hk Fh N hacc
    refine codeAny_builtin PySem.F.entry_extend_loop ?_
    rw [Around.under_plainId PySem.F.plain_extend_loop _]
    show wpAny _ A.in1 (pyNext (.ref x) >>= _) _ _ _
    refine wpAny_bind ?_
    have I : InstAt h x (ffObj d q it) 102 (some (dictOf [] 0)) := InstAt.of_news N (.tail _ (.head _)) (.tail _ (.tail _ (.head _)))
    have hn : findIn (KK w.params) (.ref 102) ((Str.ofString "__next__")) = some (some (.ref 98)) := by k_is
    have hfn : isFn (KK w.params) (.ref 98) = true := by k_is
    refine owit_next Fh X I hn hfn ?_
    refine next_spec w hf hs B Fh X T (by exact hA) hef hke hhand (by exact hdp) (by show A.units + 1 + 60 < cLine; omega) N l1 l2 l3 ?_ hfl hsl ?_ ?_
    · intro z hz
      rw [List.mem_singleton.mp hz]
      exact Nat.ne_of_gt l4
    · intro v j h' tk' hv hkv hpre F' N'
      show wpAny _ A.in1 (updateSeq S (·.push v) >>= _) _ _ _
      have hS : h'.get? S = some (listOf acc c) := (N' (S, listOf acc c) (by simp)).1
      have hacc' : acc.push v = ((fvs.take (j + 1)).filter (keepV svs)).toArray := by
        rw [take_filter_succ hv, hkv, hpre, hacc]; simp
      have hlen : acc.size ≤ fvs.length := by
        rw [hacc]; simp only [List.size_toArray]
        exact Nat.le_trans (List.length_filter_le _ _) (by rw [List.length_take]; exact Nat.min_le_right _ _)
      refine wpAny_bind ?_
      refine wpAny_updateSeq hS rfl (wpAny_pure ⟨plainId_quiet PySem.F.plain_extend_loop _, ?_⟩) (Nat.le_trans hlen hsz) (by show (acc.push v).size ≤ sizeLine + 1; rw [Array.size_push]; exact Nat.succ_le_succ (Nat.le_trans hlen hsz))
      have hSne : ∀ c ∈ ([(it, itObj fl ((j + 1 : Nat) : Int)), (x, ffObj d q it), (d, dictOf [] 0), (q, mwObj sl)] : List (Addr × Obj)), c.1 ≠ S := by
        intro c hc
        rcases List.mem_cons.mp hc with rfl | hc
        · exact Nat.ne_of_lt l4
        rcases List.mem_cons.mp hc with rfl | hc
        · exact Nat.ne_of_lt (Nat.lt_trans l3 l4)
        rcases List.mem_cons.mp hc with rfl | hc
        · exact Nat.ne_of_lt (Nat.lt_trans l2 (Nat.lt_trans l3 l4))
        rw [List.mem_singleton.mp hc]
        exact Nat.ne_of_lt (Nat.lt_trans l1 (Nat.lt_trans l2 (Nat.lt_trans l3 l4)))
      have hS' := Heap.get?_update_self (Obj.mapSeq (·.push v)) hS rfl
      exact ih (j + 1) _ tk' (acc.push v) _ (by rw [Array.size_push]; omega) (F'.change (Heap.SameBut.update ..) (N' (S, listOf acc c) (by simp)).2.1 (N' (S, listOf acc c) (by simp)).2.2)
        (news_last (pre := [(it, itObj fl ((j + 1 : Nat) : Int)), (x, ffObj d q it), (d, dictOf [] 0), (q, mwObj sl)]) N' hSne (Heap.SameBut.update ..) hS') hacc'
    · intro h' tk' e g j hall R' U FG
      obtain ⟨Bh, a0, hB, hBG, hl, hfl'⟩ := id R'
      obtain ⟨ob, hob, hobc⟩ := hfl'.there
      have hT : Shared.TypeIs { s₀ with heap := h', toks := tk' } (.ref e) "StopIteration" := ⟨ob, hob, hobc⟩
      show wpAny _ _ (isInstance (.ref e) (.type "StopIteration")) _ _ _
      refine wpAny_isInstance hT isSubtype_stop ?_
      show (if true = true then _ else _)
      rw [if_pos rfl]
      rw [hacc, ← hall] at R'
      exact wpAny_pure (fin h' tk' e g j c R' U FG)

set_option maxRecDepth 100000 in
set_option maxHeartbeats 8000000 in
theorem self_spec (w : World) {mean : ExcName → Option Value} {mg mb : Str → Option Value} {A A₀ : Around} {base H0 : Heap} {outer : List Env} {env : Env} {LF : Addr} {mF : Str → Option Value} {s : Shared} {Q E : Value → Shared → Prop} {x : Addr} {nx : List (Addr × Obj)}
    (B : Below A₀ base outer H0) (F : Fr H0 LF s.heap mF) (X : (KK w.params).In H0) (T : Top topProg LL mean mg mb H0) (hA : A.frames = some (env :: outer)) (hef : env.frame = some LF) (hke : env.scope.kind = .function)
    (hdp : A.depth + 10 < recursionLimit) (N : News H0 LF s.heap nx)
    (h : ∀ h' tk', Fr H0 LF h' mF → News H0 LF h' nx → Q (.ref x) { s with heap := h', toks := tk' }) :
    wpAny (model PySem.Challenge.rw_kt0017_01.row.prog w) A (call (.ref 91) [.ref x]) Q E s := by
  revert X
  k_fill
  intro X
  refine wpAny_call ?_
  k_dflt (refine' code_defG ?k1 ?k2 ?k3 ?k4 ?k5 ?kA ?kF ?kK ?k6 ?k7 ?k8 ?k9 ?kB ?_ ?c2 ?c3 ?c4 ?c5; (case kA => exact hA); (case kF => exact hef); (case kK => assumption); (case k1 => k_asm); (case k2 => k_asm); (case k3 => k_asm); (case k4 => exact N); (case k5 => k_asm); (case k6 => k_is); (case k7 => k_is); (case k8 => omega); (case k9 => exact BindsTo.of_eq rfl); (case c5 => decide); (case kB => exact locs rfl); (case c2 => exact rfl); (case c3 => exact rfl); (case c4 => exact rfl); k_whole)
  intro g L' h₁ FG F' N' B' X' T' GS
  clear F N B X T
  replace F' : Fr g L' h₁ (fun y => List.lookup y [((Str.ofString "self"), .ref x)]) := F'
  try dsimp only
  walk_at "M steps"
  (rename Fr _ _ _ _ => F9); (rename News _ _ _ _ => N9)
  refine leaveK_ F9 N9 fun kF kN => ?_
  exact h _ _ kF kN

set_option maxRecDepth 100000 in
set_option maxHeartbeats 8000000 in
theorem own_list (w : World) {mean : ExcName → Option Value} {mg mb : Str → Option Value} {A A₀ : Around} {base H0 : Heap} {outer : List Env} {env : Env} {LF : Addr} {mF : Str → Option Value} {s : Shared} {Q E : Value → Shared → Prop}
    {fl sl it x d q : Addr} {fvs svs : List Value} {fs ss : List Str}
    (hf : Txs fvs fs) (hs : Txs svs ss)
    (B : Below A₀ base outer H0) (F : Fr H0 LF s.heap mF) (X : (KK w.params).In H0) (T : Top topProg LL mean mg mb H0) (hA : A.frames = some (env :: outer)) (hef : env.frame = some LF) (hke : env.scope.kind = .function) (hhand : A.handled = none)
    (hdp : A.depth + 20 < recursionLimit) (hun : A.units + 80 < cLine)
    (N : News H0 LF s.heap [(it, itObj fl 0), (x, ffObj d q it), (d, dictOf [] 0), (q, mwObj sl)]) (l1 : q < d) (l2 : d < x) (l3 : x < it)
    (hfl : H0.IsList fl fvs.toArray) (hsl : H0.PlainList sl svs.toArray) (hsz : fvs.length ≤ sizeLine)
    (fin : ∀ h' tk' e g j c S, RaisedSN base g (env :: outer) e (.type "StopIteration") [(it, itEnd j), (x, ffObj d q it), (d, dictOf [] 0), (q, mwObj sl), (S, listOf (fvs.filter (keepV svs)).toArray c)] h' → g.UpToSlots h' → Fr H0 LF g mF → S = s.heap.objs.size →
      Q (.ref S) { s with heap := h', toks := tk' }) :
    wpAny (model PySem.Challenge.rw_kt0017_01.row.prog w) A (call (.type "list") [.ref x]) Q E s := by
  revert X
  k_fill
  intro X
  have hit : s.heap.get? it = some (itObj fl 0) := (N _ (.head _)).1
  have l4 : it < s.heap.objs.size := Heap.lt_size hit
  refine callType_codes (Q₁ := fun obj s₁ => obj = .ref s.heap.objs.size ∧ s₁ = { s with heap := s.heap.push { cls := .type "list", data := .seq #[] } }) PySem.F.called_list (PySem.F.typeCall_list_1 _) PySem.F.entry_list_init
    (code_list_new _ ⟨rfl, rfl⟩) fun obj s₁ h₁ => ?_
  obtain ⟨rfl, rfl⟩ := h₁
  have hS : (s.heap.push { cls := .type "list", data := .seq #[] }).get? s.heap.objs.size = some { cls := .type "list", data := .seq #[] } := Heap.get?_push_size _ rfl
  refine ⟨⟨_, hS, rfl⟩, PySem.F.args_list_init_2 _ _, ?_⟩
  have F1 : Fr H0 LF (s.heap.push { cls := .type "list", data := .seq #[] }) mF := F.push _
  have N1 : News H0 LF (s.heap.push { cls := .type "list", data := .seq #[] }) (ffLed fl sl it x d q 0 s.heap.objs.size #[] 0) := by
    have := N.push F { cls := .type "list", data := .seq #[] }
    intro p hp
    refine this p ?_
    simp only [ffLed, List.mem_cons, List.not_mem_nil, or_false] at hp ⊢
    rcases hp with rfl | rfl | rfl | rfl | rfl
    · exact .inr (.inl rfl)
    · exact .inr (.inr (.inl rfl))
    · exact .inr (.inr (.inr (.inl rfl)))
    · exact .inr (.inr (.inr (.inr rfl)))
    · exact .inl rfl
  have hSne : ∀ c ∈ ([(it, itObj fl 0), (x, ffObj d q it), (d, dictOf [] 0), (q, mwObj sl)] : List (Addr × Obj)), c.1 ≠ s.heap.objs.size := fun c hc => Nat.ne_of_lt (Heap.lt_size (N c hc).1)
  show wpAny _ A.in1.in1 (do let old ← Builtin.List.listItems (.ref s.heap.objs.size); Builtin.List.listUpdate (.ref s.heap.objs.size) (fun _ => #[]); letGo old.toList.reverse; Builtin.List.listExtendWith (.ref s.heap.objs.size) (.ref x) .none) _ _ _
  refine wpAny_bind ?_
  unfold Builtin.List.listItems
  refine wpAny_bind (wpAny_seqItems hS rfl (wpAny_pure ?_))
  show wpAny _ A.in1.in1 (updateSeq s.heap.objs.size (fun _ => #[]) >>= fun _ => letGo (#[] : Array Value).toList.reverse >>= fun _ => Builtin.List.listExtendWith (.ref s.heap.objs.size) (.ref x) .none) _ _ _
  refine wpAny_bind (wpAny_updateSeq hS rfl ?_)
  have hS₂ := Heap.get?_update_self (Obj.mapSeq (fun _ => (#[] : Array Value))) hS rfl
  obtain ⟨F2, N2⟩ := led_update (pre := [(it, itObj fl 0), (x, ffObj d q it), (d, dictOf [] 0), (q, mwObj sl)]) F1 N1 hSne _ hS₂
  refine wpAny_bind (wpAny_letGo ?_)
  have I : InstAt ((s.heap.push { cls := .type "list", data := .seq #[] }).update s.heap.objs.size (Obj.mapSeq (fun _ => (#[] : Array Value)))) x (ffObj d q it) 102 (some (dictOf [] 0)) := InstAt.of_news N2 (.tail _ (.head _)) (.tail _ (.tail _ (.head _)))
  have hn1 : findIn (KK w.params) (.ref 102) ((Str.ofString "__next__")) = some (some (.ref 98)) := by k_is
  have hn2 : findIn (KK w.params) (.ref 102) ((Str.ofString "__iter__")) = some (some (.ref 91)) := by k_is
  have hf2 : isFn (KK w.params) (.ref 91) = true := by k_is
  have hn3 : findIn (KK w.params) (.ref 102) ((Str.ofString "__len__")) = some none := by k_is
  have hn4 : findIn (KK w.params) (.ref 102) ((Str.ofString "__length_hint__")) = some none := by k_is
  unfold Builtin.List.listExtendWith
  refine wpAny_bind (I.type.here ?_)
  have hx : x < s.heap.objs.size := Heap.lt_size (N _ (.tail _ (.head _))).1
  have e1 : Builtin.List.listSameRef (.ref s.heap.objs.size) (.ref x) = false := by simp [Builtin.List.listSameRef, Nat.ne_of_gt hx]
  have e2 : (Value.ref 102 == Value.type "list") = false := by decide
  have e3 : (Value.ref 102 == Value.type "tuple") = false := by decide
  simp only [e1, e2, e3, Bool.or_false, Bool.false_eq_true, if_false]
  refine wpAny_bind (owit_iter F2 X I hn2 hf2 ?_)
  refine self_spec w B F2 X T (by exact hA) hef hke (by show A.depth + 10 < recursionLimit; omega) N2 ?_
  intro h3 tk3 F3 N3
  have I3 : InstAt h3 x (ffObj d q it) 102 (some (dictOf [] 0)) := InstAt.of_news N3 (.tail _ (.head _)) (.tail _ (.tail _ (.head _)))
  refine owit_it F3 X I3 hn1 ?_
  refine wpAny_bind (wpAny_holding ?_)
  unfold Builtin.List.listLengthHint
  refine wpAny_bind (wpAny_bind (I3.type.here ((looks_findIn (X.keeps F3.keep) hn3).here ?_)))
  show wpAny _ _ (specialOf (Value.ref x) (Str.ofString "__length_hint__") >>= _) _ _ _
  refine wpAny_bind (wpAny_bind (I3.type.here ((looks_findIn (X.keeps F3.keep) hn4).here ?_)))
  refine wpAny_pure ?_
  show wpAny _ _ (rule "list.extend.makes-room" >>= fun _ => Builtin.List.listTouch (.ref s.heap.objs.size) >>= fun _ =>
    again (.builtin "list.extend.loop" ⟨[.ref s.heap.objs.size, .ref x, .none], []⟩)) _ _ _
  refine wpAny_bind (wpAny_rule ?_)
  refine wpAny_bind ?_
  show wpAny _ _ (updateSeq s.heap.objs.size (·.push .none) >>= fun _ => updateSeq s.heap.objs.size (·.pop)) _ _ _
  have hS3 := (N3 _ (List.mem_append_right [(it, itObj fl 0), (x, ffObj d q it), (d, dictOf [] 0), (q, mwObj sl)] (List.mem_singleton.mpr rfl))).1
  refine wpAny_bind (wpAny_updateSeq hS3 rfl ?_)
  have hS4 := Heap.get?_update_self (Obj.mapSeq (·.push Value.none)) hS3 rfl
  obtain ⟨F4, N4⟩ := led_update (pre := [(it, itObj fl 0), (x, ffObj d q it), (d, dictOf [] 0), (q, mwObj sl)]) F3 N3 hSne _ hS4
  refine wpAny_updateSeq (hz := by seq_fits) hS4 rfl ?_
  have hS5 := Heap.get?_update_self (Obj.mapSeq (·.pop)) hS4 rfl
  obtain ⟨F5, N5⟩ := led_update (pre := [(it, itObj fl 0), (x, ffObj d q it), (d, dictOf [] 0), (q, mwObj sl)]) F4 N4 hSne _ hS5
  refine wpAny_pure ⟨plainId_quiet PySem.F.plain_extend_loop _, ?_⟩
  have eu : A.in1.units = A.units + 1 := rfl
  refine ext_loop (A := A.in1) (s₀ := s) w hf hs B X T (by exact hA) hef hke hhand (by show A.depth + 10 < recursionLimit; omega) (by rw [eu]; omega) l1 l2 l3 l4 hfl hsl hsz ?_ ((fvs.filter (keepV svs)).length + 1) 0 _ _ #[] _ (by simp) F5 N5 (by simp)
  intro h' tk' e g j c R' U FG
  exact ⟨rfl, fin h' tk' e g j c _ R' U FG rfl⟩
end Mine
end
section
open PySem PySem.W PyProof.Rows PySem.Calls PySem.Spec
namespace Mine
local macro_rules | `(tactic| k_room) => `(tactic| ktr_room)
local macro_rules | `(tactic| walk_at "M enter") => `(tactic| (k_dflt (refine' enterP ?k1 ?k2 ?k3 ?k5 ?kA ?kF ?kK ?k6 ?k7 ?k8 ?k9 ?kB ?_ ?c2 ?c3 ?c4 ?c5; (case kA => exact rfl); (case kF => exact rfl); (case kK => assumption); (case k1 => k_asm); (case k2 => k_asm); (case k3 => k_asm); (case k5 => k_asm); (case k6 => k_is); (case k7 => k_is); (case k8 => ktr_room); (case k9 => exact BindsTo.of_eq rfl); (case c5 => decide); (case kB => exact locs rfl); (case c2 => exact rfl); (case c3 => exact rfl); (case c4 => exact rfl); k_whole)))
local macro_rules | `(tactic| walk_at "M frame") => `(tactic| (intro z hz; (try dsimp only); (repeat' split) <;> first | rfl | contradiction | (exfalso; simp_all; done) | (simp_all; done)))
local macro_rules | `(tactic| walk_at "M frame0") => `(tactic| (intro z; (try dsimp only); (repeat' split) <;> first | rfl | contradiction | (exfalso; simp_all; done) | (subst_vars; first | rfl | (exfalso; simp_all (config := { decide := true }); done) | (simp (config := { decide := true }) at *; done)) | (simp_all; done)))
local macro_rules | `(tactic| walk_at "M led") => `(tactic| (intro p hp; first | exact absurd hp List.not_mem_nil | ((simp only [List.mem_cons, List.mem_append, List.not_mem_nil, or_false, false_or] at hp ⊢); ((repeat (rcases hp with hp | hp)) <;> first | (simp only [hp, true_or, or_true]; done) | (simp; done)))))
local macro_rules | `(tactic| walk_at "M mem") => `(tactic| first | (simp only [List.mem_cons, List.mem_append, List.not_mem_nil, or_false, false_or, true_or, or_true]; done) | (simp; done))
local macro_rules | `(tactic| walk_at "M enterC") => `(tactic| (k_dflt (refine' enterC ?k1 ?k2 ?k3 ?k5 ?kA ?kF ?kK ?k6 ?k7 ?k8 ?k9 ?kB ?kD ?_ ?c2 ?c3 ?c4; (case kA => exact rfl); (case kF => exact rfl); (case kK => assumption); (case k1 => k_asm); (case k2 => k_asm); (case k3 => k_asm); (case k5 => k_asm); (case k6 => k_is); (case k7 => k_is); (case k8 => ktr_room); (case k9 => exact BindsTo.of_eq rfl); (case kB => exact rfl); (case kD => decide +kernel); (case c2 => exact rfl); (case c3 => exact rfl); (case c4 => exact rfl); k_whole)))
local macro_rules | `(tactic| walk_at "M steps") => `(tactic| repeat' (first | (k_unfold; (try dsimp only)) | (k_end; wrow_close) | ((fail_if_success (with_reducible show wpAny _ _ (exec (Stmt.While _ _ _ _) _) _ _ _)); (fail_if_success (with_reducible show wpAny _ _ (exec (Stmt.For _ _ _ _ _) _) _ _ _)); first | walk1 | (dsimp only; walk1) | (leave1; walk_say "STEP leave1"; try dsimp only) | fail "no step")))
local macro_rules | `(tactic| walk_at "M ss") => `(tactic| repeat' (first | (k_unfold; (try dsimp only)) | (k_end; wrow_close) | ((fail_if_success (with_reducible show wpAny _ _ (exec (Stmt.While _ _ _ _) _) _ _ _)); (fail_if_success (with_reducible show wpAny _ _ (exec (Stmt.For _ _ _ _ _) _) _ _ _)); (fail_if_success (with_reducible show wpAny _ _ (subscriptTail _ _ (Value.ref _) _) _ _ _)); (fail_if_success (with_reducible show wpAny _ _ (callWith _ (Value.ref _) _ _ _) _ _ _)); (fail_if_success (with_reducible show wpAny _ _ (truthy (Value.ref _)) _ _ _)); first | walk1 | (dsimp only; walk1) | (leave1; walk_say "STEP leave1"; try dsimp only) | fail "no step")))
local macro_rules | `(tactic| walk_at "M halt") => `(tactic| repeat' (first | (k_unfold; (try dsimp only)) | (k_end; wrow_close) | ((fail_if_success (with_reducible show wpAny _ _ (exec (Stmt.While _ _ _ _) _) _ _ _)); (fail_if_success (with_reducible show wpAny _ _ (call (Value.ref _) _) _ _ _)); (fail_if_success (with_reducible show wpAny _ _ (subscriptTail _ _ (Value.str _ _) (Value.int _ _)) _ _ _)); (fail_if_success (with_reducible show wpAny _ _ (exec (Stmt.For _ _ _ _ _) _) _ _ _)); first | walk1 | (dsimp only; walk1) | (leave1; walk_say "STEP leave1"; try dsimp only) | fail "no step")))
local macro_rules | `(tactic| walk_at "M hs") => `(tactic| repeat' (first | (k_unfold; (try dsimp only)) | (k_end; wrow_close) | ((fail_if_success (with_reducible show wpAny _ _ (exec (Stmt.While _ _ _ _) _) _ _ _)); (fail_if_success (with_reducible show wpAny _ _ (call (Value.ref _) _) _ _ _)); (fail_if_success (with_reducible show wpAny _ _ (subscriptTail _ _ (Value.str _ _) (Value.int _ _)) _ _ _)); (fail_if_success (with_reducible show wpAny _ _ (exec (Stmt.For _ _ _ _ _) _) _ _ _)); (fail_if_success (with_reducible show wpAny _ _ (subscriptTail _ _ (Value.ref _) _) _ _ _)); (fail_if_success (with_reducible show wpAny _ _ (callWith _ (Value.ref _) _ _ _) _ _ _)); (fail_if_success (with_reducible show wpAny _ _ (truthy (Value.ref _)) _ _ _)); first | walk1 | (dsimp only; walk1) | (leave1; walk_say "STEP leave1"; try dsimp only) | fail "no step")))

theorem law_after {h₀ H0 g h' : Heap} {L LF e : Addr} {m mF : Str → Option Value} {envf envl : Env} {cls : Value} {news : List (Addr × Obj)} (FL : Fr h₀ L H0 m) (FG : Fr H0 LF g mF) (R : RaisedSN h₀ g [envf, envl] e cls news h') (U : g.UpToSlots h')
    (hf : envf.frame = some LF) (hl : envl.frame = some L) : Fr h₀ L h' m ∧ (∀ nw, News h₀ L H0 nw → News h₀ L h' nw) ∧ ∀ q ∈ news, h'.get? q.1 = some q.2 := by
  obtain ⟨B, a0, hB, hBG, hn, hfl⟩ := R
  have hLF : H0.get? LF = none := kts_self FG
  have stay : ∀ b o, H0.get? b = some o → b ≠ L → h'.get? b = some o := by
    intro b o e hb
    refine hfl.1 b o (hBG b o (FG.keep b o e) ?_)
    intro hm
    obtain ⟨env, he, hfr⟩ := List.mem_filterMap.mp hm
    rcases List.mem_cons.mp he with rfl | he
    · rw [hf] at hfr
      rw [← Option.some.inj hfr, hLF] at e; cases e
    · rw [List.mem_singleton.mp he, hl] at hfr
      exact hb (Option.some.inj hfr).symm
  have hns : h'.Ns L m := by
    obtain ⟨o, a1, a2, a3, a4⟩ := FL.ns
    exact U.ns ⟨o, a1, a2, FG.keep _ _ a3, a4⟩
  refine ⟨⟨hns, fun b o e => stay b o (FL.keep b o e) (Nat.ne_of_lt (Nat.lt_of_lt_of_le (Heap.lt_size e) FL.above)), FL.above⟩, fun nw N p hp => ⟨stay _ _ (N p hp).1 (N p hp).2.1, (N p hp).2⟩, fun q hq => hfl.1 _ _ (hn q hq).1⟩
set_option maxRecDepth 100000 in
set_option maxHeartbeats 8000000 in
theorem filter_spec (w : World) (mean : ExcName → Option Value) (mg mb : Str → Option Value) (fl sl : Addr) (fvs svs : List Value) (fs ss : List Str) (hf : Txs fvs fs) (hs : Txs svs ss) (hsz : fvs.length ≤ sizeLine) :
    SpecX w mean mg mb 113 [.ref fl, .ref sl] (fun h => h.PlainList fl fvs.toArray ∧ h.PlainList sl svs.toArray) (fun h h' r => ∃ rl nn, r = .ref rl ∧ h.get? rl = none ∧ h'.get? rl = some (listOf (fvs.filter (keepV svs)).toArray nn)) := by
  unfold SpecX
  k_fill
  intro dp un gd cn cs L a ccd cl A₀ h₀ m s Q E B F X T hk hd hu hpre hret
  walk_at "M enter"
  intro Lf h₁ Q' hQr hQn F' N' Bf Xf Tf
  clear X T
  obtain ⟨hpf, hps⟩ := hpre
  replace F' : Fr s.heap Lf h₁ (fun y => List.lookup y [((Str.ofString "skip"), .ref sl), ((Str.ofString "flist"), .ref fl)]) := F'
  have FL : PLift (Fr h₀ L s.heap m) := ⟨F⟩
  clear F
  try dsimp only
  k_steps
  (rename Fr _ _ _ _ => F9); (rename News _ _ _ _ => N9)
  have e1 : h₁.PlainList sl svs.toArray := by obtain ⟨n, e⟩ := hps; exact ⟨n, F9.keep _ _ e⟩
  refine getAttr_contains_K F9 N9 e1 rfl ?_
  clear F9 N9
  intro q h2 tk2 F2 N2 l2
  k_steps
  (rename Fr _ _ _ _ => F9); (rename News _ _ _ _ => N9)
  rename Fr s.heap Lf _ _ => FG9
  refine iter_K F9 N9 (F9.lst (FG9.lst hpf.isList)) ?_
  clear F9 N9
  intro it h3 F3 N3 l3
  k_lt l3
  k_steps
  (rename Fr _ _ _ _ => F9); (rename News _ _ _ _ => N9)
  have eu : ∀ (A : Around) (env : Env), (A.deeper env).units = A.units + 3 := fun _ _ => rfl
  have ed : ∀ (A : Around) (env : Env), (A.deeper env).depth = A.depth + 1 := fun _ _ => rfl
  refine own_list w hf hs Bf F9 Xf Tf rfl rfl rfl rfl ?_ ?_ N9 ?_ ?_ ?_ hpf.isList hps hsz ?_
  · rw [ed]; dsimp only; omega
  · rw [eu]; dsimp only; omega
  · refine ltN ?_; omega
  · refine ltN ?_; omega
  · refine ltN ?_; omega
  intro h' tk' e g j c S R U FG hS
  obtain ⟨a1, a2, a3⟩ := law_after FL.down FG R U rfl rfl
  refine hQr _ _ (hret _ _ _ a1 a2 ⟨S, c, rfl, ?_, a3 (S, _) (by simp)⟩)
  rw [hS]
  exact next_is_new F9
end Mine
end
section
open PySem PySem.W PyProof.Rows PySem.Calls PySem.Spec
namespace Mine
/-- a fresh exception, with the one that was handled when it was raised -/
structure NewX (h h' : Heap) (e : Addr) (cls : String) (ctx : Value) : Prop where
  keeps : ∀ b o, h.get? b = some o → h'.get? b = some o
  new : h.get? e = none
  there : ∃ ob t, h'.get? e = some ob ∧ ob.cls = .type cls ∧ ob.data = .fields #[t, .none, ctx, .none, .bool false, .none]
theorem NewX.of {h h' : Heap} {e : Addr} {cls : String} (x : Heap.NewExc h h' e cls) : NewX h h' e cls .none := ⟨x.keeps, x.new, x.there⟩
/-- an exception that has its first traceback entry -/
noncomputable def ExcOn (cls : String) (e T : Addr) (oe oT : Obj) (ctx fl : Value) : Prop :=
  oe.cls = .type cls ∧ (∃ t, oe.data = .fields #[t, .ref T, ctx, .none, .bool false, .none]) ∧ (∃ ts, oT.data = .fields ts ∧ ts[3]? = some fl) ∧ T ≠ e
section
variable {M : Model} {A₀ : Around} {E : Value → Shared → Prop} {s' : Shared} {base g h : Heap} {outer : List Env} {L a e : Addr} {m : Str → Option Value} {name : Str} {scope : Scope} {cd : Value} {Q : Unit → Shared → Prop} {news : List (Addr × Obj)} {cls : String} {ctx : Value}

theorem turn_ground {h₄ : Heap} (K : Below A₀ base outer g) (F : Fr g L h m) (ho : ∀ b o, h.get? b = some o → b ∉ (envOf name scope L a cd :: outer).filterMap (·.frame) → h₄.get? b = some o) (hsl : h.UpToSlots h₄) :
    ∃ g', KtsTurn (outer.filterMap (·.frame)) g g' ∧ Fr g' L h₄ m ∧ Below A₀ base outer g' :=
  kts_ground (name := name) (scope := scope) (a := a) (cd := cd) (B := hideAll h ((envOf name scope L a cd :: outer).filterMap (·.frame))) K F (fun b o e nm => hideAll_get _ e nm) (fun b o e => ho b o (of_hideAll _ e) (fun hm => by rw [hideAll_none _ hm] at e; cases e)) hsl

theorem note_new {A : Around} (hfr : A.frames = some (envOf name scope L a cd :: outer)) (K : Below A₀ base outer g) (F : Fr g L h m) (N : News g L h news) (hx : NewX h s'.heap e cls ctx)
    (k : ∀ h' g' T oe oT, KtsTurn (outer.filterMap (·.frame)) g g' → Fr g' L h' m → Below A₀ base outer g' → News g' L h' ((e, oe) :: (T, oT) :: news) → ExcOn cls e T oe oT ctx (rawInt L) → (∀ p ∈ news, p.1 ≠ T) → Q () { s' with heap := h' })
    (hk : scope.kind = .function := by rfl) :
    wpAny M A (noteFrame (.ref e) (envOf name scope L a cd)) Q E s' := by
  have K' := K.push (name := name) (a := a) (cd := cd) F hk
  obtain ⟨ob, t, he, hcls, hd⟩ := hx.there
  have hl : s'.heap.FunFrames base (envOf name scope L a cd :: outer) := K'.frames.of_keeps fun b o hb _ => ⟨o, hx.keeps b o hb, rfl⟩
  have hinF : ∀ b ∈ (envOf name scope L a cd :: outer).filterMap (·.frame), ∃ o, h.get? b = some o ∧ ∀ vs, o.data ≠ .fields vs := fun b hm => (K'.frames.mem hm).2
  have hee : e ∉ (envOf name scope L a cd :: outer).filterMap (·.frame) := fun hm => by
    obtain ⟨o, ho, _⟩ := hinF e hm
    rw [hx.new] at ho; cases ho
  unfold noteFrame
  simp only [show (envOf name scope L a cd).frame = some L from rfl]
  refine wpAny_bind (wpAny_field he hd (x := .none) rfl ?_)
  rw [if_neg (by decide)]
  refine wpAny_bind (wpAny_frameOf_fun hfr hl rfl fun h₁ hs₁ => ?_)
  refine wpAny_bind (wpAny_entryPlaceOf fun pl hpl => ?_)
  unfold EntryCells.newEntry newFields
  refine wpAny_bind (wpAny_newObj_type ?_ (hpl.sizeOk5 _ _ _ _ _))
  have he₁ : h₁.get? e = some ob := (hs₁.2.1 e hee).trans he
  have he₂ := Heap.get?_push_of_some (h := h₁) { cls := .type "traceback", dict := none, data := .fields ([Value.none, .ref L, .none, rawInt L, .none] ++ (if pl.isEmpty then List.replicate 6 Value.none else pl)).toArray } he₁
  refine wpAny_setField he₂ hd (by simp) ?_
  have hTe : h₁.objs.size ≠ e := Nat.ne_of_gt (Heap.lt_size he₁)
  have hd₃ := Obj.data_mapFields hd (·.setIfInBounds 1 (Value.ref h₁.objs.size))
  have he₃ := Heap.get?_update_self (Obj.mapFields (·.setIfInBounds 1 (Value.ref h₁.objs.size))) he₂ (Obj.isFreed_of_fields hd₃)
  have hT₃ := (Heap.get?_update_other (h₁.push { cls := .type "traceback", dict := none, data := .fields ([Value.none, .ref L, .none, rawInt L, .none] ++ (if pl.isEmpty then List.replicate 6 Value.none else pl)).toArray })
    (Obj.mapFields (·.setIfInBounds 1 (Value.ref h₁.objs.size))) (Ne.symm hTe)).trans (Heap.get?_push_size h₁ rfl)
  have hT4 : ([Value.none, Value.ref L, .none, rawInt L, .none] ++ (if pl.isEmpty then List.replicate 6 Value.none else pl)).toArray[3]? = some (rawInt L) := by simp
  have keep : ∀ b o, b ≠ e → h₁.get? b = some o →
      ((h₁.push { cls := .type "traceback", dict := none, data := .fields ([Value.none, .ref L, .none, rawInt L, .none] ++ (if pl.isEmpty then List.replicate 6 Value.none else pl)).toArray }).update e (Obj.mapFields (·.setIfInBounds 1 (Value.ref h₁.objs.size)))).get? b = some o :=
    fun b o hbe hb => by
      rw [Heap.get?_update_other _ _ (Ne.symm hbe)]
      exact Heap.get?_push_of_some _ hb
  generalize ((h₁.push { cls := .type "traceback", dict := none, data := .fields ([Value.none, .ref L, .none, rawInt L, .none] ++ (if pl.isEmpty then List.replicate 6 Value.none else pl)).toArray }).update e (Obj.mapFields (·.setIfInBounds 1 (Value.ref h₁.objs.size)))) = h₄ at *
  have ne_of : ∀ b o, h.get? b = some o → b ≠ e := fun b o q z => by rw [z, hx.new] at q; cases q
  have ho : ∀ b o, h.get? b = some o → b ∉ (envOf name scope L a cd :: outer).filterMap (·.frame) → h₄.get? b = some o := fun b o q nm => keep b o (ne_of b o q) ((hs₁.2.1 b nm).trans (hx.keeps b o q))
  have hsl : h.UpToSlots h₄ := fun b o q _ => by
    obtain ⟨sl, hs⟩ := hs₁.2.2 b o (hx.keeps b o q)
    exact ⟨sl, keep b _ (ne_of b o q) hs⟩
  have hTn : ∀ b o, h.get? b = some o → b ≠ h₁.objs.size := fun b o q => by
    obtain ⟨sl, hs⟩ := hs₁.2.2 b o (hx.keeps b o q)
    exact Nat.ne_of_lt (Heap.lt_size hs)
  obtain ⟨g', T', F', K''⟩ := turn_ground K F ho hsl
  have hLF : L ∈ (envOf name scope L a cd :: outer).filterMap (·.frame) := List.mem_filterMap.mpr ⟨_, List.mem_cons_self, rfl⟩
  refine k _ g' h₁.objs.size _ { cls := .type "traceback", dict := none, data := .fields ([Value.none, .ref L, .none, rawInt L, .none] ++ (if pl.isEmpty then List.replicate 6 Value.none else pl)).toArray } T' F' K'' ?_ ⟨(Obj.cls_mapFields _ _).trans hcls, ⟨t, hd₃⟩, ⟨_, rfl, hT4⟩, hTe⟩ (fun p hp q => hTn _ _ (N p hp).1 q)
  intro p hp
  rcases List.mem_cons.mp hp with rfl | hp
  · refine ⟨he₃, fun z => ?_, T'.none_ _ (kts_none F.keep hx.new)⟩
    obtain ⟨o, q, _⟩ := hinF L hLF
    have z' : e = L := z
    rw [← z', hx.new] at q; cases q
  rcases List.mem_cons.mp hp with rfl | hp
  · refine ⟨hT₃, fun z => ?_, T'.none_ _ ?_⟩
    · obtain ⟨o, q, _⟩ := hinF L hLF
      obtain ⟨sl, hs⟩ := hs₁.2.2 L o (hx.keeps L o q)
      have z' : h₁.objs.size = L := z
      exact absurd (Heap.lt_size hs) (by rw [← z']; exact Nat.lt_irrefl _)
    · show g.get? h₁.objs.size = none
      cases q : g.get? h₁.objs.size with
      | none => rfl
      | some o =>
        obtain ⟨sl, hs⟩ := hs₁.2.2 _ o (hx.keeps _ o (F.keep _ o q))
        exact absurd (Heap.lt_size hs) (Nat.lt_irrefl _)
  · obtain ⟨n1, n2, n3⟩ := N p hp
    refine ⟨ho _ _ n1 ?_, n2, T'.none_ _ n3⟩
    intro hm
    rcases kts_mem hm with z | z
    · exact n2 z
    · obtain ⟨_, o, q, _⟩ := K.frames.mem z
      rw [n3] at q; cases q
end
section
variable {M : Model} {A : Around} {E : Value → Shared → Prop} {s' : Shared} {g : Heap} {L e T : Addr} {m : Str → Option Value} {Q : Unit → Shared → Prop} {news : List (Addr × Obj)} {cls : String} {ctx fl : Value} {oe oT : Obj} {env : Env}
theorem note_again (N : News g L s'.heap ((e, oe) :: (T, oT) :: news)) (hx : ExcOn cls e T oe oT ctx (rawInt L)) (hf : env.frame = some L) (k : Q () s') : wpAny M A (noteFrame (.ref e) env) Q E s' := by
  obtain ⟨h1, ⟨t, h2⟩, ⟨ts, h3, h4⟩, h5⟩ := hx
  have he := (N (e, oe) (by simp)).1
  have hT := (N (T, oT) (by simp)).1
  unfold noteFrame
  simp only [hf]
  refine wpAny_bind (wpAny_field he h2 (x := .ref T) rfl ?_)
  rw [if_pos (by simp)]
  refine wpAny_bind (wpAny_field hT h3 h4 ?_)
  rw [if_pos (by simp)]
  exact wpAny_pure k
theorem set_flight (v : Option Addr) (F : Fr g L s'.heap m) (N : News g L s'.heap ((e, oe) :: (T, oT) :: news)) (off : ∀ p ∈ news, p.1 ≠ T) (hx : ExcOn cls e T oe oT ctx fl)
    (k : ∀ h' oT', Fr g L h' m → News g L h' ((e, oe) :: (T, oT') :: news) → ExcOn cls e T oe oT' ctx (v.elim Value.none fun f => rawInt f) → Q () { s' with heap := h' }) : wpAny M A (setFlight (.ref e) v) Q E s' := by
  obtain ⟨h1, ⟨t, h2⟩, ⟨ts, h3, h4⟩, h5⟩ := hx
  have he := (N (e, oe) (by simp)).1
  have hT := (N (T, oT) (by simp)).1
  have hsz : 3 < ts.size := (Array.getElem?_eq_some_iff.mp h4).1
  unfold setFlight
  refine wpAny_bind (wpAny_field he h2 (x := .ref T) rfl ?_)
  rw [if_pos (by simp)]
  refine wpAny_setField hT h3 hsz ?_
  have hd := Obj.data_mapFields h3 (·.setIfInBounds 3 (v.elim Value.none fun f => rawInt f))
  have h6 := Heap.get?_update_self (Obj.mapFields (·.setIfInBounds 3 (v.elim Value.none fun f => rawInt f))) hT (Obj.isFreed_of_fields hd)
  have F2 := F.change (Heap.SameBut.update s'.heap T (Obj.mapFields (·.setIfInBounds 3 (v.elim Value.none fun f => rawInt f)))) (N (T, oT) (by simp)).2.1 (N (T, oT) (by simp)).2.2
  refine k _ _ F2 ?_ ⟨h1, ⟨t, h2⟩, ⟨_, hd, by simp [hsz]⟩, h5⟩
  intro p hp
  rcases List.mem_cons.mp hp with rfl | hp
  · exact ⟨(Heap.get?_update_ne _ _ _ _ h5.symm).trans he, (N (e, oe) (by simp)).2⟩
  rcases List.mem_cons.mp hp with rfl | hp
  · exact ⟨h6, (N (T, oT) (by simp)).2⟩
  · exact ⟨(Heap.get?_update_ne _ _ _ _ (off p hp)).trans (N p (by simp [hp])).1, (N p (by simp [hp])).2⟩
theorem pass_on {what : String} {Q : Flow → Shared → Prop} (F : Fr g L s'.heap m) (N : News g L s'.heap ((e, oe) :: (T, oT) :: news)) (off : ∀ p ∈ news, p.1 ≠ T) (hx : ExcOn cls e T oe oT ctx fl) (hf : env.frame = some L)
    (k : ∀ h' oT', Fr g L h' m → News g L h' ((e, oe) :: (T, oT') :: news) → ExcOn cls e T oe oT' ctx (rawInt L) → E (.ref e) { s' with heap := h' }) : wpAny M A (PySem.passOn what (.ref e) env) Q E s' := by
  have he := (N (e, oe) (by simp)).1
  have hx2 := hx
  obtain ⟨h1, ⟨t, h2⟩, ⟨ts, h3, h4⟩, h5⟩ := hx2
  unfold PySem.passOn
  refine wpAny_bind (wpAny_field he h2 (x := .ref T) rfl ?_)
  rw [if_neg (by simp)]
  first | refine wpAny_bind ?_ | skip
  rw [hf]
  refine set_flight (some L) F N off hx fun h' oT' F' N' X' => ?_
  exact wpAny_throw (k h' oT' F' N' X')
theorem came_back {E : Value → Shared → Prop} (F : Fr g L s'.heap m) (N : News g L s'.heap ((e, oe) :: (T, oT) :: news)) (off : ∀ p ∈ news, p.1 ≠ T) (hx : ExcOn cls e T oe oT ctx fl) (hf : env.frame = some L)
    (k : ∀ h' oT', Fr g L h' m → News g L h' ((e, oe) :: (T, oT') :: news) → ExcOn cls e T oe oT' ctx (rawInt L) → E (.ref e) { s' with heap := h' }) : cameBackBy M A env E (.ref e) s' := by
  have he := (N (e, oe) (by simp)).1
  have hx2 := hx
  obtain ⟨h1, ⟨t, h2⟩, ⟨ts, h3, h4⟩, h5⟩ := hx2
  unfold cameBackBy
  refine wpAny_bind (wpAny_field he h2 (x := .ref T) rfl ?_)
  rw [if_neg (by simp)]
  skip
  rw [hf]
  exact set_flight (Q := fun _ s'' => E (.ref e) s'') (some L) F N off hx fun h' oT' F' N' X' => k h' oT' F' N' X'
end
section
variable {prog : Program} {w : World} {A₀ : Around} {E : Value → Shared → Prop} {s' : Shared} {base g h : Heap} {outer : List Env} {L a e T : Addr} {m : Str → Option Value} {name : Str} {scope : Scope} {cd : Value} {oe oT : Obj} {ctx : Value}
  {b₀ : Stmt} {suite : List Stmt} {pos np : Pos} {rest : List ExceptHandler} {Q : Flow → Shared → Prop} {news : List (Addr × Obj)} {KF : Frag} {p : Program} {loose : List Str} {mean : ExcName → Option Value} {mg mb : Str → Option Value}
/-- the exception stands, its entry too: the clause catches it -/
theorem catch_land (F : Fr g L s'.heap m) (N : News g L s'.heap ((e, oe) :: (T, oT) :: news)) (off : ∀ p ∈ news, p.1 ≠ T) (hx : ExcOn "IndexError" e T oe oT ctx (rawInt L)) (X : KF.In g) (TB : Top p loose mean mg mb g)
    (ex : nsIn KF mainGlobals ("IndexError" : Str) = some none)
    (k : ∀ h', Fr g L h' m → News g L h' news → wpAny (model prog w) ((A₀.deeper (envOf name scope L a cd)).mark (some (.ref e))) (execs (b₀ :: suite) (envOf name scope L a cd)) Q E { s' with heap := h' })
    (hE : PassesOwnAt (model prog w) ((A₀.deeper (envOf name scope L a cd)).mark (some (.ref e))) (A₀.deeper (envOf name scope L a cd)) (envOf name scope L a cd) E)
    (hxk : (envOf name scope L a cd).kindOf ("IndexError" : Str) = some .globalImplicit) (hk : scope.kind = .function := by rfl)  :
    wpAny (model prog w) (A₀.deeper (envOf name scope L a cd)) (setFlight (.ref e) none) (fun _ s₃ =>
        wpAny (model prog w) (A₀.deeper (envOf name scope L a cd)) (handleBy (.ref e) (envOf name scope L a cd) (.ExceptHandler (some (.Name ("IndexError" : Str) np)) none (b₀ :: suite) pos :: rest)) Q E s₃) E s' := by
  refine set_flight none F N off hx fun h1 oT1 F1 N1 X1 => ?_
  have P1 : TopRead p loose mg mb g := topRead_of TB
  refine wpAny_handleBy_builtin (X := "IndexError") (T := "IndexError") (b := true) PySem.F.isExc_IndexError PySem.F.notTuple_IndexError (by rw [isSubtype_type]; kernel_rfl) (name_B F1 X P1 ex PyProof.Rows.Boot.«IndexError» (by decide) ⟨rfl, ⟨oe, (N1 (e, oe) (by simp)).1, X1.1⟩, ?_⟩ hk hxk (by decide))
  rw [if_pos rfl]
  refine set_flight none F1 N1 off X1 fun h2 oT2 F2 N2 X2 => ?_
  exact wpAny_passesOwnAt hE (k h2 F2 fun p hp => N2 p (List.mem_cons_of_mem _ (List.mem_cons_of_mem _ hp)))
end
theorem off_of {g h : Heap} {L e T : Addr} {oe oT : Obj} {news : List (Addr × Obj)} {cls : String} {ctx fl : Value} (N : News g L h ((e, oe) :: (T, oT) :: news)) (hx : ExcOn cls e T oe oT ctx fl) (hn : ∀ p ∈ news, ∀ vs, p.2.data ≠ .fields vs) : ∀ p ∈ news, p.1 ≠ T := fun p hp q => by
  obtain ⟨_, _, ⟨ts, h3, _⟩, _⟩ := hx
  have hT := (N (T, oT) (by simp)).1
  have hp1 := (N p (by simp [hp])).1
  rw [q] at hp1
  have e := Option.some.inj (hp1.symm.trans hT)
  exact hn p hp ts (by rw [e]; exact h3)
theorem cut_E {α : Type} {M : Model} {A : Around} {t : Sem α} {Q : α → Shared → Prop} {E : Value → Shared → Prop} {s : Shared} (R : (Value → Shared → Prop) → Prop) (h1 : R E) (h2 : ∀ E', R E' → wpAny M A t Q E' s) : wpAny M A t Q E s := h2 E h1
end Mine
end
section
open PySem PySem.W PyProof.Rows PySem.Calls PySem.Spec
open Sem (wp)
namespace Mine.MineX
open Mine
section
variable {α : Type} {prog : Program} {w : World} {A : Around} {E : Value → Shared → Prop} {s : Shared}
theorem entry_unchain : entryFor table "proto.unchain" = some Builtin.«proto.unchain» := entryFor_of_tree (by kernel_rfl)
theorem raise_new {e1 e2 : Addr} {o1 o2 : Obj} {vs1 vs2 : Array Value} {Q : α → Shared → Prop} (hh : A.handled = some (.ref e1)) (hne : e1 ≠ e2)
    (h1 : s.heap.get? e1 = some o1) (d1 : o1.data = .fields vs1) (c1 : vs1[2]? = some .none) (h2 : s.heap.get? e2 = some o2) (d2 : o2.data = .fields vs2) (z2 : 2 < vs2.size)
    (h : E (.ref e2) { s with heap := s.heap.update e2 (Obj.mapFields (·.setIfInBounds 2 (.ref e1))) }) :
    wpAny (model prog w) A (raiseNew (.ref e2) : Sem α) Q E s := by
  unfold raiseNew
  refine wpAny_bind (wpAny_handled ?_)
  rw [hh]
  dsimp only
  rw [if_pos (by simpa using hne)]
  refine wpAny_bind (wpAny_holding (wpAny_runValue (codeAny_builtin entry_unchain ?_)))
  refine wpAny_bind (wpAny_field h1 d1 c1 ?_)
  rw [if_pos (by decide)]
  refine wpAny_bind (wpAny_pure ?_)
  refine wpAny_pure ?_
  dsimp only
  unfold updateField
  refine wpAny_bind (wpAny_bind (wpAny_load h2 ?_))
  rw [d2]
  dsimp only
  rw [if_pos z2]
  refine wpAny_update h2 ?_
  exact wpAny_throw h

theorem raise_words {msg cls : String} {e1 : Addr} {o1 : Obj} {vs1 : Array Value} {Q : α → Shared → Prop} (hp : PlainExc cls) (hh : A.handled = some (.ref e1))
    (h1 : s.heap.get? e1 = some o1) (d1 : o1.data = .fields vs1) (c1 : vs1[2]? = some .none)
    (h : ∀ h' tk e, NewX s.heap h' e cls (.ref e1) → E (.ref e) { s with heap := h', toks := tk }) :
    wpAny (model prog w) A (raiseErrorWords cls msg : Sem α) Q E s := by
  unfold raiseErrorWords
  refine wpAny_bind (wpAny_mkText (wpAny_bind ?_))
  unfold newExc newTuple
  refine wpAny_bind (wpAny_newObj_type ?_)
  refine wpAny_bind (m := firstArgMember _ _) (wpAny_of_eq (a := Value.none) (by simp only [firstArgMember, hp.first]; rfl) ?_)
  rw [hp.own]
  refine wpAny_newObj_type ?_
  have l1 := Heap.lt_size h1
  refine raise_new hh (Nat.ne_of_lt (Nat.lt_of_lt_of_le l1 (by simp [Heap.push]))) (Heap.get?_push_of_some _ (Heap.get?_push_of_some _ h1)) d1 c1 (Heap.get?_push_size _ rfl) rfl (by simp) ?_
  have q := Heap.get?_push_size (s.heap.push { cls := .type "tuple", data := .seq [Value.str (Str.ofString msg) s.toks].toArray }) (o := { cls := .type cls, dict := none, data := .fields (#[Value.ref s.heap.objs.size, .none, .none, .none, .bool false, .none] ++ #[]) }) rfl
  refine h _ _ _ ⟨fun b o hb => ?_, Heap.get?_none_of_le (by simp), ?_⟩
  · rw [Heap.get?_update_other]
    · exact Heap.get?_push_of_some _ (Heap.get?_push_of_some _ hb)
    · have := Heap.lt_size hb
      exact Nat.ne_of_gt (Nat.lt_of_lt_of_le this (by simp [Heap.push]))
  · exact ⟨_, .ref s.heap.objs.size, Heap.get?_update_self _ q (Obj.isFreed_of_fields (Obj.data_mapFields rfl _)), Obj.cls_mapFields _ _, (Obj.data_mapFields rfl _).trans (by simp)⟩

theorem getItem_outM {l : Addr} {items : Array Value} {j : Nat} {t : Tok} {e1 : Addr} {o1 : Obj} {vs1 : Array Value} {Q : Value → Shared → Prop} (hA : A.handled = some (.ref e1))
    (h1 : s.heap.get? e1 = some o1) (d1 : o1.data = .fields vs1) (c1 : vs1[2]? = some .none) (hl : s.heap.IsList l items) (hout : items.size ≤ j) {k : Int} (hk : k = Int.ofNat j) (hfit : Builtin.List.listFitsIndex k = true)
    (hE : ∀ h' tk e, NewX s.heap h' e "IndexError" (.ref e1) → E (.ref e) { s with heap := h', toks := tk }) :
    wpAny (model prog w) A (getItem (.ref l) (.int k t)) Q E s := by
  obtain ⟨o, ho, hc, ne, hd⟩ := id hl
  unfold getItem
  try with_reducible refine wpAny_holding ?_
  first | refine wpAny_bind (wpAny_pure ?_) | skip
  refine wpAny_bind (wpAny_sequenceKey hl.typeIs (by decide) ?_)
  refine wpAny_bind (wpAny_callSpecial?_slot (name := Str.ofString "__getitem__") hl.typeIs slot_list_getitem
    (wpAny_call_entry slot_list_getitem hl.typeIs entry_list_getitem ?_ (args_list_getitem _ _)))
  show wpAny _ _ (Builtin.List.listSubscript? (.int k t) >>= _) _ _ s
  refine wpAny_bind (wpAny_listSubscript_int hfit ?_)
  clear hfit
  subst hk
  have hx : items[j]? = none := Array.getElem?_eq_none hout
  show wpAny _ _ ((seqItemAt l j >>= fun r => pure (r.map (j, ·))) >>= _) _ _ s
  refine wpAny_bind (wpAny_bind (wpAny_seqItemAt ho hd (wpAny_pure ?_)))
  rw [hx]
  first
    | exact wpAny_bind (wpAny_rule (raise_words plainExc_IndexError hA h1 d1 c1 hE))
    | exact wpAny_bind (wpAny_rule (wpAny_bind (raise_words plainExc_IndexError hA h1 d1 c1 hE)))
    | exact wpAny_bind (wpAny_bind (wpAny_rule (raise_words plainExc_IndexError hA h1 d1 c1 hE)))
    | exact wpAny_rule (raise_words plainExc_IndexError hA h1 d1 c1 hE)
end
end Mine.MineX
namespace Mine
section
variable {prog : Program} {w : World} {A : Around} {E : Value → Shared → Prop} {s : Shared} {value slice : PySem.Expr} {l : Addr} {vs : List Value} {j : Nat} {u : Tok} {Q : Value → Shared → Prop}
/-- an item, or the line past the last -/
theorem item_any0 (hA : A.handled = none) (hl : s.heap.IsList l vs.toArray) (hj : j < 2 ^ 60) (hin : ∀ v, vs[j]? = some v → Q v s)
    (hE : vs.length ≤ j → ∀ h' tk e, NewX s.heap h' e "IndexError" .none → E (.ref e) { s with heap := h', toks := tk })
    (hs : subscripted slice false (.ref l) (.int (j : Int) u) = operate [.ref l, .int (j : Int) u] (getItem (.ref l) (.int (j : Int) u)) := by with_unfolding_all rfl) :
    wpAny (model prog w) A (subscriptTail value slice (.ref l) (.int (j : Int) u)) Q E s := by
  cases hv : vs[j]? with
  | some v => exact item_litK hl (by omega) (by omega) (by simpa using hv) (hin v hv) hs
  | none =>
    have hle := List.getElem?_eq_none_iff.mp hv
    exact item_outK hA hl (.inr (by simpa using hle)) (by omega) (by omega) (fun h' tk e x => hE hle h' tk e (NewX.of x)) hs
theorem item_anyM {e1 : Addr} {o1 : Obj} {vs1 : Array Value} (hA : A.handled = some (.ref e1)) (h1 : s.heap.get? e1 = some o1) (d1 : o1.data = .fields vs1) (c1 : vs1[2]? = some .none) (hl : s.heap.IsList l vs.toArray) (hj : j < 2 ^ 60) (hin : ∀ v, vs[j]? = some v → Q v s)
    (hE : vs.length ≤ j → ∀ h' tk e, NewX s.heap h' e "IndexError" (.ref e1) → E (.ref e) { s with heap := h', toks := tk })
    (hs : subscripted slice false (.ref l) (.int (j : Int) u) = operate [.ref l, .int (j : Int) u] (getItem (.ref l) (.int (j : Int) u)) := by with_unfolding_all rfl) :
    wpAny (model prog w) A (subscriptTail value slice (.ref l) (.int (j : Int) u)) Q E s := by
  cases hv : vs[j]? with
  | some v => exact item_litK hl (by omega) (by omega) (by simpa using hv) (hin v hv) hs
  | none =>
    have hle := List.getElem?_eq_none_iff.mp hv
    exact tail_any hl.typeIs slot_list_getitem.lookup (MineX.getItem_outM hA h1 d1 c1 hl (by simpa using hle) rfl (fitsIndex_both (by omega) (by omega)) (hE hle)) hs
end
end Mine
end
section
open PySem PySem.W PyProof.Rows PySem.Calls PySem.Spec
namespace Mine
local macro_rules | `(tactic| k_room) => `(tactic| ktr_room)
local macro_rules | `(tactic| walk_at "M enter") => `(tactic| (k_dflt (refine' enterP ?k1 ?k2 ?k3 ?k5 ?kA ?kF ?kK ?k6 ?k7 ?k8 ?k9 ?kB ?_ ?c2 ?c3 ?c4 ?c5; (case kA => exact rfl); (case kF => exact rfl); (case kK => assumption); (case k1 => k_asm); (case k2 => k_asm); (case k3 => k_asm); (case k5 => k_asm); (case k6 => k_is); (case k7 => k_is); (case k8 => ktr_room); (case k9 => exact BindsTo.of_eq rfl); (case c5 => decide); (case kB => exact locs rfl); (case c2 => exact rfl); (case c3 => exact rfl); (case c4 => exact rfl); k_whole)))
local macro_rules | `(tactic| walk_at "M frame") => `(tactic| (intro z hz; (try dsimp only); (repeat' split) <;> first | rfl | contradiction | (exfalso; simp_all; done) | (simp_all; done)))
local macro_rules | `(tactic| walk_at "M frame0") => `(tactic| (intro z; (try dsimp only); (repeat' split) <;> first | rfl | contradiction | (exfalso; simp_all; done) | (subst_vars; first | rfl | (exfalso; simp_all (config := { decide := true }); done) | (simp (config := { decide := true }) at *; done)) | (simp_all; done)))
local macro_rules | `(tactic| walk_at "M led") => `(tactic| (intro p hp; first | exact absurd hp List.not_mem_nil | ((simp only [List.mem_cons, List.mem_append, List.not_mem_nil, or_false, false_or] at hp ⊢); ((repeat (rcases hp with hp | hp)) <;> first | (simp only [hp, true_or, or_true]; done) | (simp; done)))))
local macro_rules | `(tactic| walk_at "M mem") => `(tactic| first | (simp only [List.mem_cons, List.mem_append, List.not_mem_nil, or_false, false_or, true_or, or_true]; done) | (simp; done))
local macro_rules | `(tactic| walk_at "M enterC") => `(tactic| (k_dflt (refine' enterC ?k1 ?k2 ?k3 ?k5 ?kA ?kF ?kK ?k6 ?k7 ?k8 ?k9 ?kB ?kD ?_ ?c2 ?c3 ?c4; (case kA => exact rfl); (case kF => exact rfl); (case kK => assumption); (case k1 => k_asm); (case k2 => k_asm); (case k3 => k_asm); (case k5 => k_asm); (case k6 => k_is); (case k7 => k_is); (case k8 => ktr_room); (case k9 => exact BindsTo.of_eq rfl); (case kB => exact rfl); (case kD => decide +kernel); (case c2 => exact rfl); (case c3 => exact rfl); (case c4 => exact rfl); k_whole)))
local macro_rules | `(tactic| walk_at "M steps") => `(tactic| repeat' (first | (k_unfold; (try dsimp only)) | (k_end; wrow_close) | ((fail_if_success (with_reducible show wpAny _ _ (exec (Stmt.While _ _ _ _) _) _ _ _)); (fail_if_success (with_reducible show wpAny _ _ (exec (Stmt.For _ _ _ _ _) _) _ _ _)); first | walk1 | (dsimp only; walk1) | (leave1; walk_say "STEP leave1"; try dsimp only) | fail "no step")))
local macro_rules | `(tactic| walk_at "M ss") => `(tactic| repeat' (first | (k_unfold; (try dsimp only)) | (k_end; wrow_close) | ((fail_if_success (with_reducible show wpAny _ _ (exec (Stmt.While _ _ _ _) _) _ _ _)); (fail_if_success (with_reducible show wpAny _ _ (exec (Stmt.For _ _ _ _ _) _) _ _ _)); (fail_if_success (with_reducible show wpAny _ _ (subscriptTail _ _ (Value.ref _) _) _ _ _)); (fail_if_success (with_reducible show wpAny _ _ (callWith _ (Value.ref _) _ _ _) _ _ _)); (fail_if_success (with_reducible show wpAny _ _ (truthy (Value.ref _)) _ _ _)); first | walk1 | (dsimp only; walk1) | (leave1; walk_say "STEP leave1"; try dsimp only) | fail "no step")))
local macro_rules | `(tactic| walk_at "M halt") => `(tactic| repeat' (first | (k_unfold; (try dsimp only)) | (k_end; wrow_close) | ((fail_if_success (with_reducible show wpAny _ _ (exec (Stmt.While _ _ _ _) _) _ _ _)); (fail_if_success (with_reducible show wpAny _ _ (call (Value.ref _) _) _ _ _)); (fail_if_success (with_reducible show wpAny _ _ (subscriptTail _ _ (Value.str _ _) (Value.int _ _)) _ _ _)); (fail_if_success (with_reducible show wpAny _ _ (exec (Stmt.For _ _ _ _ _) _) _ _ _)); first | walk1 | (dsimp only; walk1) | (leave1; walk_say "STEP leave1"; try dsimp only) | fail "no step")))
local macro_rules | `(tactic| walk_at "M hs") => `(tactic| repeat' (first | (k_unfold; (try dsimp only)) | (k_end; wrow_close) | ((fail_if_success (with_reducible show wpAny _ _ (exec (Stmt.While _ _ _ _) _) _ _ _)); (fail_if_success (with_reducible show wpAny _ _ (call (Value.ref _) _) _ _ _)); (fail_if_success (with_reducible show wpAny _ _ (subscriptTail _ _ (Value.str _ _) (Value.int _ _)) _ _ _)); (fail_if_success (with_reducible show wpAny _ _ (exec (Stmt.For _ _ _ _ _) _) _ _ _)); (fail_if_success (with_reducible show wpAny _ _ (subscriptTail _ _ (Value.ref _) _) _ _ _)); (fail_if_success (with_reducible show wpAny _ _ (callWith _ (Value.ref _) _ _ _) _ _ _)); (fail_if_success (with_reducible show wpAny _ _ (truthy (Value.ref _)) _ _ _)); first | walk1 | (dsimp only; walk1) | (leave1; walk_say "STEP leave1"; try dsimp only) | fail "no step")))

theorem Txs.drop {vs : List Value} {xs : List Str} (h : Txs vs xs) : ∀ n, Txs (vs.drop n) (xs.drop n) := by
  induction h with
  | nil => intro n; simp; exact .nil
  | cons h ih => intro n; cases n with
    | zero => exact .cons h
    | succ n => simpa using ih n
noncomputable def ltS (x y : Str) : Bool := decide (x.cps.toList < y.cps.toList)
noncomputable def sldF (xs as : List Str) : List Str × List Str :=
  match xs, as with
  | [], as => ([], as)
  | e :: es, [] => (e :: es, [])
  | e :: es, a :: as =>
    if ltS e a = true then (e :: (sldF es (a :: as)).1, (sldF es (a :: as)).2)
    else if ltS a e = true then ((sldF (e :: es) as).1, a :: (sldF (e :: es) as).2)
    else sldF es as
  termination_by xs.length + as.length
structure SS where
  i : Nat
  j : Nat
  ti : Tok
  tj : Tok
  ms : List Value
  us : List Value
  n1 : Nat
  n2 : Nat
  oe : Option Value
  oa : Option Value
noncomputable def mS (xl al ml ul : Addr) (c : SS) : Str → Option Value := fun y => if y = (Str.ofString "a") then c.oa else if y = (Str.ofString "e") then c.oe else if y = (Str.ofString "j") then some (.int (c.j : Int) c.tj) else if y = (Str.ofString "i") then some (.int (c.i : Int) c.ti) else
  if y = (Str.ofString "unexpected") then some (.ref ul) else if y = (Str.ofString "missing") then some (.ref ml) else List.lookup y [((Str.ofString "actual"), .ref al), ((Str.ofString "expected"), .ref xl)]
noncomputable def nS (ml ul : Addr) (c : SS) : List (Addr × Obj) := [(ul, listOf c.us.toArray c.n2), (ml, listOf c.ms.toArray c.n1)]
noncomputable def PS (xs as : List Str) (c : SS) : Prop := ∃ mm uu, Txs c.ms mm ∧ Txs c.us uu ∧ mm ++ (sldF (xs.drop c.i) (as.drop c.j)).1 = (sldF xs as).1 ∧ uu ++ (sldF (xs.drop c.i) (as.drop c.j)).2 = (sldF xs as).2 ∧ c.i ≤ xs.length ∧ c.j ≤ as.length
theorem sldF_nil (as : List Str) : sldF [] as = ([], as) := by unfold sldF; rfl
theorem sldF_nil2 (xs : List Str) : sldF xs [] = (xs, []) := by cases xs <;> (unfold sldF; rfl)
theorem sldF_cons (e a : Str) (es as : List Str) : sldF (e :: es) (a :: as) = if ltS e a = true then (e :: (sldF es (a :: as)).1, (sldF es (a :: as)).2) else if ltS a e = true then ((sldF (e :: es) as).1, a :: (sldF (e :: es) as).2) else sldF es as := by rw [sldF]
theorem PS_start (xs as : List Str) (ti tj : Tok) (n1 n2 : Nat) : PS xs as ⟨0, 0, ti, tj, [], [], n1, n2, none, none⟩ := ⟨[], [], .nil, .nil, by simp, by simp, Nat.zero_le _, Nat.zero_le _⟩
theorem PS_end {xs as : List Str} {xvs avs : List Value} (hx : Txs xvs xs) (ha : Txs avs as) {c : SS} (h : PS xs as c) (e : xs.length ≤ c.i ∨ as.length ≤ c.j) : Txs (c.ms ++ xvs.drop c.i) (sldF xs as).1 ∧ Txs (c.us ++ avs.drop c.j) (sldF xs as).2 := by
  obtain ⟨mm, uu, h1, h2, h3, h4, h5, h6⟩ := h
  rcases e with e | e
  · rw [List.drop_of_length_le e, sldF_nil] at h3 h4
    rw [← h3, ← h4, List.drop_of_length_le (by rw [hx.length]; exact e)]
    exact ⟨h1.append .nil, h2.append (ha.drop _)⟩
  · rw [List.drop_of_length_le (l := as) e, sldF_nil2] at h3 h4
    rw [← h3, ← h4, List.drop_of_length_le (l := avs) (by rw [ha.length]; exact e)]
    exact ⟨h1.append (hx.drop _), h2.append .nil⟩
theorem drop_at {xs : List Str} {i : Nat} {x : Str} (h : xs[i]? = some x) : xs.drop i = x :: xs.drop (i + 1) := by
  obtain ⟨hl, e⟩ := List.getElem?_eq_some_iff.mp h
  rw [List.drop_eq_getElem_cons hl, e]
theorem PS_lt {xs as : List Str} {c : SS} {x a : Str} {t : Tok} (h : PS xs as c) (hx : xs[c.i]? = some x) (ha : as[c.j]? = some a) (hl : ltS x a = true) (ti : Tok) (n1 : Nat) (oe oa : Option Value) :
    PS xs as ⟨c.i + 1, c.j, ti, c.tj, c.ms ++ [.str x t], c.us, n1, c.n2, oe, oa⟩ := by
  obtain ⟨mm, uu, h1, h2, h3, h4, h5, h6⟩ := h
  have l1 := (List.getElem?_eq_some_iff.mp hx).1
  rw [drop_at hx, drop_at ha, sldF_cons] at h3 h4
  rw [if_pos hl] at h3
  rw [if_pos hl] at h4
  refine ⟨mm ++ [x], uu, h1.append (.cons .nil), h2, ?_, ?_, l1, h6⟩
  · rw [← h3, ← drop_at ha]; simp
  · rw [← h4, ← drop_at ha]
theorem PS_gt {xs as : List Str} {c : SS} {x a : Str} {t : Tok} (h : PS xs as c) (hx : xs[c.i]? = some x) (ha : as[c.j]? = some a) (hl : ltS x a = false) (hg : ltS a x = true) (tj : Tok) (n2 : Nat) (oe oa : Option Value) :
    PS xs as ⟨c.i, c.j + 1, c.ti, tj, c.ms, c.us ++ [.str a t], c.n1, n2, oe, oa⟩ := by
  obtain ⟨mm, uu, h1, h2, h3, h4, h5, h6⟩ := h
  have l1 := (List.getElem?_eq_some_iff.mp ha).1
  rw [drop_at hx, drop_at ha, sldF_cons] at h3 h4
  rw [if_neg (by simp [hl]), if_pos hg] at h3
  rw [if_neg (by simp [hl]), if_pos hg] at h4
  refine ⟨mm, uu ++ [a], h1, h2.append (.cons .nil), ?_, ?_, h5, l1⟩
  · rw [← h3, ← drop_at hx]
  · rw [← h4, ← drop_at hx]; simp
theorem PS_eq {xs as : List Str} {c : SS} {x a : Str} (h : PS xs as c) (hx : xs[c.i]? = some x) (ha : as[c.j]? = some a) (hl : ltS x a = false) (hg : ltS a x = false) (ti tj : Tok) (oe oa : Option Value) :
    PS xs as ⟨c.i + 1, c.j + 1, ti, tj, c.ms, c.us, c.n1, c.n2, oe, oa⟩ := by
  obtain ⟨mm, uu, h1, h2, h3, h4, h5, h6⟩ := h
  have l1 := (List.getElem?_eq_some_iff.mp ha).1
  have l2 := (List.getElem?_eq_some_iff.mp hx).1
  rw [drop_at hx, drop_at ha, sldF_cons] at h3 h4
  rw [if_neg (by simp [hl]), if_neg (by simp [hg])] at h3
  rw [if_neg (by simp [hl]), if_neg (by simp [hg])] at h4
  exact ⟨mm, uu, h1, h2, h3, h4, l2, l1⟩
theorem sldF_len : ∀ (n : Nat) (xs as : List Str), xs.length + as.length ≤ n → (sldF xs as).1.length ≤ xs.length ∧ (sldF xs as).2.length ≤ as.length := by
  intro n
  induction n with
  | zero => intro xs as h; cases xs with
    | nil => rw [sldF_nil]; simp
    | cons _ _ => simp at h
  | succ n ih => intro xs as h; cases xs with
    | nil => rw [sldF_nil]; simp
    | cons x xs => cases as with
      | nil => rw [sldF_nil2]; simp
      | cons a as =>
        rw [sldF_cons]
        simp only [List.length_cons] at h ⊢
        split
        · have := ih xs (a :: as) (by simp only [List.length_cons]; omega)
          simp only [List.length_cons] at this ⊢; omega
        · split
          · have := ih (x :: xs) as (by simp only [List.length_cons]; omega)
            simp only [List.length_cons] at this ⊢; omega
          · have := ih xs as (by omega)
            omega
theorem PS_size {xs as : List Str} {c : SS} (h : PS xs as c) : c.ms.length ≤ xs.length ∧ c.us.length ≤ as.length := by
  obtain ⟨mm, uu, h1, h2, h3, h4, _, _⟩ := h
  have := sldF_len _ xs as (Nat.le_refl _)
  rw [← h3, ← h4] at this
  rw [h1.length, h2.length]
  simp only [List.length_append] at this
  omega
theorem nodup_next {xs : List Str} (h : xs.Nodup) {i : Nat} {x y : Str} (h1 : xs[i]? = some x) (h2 : xs[i + 1]? = some y) : (y == x) = false := by
  refine beq_false_of_ne fun e2 => ?_
  subst e2
  obtain ⟨l1, e1⟩ := List.getElem?_eq_some_iff.mp h1
  obtain ⟨l2, e2⟩ := List.getElem?_eq_some_iff.mp h2
  exact (List.pairwise_iff_getElem.mp h) i (i + 1) l1 l2 (by omega) (e1.trans e2.symm)
/-- a while loop that does not turn -/
theorem while_off {prog : Program} {w : World} {A : Around} {E : Value → Shared → Prop} {s : Shared} {env : Env} {test : Expr} {body : List Stmt} {pos : Pos} {Q : Flow → Shared → Prop} (hE : PassesOwn (model prog w) A env E)
    (turn : ∀ Q' : Bool → Shared → Prop, (∀ s₂, Q .next s₂ → Q' false s₂) → wpAny (model prog w) A (isTrue test env (eval test env)) Q' E s) : wpAny (model prog w) A (exec (.While test body [] pos) env) Q E s := by
  refine wpAny_While ?_
  refine codeAny_whileLoop (fun n s' => s' = s) ?_ 0 rfl
  rintro n s' rfl
  refine wpAny_passesOwn hE (turn _ fun s₂ q => ?_)
  simp only [Bool.false_eq_true, if_false]
  exact wpAny_execs_nil q
theorem law_turn {h₀ H0 g h' : Heap} {L LF : Addr} {m mF : Str → Option Value} (FL : Fr h₀ L H0 m) (T : KtsTurn [L] H0 g) (FG : Fr g LF h' mF) : Fr h₀ L h' m ∧ ∀ nw, News h₀ L H0 nw → News h₀ L h' nw := by
  have stay : ∀ b o, H0.get? b = some o → b ≠ L → h'.get? b = some o := fun b o e hb => FG.keep b o (T.other b o e (fun hm => hb (List.mem_singleton.mp hm)))
  have hns : h'.Ns L m := Heap.UpToSlots.ns (fun b o e _ => by
    obtain ⟨sl, q⟩ := T.up e
    exact ⟨sl, FG.keep _ _ q⟩) FL.ns
  exact ⟨⟨hns, fun b o e => stay b o (FL.keep b o e) (Nat.ne_of_lt (Nat.lt_of_lt_of_le (Heap.lt_size e) FL.above)), FL.above⟩, fun nw N p hp => ⟨stay _ _ (N p hp).1 (N p hp).2.1, (N p hp).2⟩⟩
theorem Fr.cong {h₀ h : Heap} {L : Addr} {m m' : Str → Option Value} (F : Fr h₀ L h m) (e : ∀ z, m z = m' z) : Fr h₀ L h m' := by rw [← funext e]; exact F
theorem mS_keys {f : Str → Option Value} {xl al ml ul : Addr} {c : SS} (h1 : f ((Str.ofString "a")) = c.oa) (h2 : f ((Str.ofString "e")) = c.oe) (h3 : f ((Str.ofString "j")) = some (.int (c.j : Int) c.tj)) (h4 : f ((Str.ofString "i")) = some (.int (c.i : Int) c.ti)) (h5 : f ((Str.ofString "unexpected")) = some (.ref ul)) (h6 : f ((Str.ofString "missing")) = some (.ref ml))
    (h7 : ∀ z, z ≠ (Str.ofString "a") → z ≠ (Str.ofString "e") → z ≠ (Str.ofString "j") → z ≠ (Str.ofString "i") → z ≠ (Str.ofString "unexpected") → z ≠ (Str.ofString "missing") → f z = List.lookup z [((Str.ofString "actual"), .ref al), ((Str.ofString "expected"), .ref xl)]) : ∀ z, f z = mS xl al ml ul c z := by
  intro z
  unfold mS
  by_cases k1 : z = (Str.ofString "a")
  · subst k1; exact h1
  by_cases k2 : z = (Str.ofString "e")
  · subst k2; rw [if_neg k1, if_pos rfl]; exact h2
  by_cases k3 : z = (Str.ofString "j")
  · subst k3; rw [if_neg k1, if_neg k2, if_pos rfl]; exact h3
  by_cases k4 : z = (Str.ofString "i")
  · subst k4; rw [if_neg k1, if_neg k2, if_neg k3, if_pos rfl]; exact h4
  by_cases k5 : z = (Str.ofString "unexpected")
  · subst k5; rw [if_neg k1, if_neg k2, if_neg k3, if_neg k4, if_pos rfl]; exact h5
  by_cases k6 : z = (Str.ofString "missing")
  · subst k6; rw [if_neg k1, if_neg k2, if_neg k3, if_neg k4, if_neg k5, if_pos rfl]; exact h6
  rw [if_neg k1, if_neg k2, if_neg k3, if_neg k4, if_neg k5, if_neg k6]
  exact h7 z k1 k2 k3 k4 k5 k6
local macro_rules | `(tactic| walk_at "M mkeys") => `(tactic| (refine mS_keys ?_ ?_ ?_ ?_ ?_ ?_ ?_ <;> first | rfl | (intro z z1 z2 z3 z4 z5 z6; (try dsimp only); simp only [if_neg z1, if_neg z2, if_neg z3, if_neg z4, if_neg z5, if_neg z6])))
/-- an IndexError may leave the turn: at once, or with its first entry -/
noncomputable def RS (xs as : List Str) (xl al ml ul Lf : Addr) (A₀ : Around) (base : Heap) (outer : List Env) (s : Shared) (E' : Value → Shared → Prop) : Prop :=
  (∀ (c : SS) h h' tk e ctx, PS xs as c → (xs.length ≤ c.i ∨ as.length ≤ c.j) → Fr s.heap Lf h (mS xl al ml ul c) → News s.heap Lf h (nS ml ul c) → NewX h h' e "IndexError" ctx → E' (.ref e) { s with heap := h', toks := tk }) ∧
  (∀ (c : SS) h g tk e T oe oT ctx, PS xs as c → (xs.length ≤ c.i ∨ as.length ≤ c.j) → KtsTurn (outer.filterMap (·.frame)) s.heap g → Fr g Lf h (mS xl al ml ul c) → Below A₀ base outer g → News g Lf h ((e, oe) :: (T, oT) :: nS ml ul c) → ExcOn "IndexError" e T oe oT ctx (rawInt Lf) → E' (.ref e) { s with heap := h, toks := tk })
theorem RS_of {xs as : List Str} {xl al ml ul Lf a : Addr} {A₀ A : Around} {base : Heap} {outer : List Env} {s : Shared} {M : Model} {E : Value → Shared → Prop} {name : Str} {scope : Scope} {cd : Value} {Qn : Value → Unit → Shared → Prop}
    (hfr : A.frames = some (envOf name scope Lf a cd :: outer)) (B : Below A₀ base outer s.heap) (hk : scope.kind = .function)
    (hq : ∀ (c : SS) h g tk e T oe oT ctx, PS xs as c → (xs.length ≤ c.i ∨ as.length ≤ c.j) → KtsTurn (outer.filterMap (·.frame)) s.heap g → Fr g Lf h (mS xl al ml ul c) → Below A₀ base outer g → News g Lf h ((e, oe) :: (T, oT) :: nS ml ul c) → ExcOn "IndexError" e T oe oT ctx (rawInt Lf) → Qn (.ref e) () { s with heap := h, toks := tk }) :
    RS xs as xl al ml ul Lf A₀ base outer s (fun e s₁ => wpAny M A (noteFrame e (envOf name scope Lf a cd)) (Qn e) E s₁) := by
  refine ⟨fun c h h' tk e ctx hc hce F N X => ?_, fun c h g tk e T oe oT ctx hc hce hT F B N X => ?_⟩
  · exact note_new hfr B F N X (fun h2 g' T oe oT hT F' B' N' X' _ => hq c h2 g' tk e T oe oT ctx hc hce hT F' B' N' X') hk
  · exact note_again N X rfl (hq c h g tk e T oe oT ctx hc hce hT F B N X)
theorem nS_off {ml ul : Addr} {c : SS} : ∀ p ∈ nS ml ul c, ∀ vs, p.2.data ≠ .fields vs := by
  intro p hp vs q
  rcases List.mem_cons.mp hp with rfl | hp
  · cases q
  · rw [List.mem_singleton.mp hp] at q; cases q
set_option maxRecDepth 100000 in
set_option maxHeartbeats 8000000 in
theorem sld_spec (w : World) (mean : ExcName → Option Value) (mg mb : Str → Option Value) (xl al : Addr) (xvs avs : List Value) (xs as : List Str) (hx : Txs xvs xs) (ha : Txs avs as) (nx : xs.Nodup) (na : as.Nodup) (zx : xs.length ≤ 1000) (za : as.length ≤ 1000) :
    SpecX w mean mg mb 120 [.ref xl, .ref al] (fun h => h.IsList xl xvs.toArray ∧ h.IsList al avs.toArray) (fun h h' r => ∃ rl ml ul mvs uvs n1 n2 n3, r = .ref rl ∧ h'.get? rl = some { cls := .type "tuple", data := .seq #[.ref ml, .ref ul] n3 } ∧ h'.get? ml = some (listOf mvs.toArray n1) ∧ h'.get? ul = some (listOf uvs.toArray n2) ∧ Txs mvs (sldF xs as).1 ∧ Txs uvs (sldF xs as).2 ∧ h.get? rl = none ∧ h.get? ml = none ∧ h.get? ul = none) := by
  unfold SpecX
  k_fill
  intro dp un gd cn cs L a ccd cl A₀ h₀ m s Q E B F X T hk hd hu hpre hret
  walk_at "M enter"
  intro Lf h₁ Q' hQr hQn F' N' Bf Xf Tf
  have X0 : PLift ((KK w.params).In h₀) := ⟨X⟩
  have T0 : PLift (Top topProg LL mean mg mb h₀) := ⟨T⟩
  clear X T
  obtain ⟨hpx, hpa⟩ := hpre
  replace F' : Fr s.heap Lf h₁ (fun y => List.lookup y [((Str.ofString "actual"), .ref al), ((Str.ofString "expected"), .ref xl)]) := F'
  have FL : PLift (Fr h₀ L s.heap m) := ⟨F⟩
  clear F
  try dsimp only
  walk_at "M steps"
  rename_i _ ml _ _ _ _ ul _ llt _ _ _
  (rename Fr _ _ _ _ => F9); (rename News _ _ _ _ => N9)
  obtain ⟨ti, tj, F8⟩ : ∃ ti tj, Fr s.heap Lf _ (fun y => if y = (Str.ofString "unexpected") then some (Value.ref ul) else if y = (Str.ofString "missing") then some (.ref ml) else if y = (Str.ofString "j") then some (.int 0 tj) else if y = (Str.ofString "i") then some (.int 0 ti) else List.lookup y [((Str.ofString "actual"), .ref al), ((Str.ofString "expected"), .ref xl)]) := ⟨_, _, F9⟩
  clear F9
  refine' while_inv (mS xl al ml ul) (nS ml ul) (fun n c => n = (xs.length - c.i) + (as.length - c.j) ∧ PS xs as c) (xs.length + as.length) ⟨0, 0, ti, tj, [], [], 0, 0, none, none⟩ F8 ?h1 N9 ?h2 ?h3 ?h4
  case h1 =>
    walk_at "M mkeys"
  case h2 => exact ⟨by simp, PS_start ..⟩
  case h3 => passes_own
  case h4 =>
    intro n c h tk Q2 hP F2 N2 hfin hgo
    clear F8 N9
    obtain ⟨hP1, hP2⟩ := hP
    have hfin0 : PLift (∀ s₂, _ → Q2 false s₂) := ⟨hfin⟩
    clear hfin
    have F2k : PLift (Fr s.heap Lf h (mS xl al ml ul c)) := ⟨F2⟩
    have N2k : PLift (News s.heap Lf h (nS ml ul c)) := ⟨N2⟩
    unfold mS at F2
    unfold nS at N2
    walk_at "M steps"
    refine hgo _ fun Q3 hr hb hn => ?_
    clear hgo
    walk_at "execs cons"
    walk_at "exec Try"
    refine cut_E (fun E' => RS xs as xl al ml ul Lf (ktrTop dp un gd cn cs L a ccd cl []) h₀ [envX cn cs L a ccd cl] s E' ∧ PassesOwn _ _ _ E') ⟨RS_of rfl Bf rfl ?ea, by passes_own⟩ ?_
    case ea =>
      --EA
      intro c h g tk e T oe oT ctx hc hce hT F3 B3 N3 X3
      have Xg := X0.down.keeps B3.stays
      have Tg := T0.down.keeps B3.stays
      refine catch_land F3 N3 (off_of N3 X3 nS_off) X3 Xg Tg ?ex ?_ ?hE ?hxk
      case ex => k_is
      case hE => passes_own
      case hxk => rfl
      intro h4 F4 N4
      clear F3 N3 X3
      unfold mS at F4
      unfold nS at N4
      have hlx : h4.IsList xl xvs.toArray := by
        obtain ⟨o, q, q2⟩ := hpx
        obtain ⟨sl, e⟩ := hT.up q
        exact ⟨_, F4.keep _ _ e, q2⟩
      have hla : ∀ h m', Fr g Lf h m' → h.IsList al avs.toArray := fun h m' F => by
        obtain ⟨o, q, q2⟩ := hpa
        obtain ⟨sl, e⟩ := hT.up q
        exact ⟨_, F.keep _ _ e, q2⟩
      have hc2 := hc
      obtain ⟨mm, uu, hmm, huu, _, _, hci, hcj⟩ := hc2
      have zm := (PS_size hc).1
      have zu := (PS_size hc).2
      walk_at "M ss"
      refine kmk_slice F4 N4 hlx (IsPart.int _ _) .none ?_ (by with_unfolding_all rfl) (fun _ => rfl) ?z1
      case z1 => have := hx.length; simp; unfold sizeLine; omega
      intro D1 h5 F5 N5 ld1
      rw [slicePick_from _ _ (by have := hx.length; simp; omega)] at N5
      walk_at "M steps"
      refine extend_in (own := [(D1, _), (ul, _)]) (rest := []) F5 N5 ?ow ?re (N5 (D1, _) List.mem_cons_self).1 ?_ ?z2
      case z2 => have := hx.length; simp; unfold sizeLine; omega
      case ow =>
        intro p hp
        rcases List.mem_cons.mp hp with rfl | hp
        · exact Nat.ne_of_gt (ld1 (ml, _) (List.mem_cons_of_mem _ List.mem_cons_self))
        · rw [List.mem_singleton.mp hp]; exact Nat.ne_of_gt llt
      case re => intro p hp; cases hp
      intro h6 n6 F6 N6
      walk_at "M ss"
      refine kmk_slice F6 N6 (hla _ _ F6) (IsPart.int _ _) .none ?_ (by with_unfolding_all rfl) (fun _ => rfl) ?z3
      case z3 => have := ha.length; simp; unfold sizeLine; omega
      intro D2 h7 F7 N7 ld2
      rw [slicePick_from _ _ (by have := ha.length; simp; omega)] at N7
      walk_at "M steps"
      refine extend_in (own := [(D2, _), (D1, _)]) (rest := [(ml, _)]) F7 N7 ?ow2 ?re2 (N7 (D2, _) List.mem_cons_self).1 ?_ ?z4
      case z4 => have := ha.length; simp; unfold sizeLine; omega
      case ow2 =>
        intro p hp
        rcases List.mem_cons.mp hp with rfl | hp
        · exact Nat.ne_of_gt (ld2 (ul, _) (List.mem_cons_of_mem _ List.mem_cons_self))
        · rw [List.mem_singleton.mp hp]; exact Nat.ne_of_gt (ld1 (ul, _) List.mem_cons_self)
      case re2 => intro p hp; rw [List.mem_singleton.mp hp]; exact Nat.ne_of_lt llt
      intro h8 n8 F8 N8
      walk_at "M steps"
      refine hb _ ?_
      walk_at "M steps"
      (rename Fr _ _ _ _ => F9); (rename News _ _ _ _ => N9)
      obtain ⟨e1, e2⟩ := PS_end hx ha hc hce
      have hml := N9 (ml, _) (by simp only [List.mem_cons, List.mem_append, List.not_mem_nil, List.cons_append, List.nil_append]; first | exact .inr (.inr (.inr (.inr (.inl rfl)))) | exact .inr (.inr (.inl rfl)) | exact .inr (.inr (.inr (.inl rfl))))
      have hul := N9 (ul, _) (by simp only [List.mem_cons, List.mem_append, List.not_mem_nil, List.cons_append, List.nil_append]; first | exact .inr (.inr (.inr (.inl rfl))) | exact .inr (.inr (.inl rfl)))
      have hrl := N9 _ List.mem_cons_self
      have fresh : ∀ b, g.get? b = none → s.heap.get? b = none := by
        intro b e
        cases hq : s.heap.get? b with
        | none => rfl
        | some o =>
          obtain ⟨sl, e2⟩ := hT.up hq
          rw [e] at e2; cases e2
      refine hQr _ _ (hret _ _ _ (law_turn FL.down hT F9).1 (law_turn FL.down hT F9).2 ⟨_, ml, ul, _, _, _, _, _, rfl, hrl.1, hml.1, hul.1, e1, e2, fresh _ hrl.2.2, fresh _ hml.2.2, fresh _ hul.2.2⟩)
      --EB
    rintro E' ⟨hR, hpo⟩
    have hi : c.i ≤ xs.length := by obtain ⟨_, _, _, _, _, _, q, _⟩ := hP2; exact q
    have hj : c.j ≤ as.length := by obtain ⟨_, _, _, _, _, _, _, q⟩ := hP2; exact q
    have hlx : ∀ h m', Fr s.heap Lf h m' → h.IsList xl xvs.toArray := fun h m' F => hpx.at fun o e => F.keep _ o e
    have hla : ∀ h m', Fr s.heap Lf h m' → h.IsList al avs.toArray := fun h m' F => hpa.at fun o e => F.keep _ o e
    have zm := (PS_size hP2).1
    have zu := (PS_size hP2).2
    walk_at "M ss"
    refine item_any0 rfl (hlx _ _ F2) (by omega) ?_ ?_
    case refine_2 =>
      intro hle h' tk' e X
      exact hR.1 c _ _ _ _ _ hP2 (.inl (by rw [← hx.length]; exact hle)) F2k.down N2k.down X
    intro v hv
    obtain ⟨x, tx, rfl, hxi⟩ := hx.at hv
    walk_at "M ss"
    (rename Fr _ _ _ _ => F9); (rename News _ _ _ _ => N9)
    refine item_any0 rfl (hla _ _ F9) (by omega) ?_ ?_
    case refine_2 =>
      intro hle h' tk' e X
      refine hR.1 { c with oe := some (.str x tx) } _ _ _ _ _ hP2 (.inr (by rw [← ha.length]; exact hle)) ?_ N9 X
      exact Fr.cong F9 (by walk_at "M mkeys")
    intro v2 hv2
    obtain ⟨y, ty, rfl, haj⟩ := ha.at hv2
    walk_at "M steps"
    · --EA
      refine while_off hpo fun Q4 hoff => ?_
      walk_at "M ss"
      gp_on
      walk_at "M ss"
      (rename Fr _ _ _ _ => F9); (rename News _ _ _ _ => N9)
      have hlt : ltS x y = true := decide_eq_true ‹x.cps.toList < y.cps.toList›
      refine item_any0 (j := c.i + 1) rfl (hlx _ _ F9) (by omega) ?_ ?_
      case refine_2 =>
        intro hle h' tk' e X
        refine' hR.1 ⟨c.i + 1, c.j, _, c.tj, _, c.us, _, c.n2, _, _⟩ _ _ _ _ _ (PS_lt hP2 hxi haj hlt _ _ _ _) (.inl (by rw [← hx.length]; exact hle)) (Fr.cong F9 ?fr) N9 X
        case fr => walk_at "M mkeys"
      intro v3 hv3
      obtain ⟨x3, t3, rfl, hx3⟩ := hx.at hv3
      have hne := nodup_next nx hxi hx3
      walk_at "M steps"
      rw [hne]
      refine hoff _ ?_
      walk_at "M steps"
      (rename Fr _ _ _ _ => F9); (rename News _ _ _ _ => N9)
      refine' hn .next _ ⟨c.i + 1, c.j, _, c.tj, _, c.us, _, c.n2, _, _⟩ _ _ _ _ (.inl rfl) ?me F9 N9 ?fr (fun p hp => hp) ⟨rfl, PS_lt hP2 hxi haj hlt _ _ _ _⟩
      case fr => walk_at "M mkeys"
      case me =>
        have l1 := (List.getElem?_eq_some_iff.mp hxi).1
        rw [hP1]; dsimp only; omega
      --EB
    · --EA
      refine while_off hpo fun Q4 hoff => ?_
      walk_at "M ss"
      gp_on
      walk_at "M ss"
      (rename Fr _ _ _ _ => F9); (rename News _ _ _ _ => N9)
      have hlt : ltS x y = false := decide_eq_false ‹¬ x.cps.toList < y.cps.toList›
      have hgt : ltS y x = true := decide_eq_true ‹y.cps.toList < x.cps.toList›
      refine item_any0 (j := c.j + 1) rfl (hla _ _ F9) (by omega) ?_ ?_
      case refine_2 =>
        intro hle h' tk' e X
        refine' hR.1 ⟨c.i, c.j + 1, c.ti, _, c.ms, _, c.n1, _, _, _⟩ _ _ _ _ _ (PS_gt hP2 hxi haj hlt hgt _ _ _ _) (.inr (by rw [← ha.length]; exact hle)) (Fr.cong F9 ?fr) N9 X
        case fr => walk_at "M mkeys"
      intro v3 hv3
      obtain ⟨x3, t3, rfl, hx3⟩ := ha.at hv3
      have hne := nodup_next na haj hx3
      walk_at "M steps"
      rw [hne]
      refine hoff _ ?_
      walk_at "M steps"
      (rename Fr _ _ _ _ => F9); (rename News _ _ _ _ => N9)
      refine' hn .next _ ⟨c.i, c.j + 1, c.ti, _, c.ms, _, c.n1, _, _, _⟩ _ _ _ _ (.inl rfl) ?me F9 N9 ?fr (fun p hp => hp) ⟨rfl, PS_gt hP2 hxi haj hlt hgt _ _ _ _⟩
      case fr => walk_at "M mkeys"
      case me =>
        have l1 := (List.getElem?_eq_some_iff.mp haj).1
        rw [hP1]; dsimp only; omega
      --EB
    · refine while_off (by passes_own) fun Q4 hoff => ?_
      walk_at "M ss"
      (rename Fr _ _ _ _ => F9); (rename News _ _ _ _ => N9)
      have hlt : ltS x y = false := decide_eq_false ‹¬ x.cps.toList < y.cps.toList›
      have hgt : ltS y x = false := decide_eq_false ‹¬ y.cps.toList < x.cps.toList›
      refine item_any0 (j := c.i + 1) rfl (hlx _ _ F9) (by omega) ?_ ?_
      case refine_2 =>
        intro hle h' tk' e X
        refine note_new rfl Bf F9 N9 X fun h2 g1 T oe oT hT1 F3 B3 N3 X3 of1 => ?_
        refine ⟨(by intro q; cases q), ?_⟩
        refine note_again N3 X3 rfl ?_
        refine set_flight none F3 N3 of1 X3 fun h3 oT3 F4 N4 X4 => ?_
        clear F9 N9 F3 N3 X3
        walk_at "M steps"
        refine while_off (by passes_own) fun Q5 hoff5 => ?_
        walk_at "M ss"
        (rename Fr _ _ _ _ => F9); (rename News _ _ _ _ => N9)
        have hlag : ∀ h m', Fr g1 Lf h m' → h.IsList al avs.toArray := fun h m' F => by
          obtain ⟨o, q, q2⟩ := hpa
          obtain ⟨sl, e⟩ := hT1.up q
          exact ⟨_, F.keep _ _ e, q2⟩
        have X4b := X4
        obtain ⟨c1, ⟨tt, c2⟩, c3, c4⟩ := X4b
        refine item_anyM (j := c.j + 1) rfl (N9 (e, oe) (by simp)).1 c2 rfl (hlag _ _ F9) (by omega) ?_ ?_
        case refine_2 =>
          intro hle2 h5 tk5 e2 X5
          refine note_new rfl B3 F9 N9 X5 fun h6 g2 T2 oe2 oT2 hT2 F6 B6 N6 X6 of2 => ?_
          refine came_back F6 N6 of2 X6 rfl fun h7 oT3 F7 N7 X7 => ?_
          refine' hR.2 ⟨c.i + 1, c.j + 1, _, _, c.ms, c.us, _, _, _, _⟩ _ _ _ _ _ _ _ _ (PS_eq hP2 hxi haj hlt hgt _ _ _ _) (.inr (by rw [← ha.length]; exact hle2)) (hT1.trans hT2) (Fr.cong F7 ?fr) B6 ?nn X7
          case fr => walk_at "M mkeys"
          case nn =>
            intro p hp
            refine N7 p ?_
            rcases List.mem_cons.mp hp with rfl | hp
            · exact List.mem_cons_self
            rcases List.mem_cons.mp hp with rfl | hp
            · exact List.mem_cons_of_mem _ List.mem_cons_self
            · exact List.mem_cons_of_mem _ (List.mem_cons_of_mem _ (List.mem_cons_of_mem _ (List.mem_cons_of_mem _ hp)))
        intro v3 hv3
        obtain ⟨x3, t3, rfl, hx3⟩ := ha.at hv3
        have hne := nodup_next na haj hx3
        walk_at "M steps"
        rw [hne]
        refine hoff5 _ ?_
        walk_at "M steps"
        (rename Fr _ _ _ _ => F9); (rename News _ _ _ _ => N9)
        refine pass_on F9 N9 of1 X4 rfl fun h7 oT3 F7 N7 X7 => ?_
        refine' hR.2 ⟨c.i + 1, c.j + 1, _, _, c.ms, c.us, _, _, _, _⟩ _ _ _ _ _ _ _ _ (PS_eq hP2 hxi haj hlt hgt _ _ _ _) (.inl (by rw [← hx.length]; exact hle)) hT1 (Fr.cong F7 ?fr) B3 N7 X7
        case fr => walk_at "M mkeys"
      intro v3 hv3
      obtain ⟨x3, t3, rfl, hx3⟩ := hx.at hv3
      have hne := nodup_next nx hxi hx3
      walk_at "M steps"
      rw [hne]
      refine hoff _ ?_
      walk_at "M steps"
      refine while_off (by passes_own) fun Q5 hoff5 => ?_
      walk_at "M ss"
      (rename Fr _ _ _ _ => F9); (rename News _ _ _ _ => N9)
      refine item_any0 (j := c.j + 1) rfl (hla _ _ F9) (by omega) ?_ ?_
      case refine_2 =>
        intro hle2 h5 tk5 e2 X5
        refine note_new rfl Bf F9 N9 X5 fun h6 g2 T2 oe2 oT2 hT2 F6 B6 N6 X6 of2 => ?_
        refine came_back F6 N6 of2 X6 rfl fun h7 oT3 F7 N7 X7 => ?_
        refine' hR.2 ⟨c.i + 1, c.j + 1, _, _, c.ms, c.us, _, _, _, _⟩ _ _ _ _ _ _ _ _ (PS_eq hP2 hxi haj hlt hgt _ _ _ _) (.inr (by rw [← ha.length]; exact hle2)) hT2 (Fr.cong F7 ?fr) B6 N7 X7
        case fr => walk_at "M mkeys"
      intro v4 hv4
      obtain ⟨x4, t4, rfl, hx4⟩ := ha.at hv4
      have hne2 := nodup_next na haj hx4
      walk_at "M steps"
      rw [hne2]
      refine hoff5 _ ?_
      walk_at "M steps"
      (rename Fr _ _ _ _ => F9); (rename News _ _ _ _ => N9)
      refine' hn .next _ ⟨c.i + 1, c.j + 1, _, _, c.ms, c.us, _, _, _, _⟩ _ _ _ _ (.inl rfl) ?me F9 N9 ?fr (fun p hp => hp) ⟨rfl, PS_eq hP2 hxi haj hlt hgt _ _ _ _⟩
      case fr => walk_at "M mkeys"
      case me =>
        have l1 := (List.getElem?_eq_some_iff.mp haj).1
        rw [hP1]; dsimp only; omega
end Mine
end
section
open PySem PySem.W PyProof.Rows PySem.Calls PySem.Spec
namespace Mine
local macro_rules | `(tactic| k_room) => `(tactic| ktr_room)
local macro_rules | `(tactic| walk_at "M enter") => `(tactic| (k_dflt (refine' enterP ?k1 ?k2 ?k3 ?k5 ?kA ?kF ?kK ?k6 ?k7 ?k8 ?k9 ?kB ?_ ?c2 ?c3 ?c4 ?c5; (case kA => exact rfl); (case kF => exact rfl); (case kK => assumption); (case k1 => k_asm); (case k2 => k_asm); (case k3 => k_asm); (case k5 => k_asm); (case k6 => k_is); (case k7 => k_is); (case k8 => ktr_room); (case k9 => exact BindsTo.of_eq rfl); (case c5 => decide); (case kB => exact locs rfl); (case c2 => exact rfl); (case c3 => exact rfl); (case c4 => exact rfl); k_whole)))
local macro_rules | `(tactic| walk_at "M frame") => `(tactic| (intro z hz; (try dsimp only); (repeat' split) <;> first | rfl | contradiction | (exfalso; simp_all; done) | (simp_all; done)))
local macro_rules | `(tactic| walk_at "M frame0") => `(tactic| (intro z; (try dsimp only); (repeat' split) <;> first | rfl | contradiction | (exfalso; simp_all; done) | (subst_vars; first | rfl | (exfalso; simp_all (config := { decide := true }); done) | (simp (config := { decide := true }) at *; done)) | (simp_all; done)))
local macro_rules | `(tactic| walk_at "M led") => `(tactic| (intro p hp; first | exact absurd hp List.not_mem_nil | ((simp only [List.mem_cons, List.mem_append, List.not_mem_nil, or_false, false_or] at hp ⊢); ((repeat (rcases hp with hp | hp)) <;> first | (simp only [hp, true_or, or_true]; done) | (simp; done)))))
local macro_rules | `(tactic| walk_at "M mem") => `(tactic| first | (simp only [List.mem_cons, List.mem_append, List.not_mem_nil, or_false, false_or, true_or, or_true]; done) | (simp; done))
local macro_rules | `(tactic| walk_at "M enterC") => `(tactic| (k_dflt (refine' enterC ?k1 ?k2 ?k3 ?k5 ?kA ?kF ?kK ?k6 ?k7 ?k8 ?k9 ?kB ?kD ?_ ?c2 ?c3 ?c4; (case kA => exact rfl); (case kF => exact rfl); (case kK => assumption); (case k1 => k_asm); (case k2 => k_asm); (case k3 => k_asm); (case k5 => k_asm); (case k6 => k_is); (case k7 => k_is); (case k8 => ktr_room); (case k9 => exact BindsTo.of_eq rfl); (case kB => exact rfl); (case kD => decide +kernel); (case c2 => exact rfl); (case c3 => exact rfl); (case c4 => exact rfl); k_whole)))
local macro_rules | `(tactic| walk_at "M steps") => `(tactic| repeat' (first | (k_unfold; (try dsimp only)) | (k_end; wrow_close) | ((fail_if_success (with_reducible show wpAny _ _ (exec (Stmt.While _ _ _ _) _) _ _ _)); (fail_if_success (with_reducible show wpAny _ _ (exec (Stmt.For _ _ _ _ _) _) _ _ _)); first | walk1 | (dsimp only; walk1) | (leave1; walk_say "STEP leave1"; try dsimp only) | fail "no step")))
local macro_rules | `(tactic| walk_at "M ss") => `(tactic| repeat' (first | (k_unfold; (try dsimp only)) | (k_end; wrow_close) | ((fail_if_success (with_reducible show wpAny _ _ (exec (Stmt.While _ _ _ _) _) _ _ _)); (fail_if_success (with_reducible show wpAny _ _ (exec (Stmt.For _ _ _ _ _) _) _ _ _)); (fail_if_success (with_reducible show wpAny _ _ (subscriptTail _ _ (Value.ref _) _) _ _ _)); (fail_if_success (with_reducible show wpAny _ _ (callWith _ (Value.ref _) _ _ _) _ _ _)); (fail_if_success (with_reducible show wpAny _ _ (truthy (Value.ref _)) _ _ _)); first | walk1 | (dsimp only; walk1) | (leave1; walk_say "STEP leave1"; try dsimp only) | fail "no step")))
local macro_rules | `(tactic| walk_at "M halt") => `(tactic| repeat' (first | (k_unfold; (try dsimp only)) | (k_end; wrow_close) | ((fail_if_success (with_reducible show wpAny _ _ (exec (Stmt.While _ _ _ _) _) _ _ _)); (fail_if_success (with_reducible show wpAny _ _ (call (Value.ref _) _) _ _ _)); (fail_if_success (with_reducible show wpAny _ _ (subscriptTail _ _ (Value.str _ _) (Value.int _ _)) _ _ _)); (fail_if_success (with_reducible show wpAny _ _ (exec (Stmt.For _ _ _ _ _) _) _ _ _)); first | walk1 | (dsimp only; walk1) | (leave1; walk_say "STEP leave1"; try dsimp only) | fail "no step")))
local macro_rules | `(tactic| walk_at "M hs") => `(tactic| repeat' (first | (k_unfold; (try dsimp only)) | (k_end; wrow_close) | ((fail_if_success (with_reducible show wpAny _ _ (exec (Stmt.While _ _ _ _) _) _ _ _)); (fail_if_success (with_reducible show wpAny _ _ (call (Value.ref _) _) _ _ _)); (fail_if_success (with_reducible show wpAny _ _ (subscriptTail _ _ (Value.str _ _) (Value.int _ _)) _ _ _)); (fail_if_success (with_reducible show wpAny _ _ (exec (Stmt.For _ _ _ _ _) _) _ _ _)); (fail_if_success (with_reducible show wpAny _ _ (subscriptTail _ _ (Value.ref _) _) _ _ _)); (fail_if_success (with_reducible show wpAny _ _ (callWith _ (Value.ref _) _ _ _) _ _ _)); (fail_if_success (with_reducible show wpAny _ _ (truthy (Value.ref _)) _ _ _)); first | walk1 | (dsimp only; walk1) | (leave1; walk_say "STEP leave1"; try dsimp only) | fail "no step")))

theorem sub_KL : isSubtype (.type "KeyError") (.type "LookupError") = pure true := by rw [isSubtype_type]; kernel_rfl
noncomputable def okEntry (e : DictEntry) : Bool := match e.key with
  | .int i _ => e.hash == hashInt i
  | _ => false
noncomputable def escF (c : Nat) : Option Value := match c with
  | 32 => some (.str (Str.ofString "\\ ") 446)
  | 45 => some (.str (Str.ofString "\\-") 392)
  | 46 => some (.str (Str.ofString "\\.") 422)
  | 91 => some (.str (Str.ofString "\\[") 350)
  | 94 => some (.str (Str.ofString "\\^") 404)
  | 126 => some (.str (Str.ofString "\\~") 434)
  | _ => none
theorem esc_map {prog : Program} {w : World} {h : Heap} (X : (KK w.params).In h) : ∃ f, h.MapOf (intKind prog w) 45 f ∧ ∀ c ∈ [32, 33, 45, 46, 91, 94, 97, 98, 126], f ((c : Nat) : Int) = escF c := by
  refine ⟨_, ⟨_, _, _, X 45 _ rfl, ⟨rfl, rfl, rfl⟩, rfl, ?_, fun k => rfl⟩, ?_⟩
  · intro e he
    have h1 : okEntry e = true := by
      refine (Array.all_eq_true'.mp (?_ : Array.all _ okEntry = true)) e he
      kernel_rfl
    unfold okEntry at h1
    obtain ⟨hs, key, val⟩ := e
    cases key with
    | int i u => exact ⟨i, by simp [intKind, Value.isInt], (show hs = hashInt i from by simpa using h1)⟩
    | _ => cases h1
  · intro c hc
    simp only [List.mem_cons, List.not_mem_nil, or_false] at hc
    rcases hc with rfl | rfl | rfl | rfl | rfl | rfl | rfl | rfl | rfl <;> kernel_rfl
section
variable {prog : Program} {w : World} {A : Around} {E : Value → Shared → Prop} {s : Shared}
noncomputable def mapped (c : Nat) : Option Value → Option Str
  | none => some ⟨#[c]⟩
  | some (.str t _) => some t
  | _ => none
theorem lookup_one {d : Addr} {f : Int → Option Value} {c : Nat} {Q : Builtin.Str.Mapped → Shared → Prop} (hm : s.heap.MapOf (intKind prog w) d f) (hd : (d == sysModules) = false) (hh : A.handled = none)
    (miss : f c = none → ∀ h' tk, (∀ b o, s.heap.get? b = some o → h'.get? b = some o) → Q .keep { s with heap := h', toks := tk })
    (hit : ∀ t u, f c = some (.str t u) → ∀ tk, Q (.text t) { s with toks := tk }) (hs : ∀ v, f c = some v → ∃ t u, v = .str t u) :
    wpAny (model prog w) A (Builtin.Str.tableLookup (.ref d) c) Q E s := by
  unfold Builtin.Str.tableLookup
  refine wpAny_bind (wpAny_attempt (wpAny_bind (wpAny_mkInt ?_)))
  cases hv : f c with
  | some v =>
    obtain ⟨t, u, rfl⟩ := hs v hv
    refine wpAny_getItem_of (knd := intKind prog w) (k := (c : Int)) (by simp [intKind, Value.isInt]) hm hv ?_
    obtain ⟨hp, g, dr, tk, os⟩ := s
    repeat (any_goals (first | assumption | wp_step))
    exact hit _ _ hv _
  | none =>
    refine wpAny_getItem_missing_of (knd := intKind prog w) (k := (c : Int)) (by simp [intKind, Value.isInt]) hd hh hm hv fun h' e hx => ?_
    obtain ⟨hp, g, dr, tk, os⟩ := s
    obtain ⟨ob, t, he, hcls, hdat⟩ := hx.there
    have hT : (⟨h', g, dr, tk + 1 + 1, os⟩ : Shared).TypeIs (.ref e) "KeyError" := ⟨ob, he, hcls⟩
    have h1 := sub_KL
    repeat (any_goals (first | assumption | wp_step))
    exact miss hv _ _ hx.keeps
set_option maxRecDepth 100000 in
set_option maxHeartbeats 8000000 in
theorem translate_at {d : Addr} {f : Int → Option Value} {c : Nat} {u : Tok} {Q : Value → Shared → Prop} (hm : s.heap.MapOf (intKind prog w) d f) (hd : (d == sysModules) = false) (hh : A.handled = none) (hc : c < 128)
    (hs : ∀ v, f c = some v → ∃ t u, v = .str t u ∧ t.length = 2)
    (k : ∀ t h' tk, mapped c (f c) = some t → (∀ b o, s.heap.get? b = some o → h'.get? b = some o) → Q (.str t tk) { s with heap := h', toks := tk + 1 }) :
    wpAny (model prog w) A (call (.builtin "str.translate") [.str ⟨#[c]⟩ u, .ref d]) Q E s := by
  refine wpAny_call_entry F.slot_str_translate (typeIs_str _ _ _) F.entry_str_translate ?_ (F.args_str_translate_2 _ _)
  obtain ⟨hp, g, dr, tk, os⟩ := s
  have hh1 : A.in1.handled = none := hh
  have e1 : (Str.length ⟨#[c]⟩ == 0) = false := rfl
  have e3 : (decide (c < 128)) = true := decide_eq_true hc
  cases hv : f c with
  | some v =>
    obtain ⟨t, u2, rfl, hl⟩ := hs v hv
    have hit : ∀ (Q' : Builtin.Str.Mapped → Shared → Prop) (E' : Value → Shared → Prop) (tk' : Nat), (∀ tk2, Q' (.text t) ⟨hp, g, dr, tk2, os⟩) → wpAny (model prog w) A.in1 (Builtin.Str.tableLookup (.ref d) c) Q' E' ⟨hp, g, dr, tk', os⟩ := fun Q' E' tk' q =>
      lookup_one hm hd hh1 (fun e => by rw [hv] at e; cases e) (fun t2 u3 e tk2 => by rw [hv] at e; cases e; exact q tk2) (fun v2 e => by rw [hv] at e; cases e; exact ⟨_, _, rfl⟩)
    unfold Builtin.«str.translate»
    repeat (any_goals (first | assumption | ((with_reducible show wpAny _ _ (Builtin.Str.tableLookup _ _) _ _ _); refine hit _ _ _ fun tk2 => ?_) | wp_step))
    have e2 : (t.length == 1) = false := by rw [hl]; rfl
    simp only [e2, Bool.false_and, Bool.false_eq_true, if_false]
    repeat (any_goals (first | assumption | ((with_reducible show wpAny _ _ (Builtin.Str.tableLookup _ _) _ _ _); refine hit _ _ _ fun tk2 => ?_) | wp_step))
    have e4 : Builtin.Str.tooLong (0 + t.length) = false := by rw [hl]; decide +kernel
    have e5 : (⟨List.foldl (fun acc p => acc ++ p.cps) #[] [t].reverse⟩ : Str) = t := by
      obtain ⟨cps⟩ := t
      simp
    simp only [e4, Bool.false_eq_true, if_false, e5]
    unfold retStr
    refine wpAny_bind (wpAny_mkStr ?_ (by rw [hl]; decide +kernel))
    exact wpAny_pure ⟨_, rfl, k t hp tk2 (by rw [hv]; rfl) (fun _ _ e => e)⟩
  | none =>
    have miss : ∀ (Q' : Builtin.Str.Mapped → Shared → Prop) (E' : Value → Shared → Prop) (tk' : Nat), (∀ h2 tk2, (∀ b o, hp.get? b = some o → h2.get? b = some o) → Q' .keep ⟨h2, g, dr, tk2, os⟩) → wpAny (model prog w) A.in1 (Builtin.Str.tableLookup (.ref d) c) Q' E' ⟨hp, g, dr, tk', os⟩ := fun Q' E' tk' q =>
      lookup_one hm hd hh1 (fun e h2 tk2 hk => q h2 tk2 hk) (fun t2 u3 e tk2 => by rw [hv] at e; cases e) (fun v2 e => by rw [hv] at e; cases e)
    unfold Builtin.«str.translate»
    repeat (any_goals (first | assumption | ((with_reducible show wpAny _ _ (Builtin.Str.tableLookup _ _) _ _ _); refine miss _ _ _ fun h2 tk2 hkk => ?_) | wp_step))
    exact ⟨_, rfl, k ⟨#[c]⟩ h2 tk2 (by rw [hv]; rfl) hkk⟩
end
noncomputable def marks : List Nat := [32, 33, 45, 46, 91, 94, 97, 98, 126]
/-- what escape makes of a sign -/
noncomputable def escS (c : Nat) : Str := (mapped c (escF c)).getD ⟨#[c]⟩
theorem escF_marks : ∀ c ∈ marks, mapped c (escF c) = some (escS c) ∧ c < 128 ∧ ∀ v, escF c = some v → ∃ t u, v = .str t u ∧ t.length = 2 := by
  intro c hc
  simp only [marks, List.mem_cons, List.not_mem_nil, or_false] at hc
  rcases hc with rfl | rfl | rfl | rfl | rfl | rfl | rfl | rfl | rfl <;> refine ⟨rfl, by decide, fun v e => ?_⟩ <;> cases e <;> exact ⟨_, _, rfl, rfl⟩
set_option maxRecDepth 100000 in
set_option maxHeartbeats 8000000 in
theorem escape_spec (w : World) (mean : ExcName → Option Value) (mg mb : Str → Option Value) (c : Nat) (u : Tok) (hc : c ∈ marks) :
    Spec w mean mg mb 55 [.str ⟨#[c]⟩ u] (fun _ => True) (fun h h' r => ∃ tk, r = .str (escS c) tk) := by
  unfold Spec
  k_fill
  intro dp un gd cn cs L a ccd cl outer A₀ base h₀ m s Q E B F X T hk hd hu hpre hret
  walk_at "M enter"
  intro Lf h₁ Q' hQr hQn F' N' Bf Xf Tf
  clear F B X T
  replace F' : Fr s.heap Lf h₁ (fun y => List.lookup y [((Str.ofString "pattern"), .str ⟨#[c]⟩ u)]) := F'
  try dsimp only
  walk_at "M steps"
  refine getMethod_builtin (T := "str") (id := "str.translate") ?ga ?gb ?gc ?gd ?ge ?_
  case ga => exact typeIs_str _ _ _
  case gb => exact F.plainAttrs_str
  case gc => exact F.slot_str_translate
  case gd => exact F.type_str_translate
  case ge => exact fun _ e => nomatch e
  walk_at "M steps"
  (rename Fr _ _ _ _ => F9); (rename News _ _ _ _ => N9)
  obtain ⟨f, hm, hf⟩ := esc_map (prog := PySem.Challenge.rw_kt0017_01.row.prog) (w := w) (Xf.keeps F9.keep)
  obtain ⟨e1, e2, e3⟩ := escF_marks c hc
  have e4 := hf c hc
  refine translate_at hm rfl rfl e2 (fun v e => e3 v (by rw [← e4]; exact e)) fun t h' tk e hk => ?_
  rw [e4, e1] at e
  cases e
  walk_at "M steps"
  exact hQr _ _ (hret _ _ _ (fun b o e => hk b o (F9.keep b o e)) ⟨_, rfl⟩)
end Mine
end
section
open PySem PySem.W PyProof.Rows PySem.Calls PySem.Spec
namespace Mine
namespace MineB
open PySem.MeetsSeq PySem.SeqInW
theorem lk_append : typeLookup (.type "list") ((Str.ofString "append")) = pure (some (.builtin "list.append")) := by rw [typeLookup_type, builtinLookup_eq_fast]; kernel_rfl
theorem ty_append : typeOf (.builtin "list.append") = pure (.type "method_descriptor") := by show builtinType _ = _; rw [builtinType_eq_fast]; kernel_rfl
theorem md_set : typeLookup (.type "method_descriptor") ((Str.ofString "__set__")) = pure none := by rw [typeLookup_type, builtinLookup_eq_fast]; kernel_rfl
theorem md_del : typeLookup (.type "method_descriptor") ((Str.ofString "__delete__")) = pure none := by rw [typeLookup_type, builtinLookup_eq_fast]; kernel_rfl
theorem slot_md : Slot "method_descriptor" "__get__" "method_descriptor.__get__" :=
  .of (owner := "method_descriptor") (n := "__get__") (by rw [typeLookup_type, builtinLookup_eq_fast]; kernel_rfl) (by decide +kernel) (by decide +kernel) (by decide +kernel)
    (by first | exact .inl (by decide +kernel) | exact .inr (by decide +kernel)) (by rw [isSubtype_type]; kernel_rfl)
theorem entry_md : entryFor table "method_descriptor.__get__" = some Builtin.«method_descriptor.__get__» := entryFor_of_tree (by kernel_rfl)
theorem args_md (a b c : Value) : argsOk "method_descriptor.__get__" ⟨[a, b, c], []⟩ := by unfold argsOk; kernel_rfl
theorem sub_ll2 : isSubtype (.type "list") (.type "list") = pure true := by rw [isSubtype_type]; kernel_rfl

theorem meets_md (a : Addr) (xs : Array Value) (k : Nat) (sl : Array (Option Value)) :
    Meets (Builtin.«method_descriptor.__get__» ⟨[.builtin "list.append", .ref a, .type "list"], []⟩) (fun A R s => s.heap.get? a = some { cls := .type "list", dict := none, data := .seq xs k, slots := sl } ∧ ∀ tk', R (.ok (.ret (.ref s.heap.objs.size))) { s with heap := s.heap.push { cls := .type "builtin_function_or_method", data := .fields #[.builtin "list.append", .ref a] }, toks := tk' }) :=
  Meets.of_wp fun prog w A R s hs => by
    obtain ⟨hp, g, d, tk, os⟩ := s
    obtain ⟨hx, hs⟩ := hs
    have hT : (⟨hp, g, d, tk, os⟩ : Shared).TypeIs (.ref a) "list" := ⟨_, hx, rfl⟩
    have h3 := sub_ll2
    unfold Builtin.«method_descriptor.__get__»
    repeat (any_goals (first | assumption | wp_step))
    have e : (".".intercalate ("list.append".cutAt '.').dropLast) = "list" := by decide +kernel
    rw [e]
    repeat (any_goals (first | assumption | wp_step))
    exact ⟨_, rfl, hs _⟩

theorem meets_append (a : Addr) (xs : Array Value) (k : Nat) (sl : Array (Option Value)) (u : Tok) :
    Meets (Builtin.«object.__getattribute__» ⟨[.ref a, .str ((Str.ofString "append")) u], []⟩) (fun A R s => s.heap.get? a = some { cls := .type "list", dict := none, data := .seq xs k, slots := sl } ∧ A.handled = none ∧ ∀ tk', R (.ok (.ret (.ref s.heap.objs.size))) { s with heap := s.heap.push { cls := .type "builtin_function_or_method", data := .fields #[.builtin "list.append", .ref a] }, toks := tk' }) :=
  Meets.of_wp fun prog w A R s hs => by
    obtain ⟨hp, g, d, tk, os⟩ := s
    obtain ⟨hx, hh, hs⟩ := hs
    have hT : (⟨hp, g, d, tk, os⟩ : Shared).TypeIs (.ref a) "list" := ⟨_, hx, rfl⟩
    have h1 := lk_append
    have h2 := ty_append
    have h3 := slot_md.lookup
    have h4 := md_set
    have h5 := md_del
    have hT2 : (⟨hp, g, d, tk, os⟩ : Shared).TypeIs (.builtin "list.append") "method_descriptor" := h2
    unfold Builtin.«object.__getattribute__»
    repeat (any_goals (first | assumption | ((with_reducible show wpAny _ _ (call (Value.builtin "method_descriptor.__get__") _ _) _ _ _); refine call_meets slot_md h2 entry_md (args_md _ _ _) (meets_md a xs k sl) ⟨hx, fun tk' => ?_⟩) | wp_step))
    exact wpAny_pure ⟨_, rfl, hs _⟩
theorem getAttr_append {prog : Program} {w : World} {A : Around} {E : Value → Shared → Prop} {s : Shared} {a : Addr} {o : Obj} {xs : Array Value} {k : Nat} {Q : Value → Shared → Prop}
    (hx : s.heap.get? a = some o) (hc : o.cls = .type "list") (hdat : o.data = .seq xs k) (hd : o.dict = none) (hA : A.handled = none)
    (h : ∀ tk', Q (.ref s.heap.objs.size) { s with heap := s.heap.push { cls := .type "builtin_function_or_method", data := .fields #[.builtin "list.append", .ref a] }, toks := tk' }) :
    wpAny (model prog w) A (getAttr (.ref a) ((Str.ofString "append")) true) Q E s := by
  obtain ⟨c, dct, dat, sl⟩ := o
  simp only at hc hdat hd
  subst hc hdat hd
  obtain ⟨hp, g, d, tk, os⟩ := s
  have hT : ∀ tk', (⟨hp, g, d, tk', os⟩ : Shared).TypeIs (.ref a) "list" := fun _ => ⟨_, hx, rfl⟩
  have f3 := F.slot_list_getattribute.lookup
  have f4 := F.slot_list_getattribute.bind (.ref a)
  have f5 := am_list_getattr_none
  unfold getAttr getAttrBy
  repeat (any_goals (first | assumption | exact hT _ | ((with_reducible show wpAny _ _ (call (Value.builtin "list.__getattribute__") _ _) _ _ _); refine call_meets F.slot_list_getattribute (hT _) am_entry_list_getattribute (F.args_list_getattribute_2 _ _) (meets_append a xs k sl _) ⟨hx, hA, fun tk' => ?_⟩) | wp_step))
  exact wpAny_pure (h _)

theorem sub_list_module : isSubtype (.type "list") (.type "module") = pure false := by rw [isSubtype_type]; kernel_rfl
theorem sub_list_type : isSubtype (.type "list") (.type "type") = pure false := by rw [isSubtype_type]; kernel_rfl
theorem check_append {prog : Program} {w : World} {A : Around} {E : Value → Shared → Prop} {s : Shared} {a : Addr} {x : Value} {xs : Array Value} {k : Nat} {sl : Array (Option Value)} {Q : Unit → Shared → Prop} (hx : s.heap.get? a = some { cls := .type "list", dict := none, data := .seq xs k, slots := sl }) (h : Q () s) :
    wpAny (model prog w) A (checkBoundCall "list.append" ⟨[.ref a, x], []⟩) Q E s := by
  unfold checkBoundCall
  rw [signature?_of (id := "list.append") (n := ['d', 'n', 'e', 'p', 'p', 'a']) (o := ['t', 's', 'i', 'l']) (by kernel_rfl) F.owner_list]
  have k1 : builtinKind "list.append" = some .method := by kernel_rfl
  have k2 := sub_list_module
  have k3 := sub_list_type
  obtain ⟨hp, g, d, tk, os⟩ := s
  have hT : (⟨hp, g, d, tk, os⟩ : Shared).TypeIs (.ref a) "list" := ⟨_, hx, rfl⟩
  rw [k1]
  dsimp only
  repeat (any_goals (first | assumption | wp_step))
end MineB
end Mine
namespace Mine
/-- add = res.append -/
noncomputable def bmObj (l : Addr) : Obj := { cls := .type "builtin_function_or_method", data := .fields #[.builtin "list.append", .ref l] }
section
variable {prog : Program} {w : World} {A : Around} {E : Value → Shared → Prop} {s : Shared} {h₀ : Heap} {L : Addr} {m : Str → Option Value} {news own rest : List (Addr × Obj)}
theorem getAttr_append_K {a : Addr} {xs : Array Value} {n : Nat} {Q : Value → Shared → Prop} (F : Fr h₀ L s.heap m) (N : News h₀ L s.heap news) (hx : s.heap.get? a = some (listOf xs n)) (hA : A.handled = none)
    (h : ∀ q h' tk', Fr h₀ L h' m → News h₀ L h' ((q, bmObj a) :: news) → (∀ p ∈ news, p.1 < q) → Q (.ref q) { s with heap := h', toks := tk' }) :
    wpAny (model prog w) A (getAttr (.ref a) ((Str.ofString "append")) true) Q E s :=
  MineB.getAttr_append hx rfl rfl rfl hA fun tk' => h _ _ tk' (F.push _) (N.push F _) fun p hp => Heap.lt_size (N p hp).1
theorem call_append {q D : Addr} {ys : List Value} {n : Nat} {x : Value} {Q : Value → Shared → Prop} (F : Fr h₀ L s.heap m) (N : News h₀ L s.heap (own ++ (D, listOf ys.toArray n) :: rest)) (hown : ∀ p ∈ own, p.1 ≠ D) (hap : ∀ p ∈ rest, p.1 ≠ D)
    (hq : s.heap.get? q = some (bmObj D)) (h : ∀ h', Fr h₀ L h' m → News h₀ L h' (own ++ (D, listOf (ys ++ [x]).toArray (n + 1)) :: rest) → Q .none { s with heap := h' }) (hsz : ys.length ≤ 1000) :
    wpAny (model prog w) A (call (.ref q) [x]) Q E s := by
  have hm := N _ (List.mem_append_right own (List.Mem.head rest))
  have hz : ys.toArray.size ≤ sizeLine := by simp; unfold sizeLine; omega
  refine wpAny_call (MineB.call_bound hq (.inr rfl) PySem.F.slot_list_append.plain PySem.F.entry_list_append (fun Q' hQ' => MineB.check_append hm.1 hQ') (PySem.list_append D ys.toArray n x hz) ⟨hm.1, ?_⟩)
  have e : ys.toArray.push x = (ys ++ [x]).toArray := by simp
  have hs := Heap.SameBut.update s.heap D (Obj.mapSeq fun x_1 => x_1.push x)
  have em : Obj.mapSeq (fun x_1 => x_1.push x) (listOf ys.toArray n) = listOf (ys ++ [x]).toArray (n + 1) := by rw [← e]; exact mapSeq_push ..
  have ho' : (s.heap.update D (Obj.mapSeq fun x_1 => x_1.push x)).get? D = some (listOf (ys ++ [x]).toArray (n + 1)) := by
    rw [← em]
    exact Heap.get?_update_self _ hm.1 (by show (Obj.mapSeq _ (listOf ys.toArray n)).isFreed = false; rw [em]; rfl)
  exact h _ (F.change hs hm.2.1 hm.2.2) (N.setIn hown hap hs ho')
end
end Mine
end
section
open PySem PySem.W PyProof.Rows PySem.Calls PySem.Spec
namespace Mine
local macro_rules | `(tactic| k_room) => `(tactic| ktr_room)
local macro_rules | `(tactic| walk_at "M enter") => `(tactic| (k_dflt (refine' enterP ?k1 ?k2 ?k3 ?k5 ?kA ?kF ?kK ?k6 ?k7 ?k8 ?k9 ?kB ?_ ?c2 ?c3 ?c4 ?c5; (case kA => exact rfl); (case kF => exact rfl); (case kK => assumption); (case k1 => k_asm); (case k2 => k_asm); (case k3 => k_asm); (case k5 => k_asm); (case k6 => k_is); (case k7 => k_is); (case k8 => ktr_room); (case k9 => exact BindsTo.of_eq rfl); (case c5 => decide); (case kB => exact locs rfl); (case c2 => exact rfl); (case c3 => exact rfl); (case c4 => exact rfl); k_whole)))
local macro_rules | `(tactic| walk_at "M frame") => `(tactic| (intro z hz; (try dsimp only); (repeat' split) <;> first | rfl | contradiction | (exfalso; simp_all; done) | (simp_all; done)))
local macro_rules | `(tactic| walk_at "M frame0") => `(tactic| (intro z; (try dsimp only); (repeat' split) <;> first | rfl | contradiction | (exfalso; simp_all; done) | (subst_vars; first | rfl | (exfalso; simp_all (config := { decide := true }); done) | (simp (config := { decide := true }) at *; done)) | (simp_all; done)))
local macro_rules | `(tactic| walk_at "M led") => `(tactic| (intro p hp; first | exact absurd hp List.not_mem_nil | ((simp only [List.mem_cons, List.mem_append, List.not_mem_nil, or_false, false_or] at hp ⊢); ((repeat (rcases hp with hp | hp)) <;> first | (simp only [hp, true_or, or_true]; done) | (simp; done)))))
local macro_rules | `(tactic| walk_at "M mem") => `(tactic| first | (simp only [List.mem_cons, List.mem_append, List.not_mem_nil, or_false, false_or, true_or, or_true]; done) | (simp; done))
local macro_rules | `(tactic| walk_at "M enterC") => `(tactic| (k_dflt (refine' enterC ?k1 ?k2 ?k3 ?k5 ?kA ?kF ?kK ?k6 ?k7 ?k8 ?k9 ?kB ?kD ?_ ?c2 ?c3 ?c4; (case kA => exact rfl); (case kF => exact rfl); (case kK => assumption); (case k1 => k_asm); (case k2 => k_asm); (case k3 => k_asm); (case k5 => k_asm); (case k6 => k_is); (case k7 => k_is); (case k8 => ktr_room); (case k9 => exact BindsTo.of_eq rfl); (case kB => exact rfl); (case kD => decide +kernel); (case c2 => exact rfl); (case c3 => exact rfl); (case c4 => exact rfl); k_whole)))
local macro_rules | `(tactic| walk_at "M steps") => `(tactic| repeat' (first | (k_unfold; (try dsimp only)) | (k_end; wrow_close) | ((fail_if_success (with_reducible show wpAny _ _ (exec (Stmt.While _ _ _ _) _) _ _ _)); (fail_if_success (with_reducible show wpAny _ _ (exec (Stmt.For _ _ _ _ _) _) _ _ _)); first | walk1 | (dsimp only; walk1) | (leave1; walk_say "STEP leave1"; try dsimp only) | fail "no step")))
local macro_rules | `(tactic| walk_at "M ss") => `(tactic| repeat' (first | (k_unfold; (try dsimp only)) | (k_end; wrow_close) | ((fail_if_success (with_reducible show wpAny _ _ (exec (Stmt.While _ _ _ _) _) _ _ _)); (fail_if_success (with_reducible show wpAny _ _ (exec (Stmt.For _ _ _ _ _) _) _ _ _)); (fail_if_success (with_reducible show wpAny _ _ (subscriptTail _ _ (Value.ref _) _) _ _ _)); (fail_if_success (with_reducible show wpAny _ _ (callWith _ (Value.ref _) _ _ _) _ _ _)); (fail_if_success (with_reducible show wpAny _ _ (truthy (Value.ref _)) _ _ _)); first | walk1 | (dsimp only; walk1) | (leave1; walk_say "STEP leave1"; try dsimp only) | fail "no step")))
local macro_rules | `(tactic| walk_at "M halt") => `(tactic| repeat' (first | (k_unfold; (try dsimp only)) | (k_end; wrow_close) | ((fail_if_success (with_reducible show wpAny _ _ (exec (Stmt.While _ _ _ _) _) _ _ _)); (fail_if_success (with_reducible show wpAny _ _ (call (Value.ref _) _) _ _ _)); (fail_if_success (with_reducible show wpAny _ _ (subscriptTail _ _ (Value.str _ _) (Value.int _ _)) _ _ _)); (fail_if_success (with_reducible show wpAny _ _ (exec (Stmt.For _ _ _ _ _) _) _ _ _)); first | walk1 | (dsimp only; walk1) | (leave1; walk_say "STEP leave1"; try dsimp only) | fail "no step")))
local macro_rules | `(tactic| walk_at "M hs") => `(tactic| repeat' (first | (k_unfold; (try dsimp only)) | (k_end; wrow_close) | ((fail_if_success (with_reducible show wpAny _ _ (exec (Stmt.While _ _ _ _) _) _ _ _)); (fail_if_success (with_reducible show wpAny _ _ (call (Value.ref _) _) _ _ _)); (fail_if_success (with_reducible show wpAny _ _ (subscriptTail _ _ (Value.str _ _) (Value.int _ _)) _ _ _)); (fail_if_success (with_reducible show wpAny _ _ (exec (Stmt.For _ _ _ _ _) _) _ _ _)); (fail_if_success (with_reducible show wpAny _ _ (subscriptTail _ _ (Value.ref _) _) _ _ _)); (fail_if_success (with_reducible show wpAny _ _ (callWith _ (Value.ref _) _ _ _) _ _ _)); (fail_if_success (with_reducible show wpAny _ _ (truthy (Value.ref _)) _ _ _)); first | walk1 | (dsimp only; walk1) | (leave1; walk_say "STEP leave1"; try dsimp only) | fail "no step")))

inductive Parts (star : Addr) : List Nat → List Value → Prop
  | nil : Parts star [] []
  | star {l : List Nat} {vs : List Value} : Parts star l vs → Parts star (l ++ [42]) (vs ++ [.ref star])
  | sign {l : List Nat} {vs : List Value} {c : Nat} {t : Tok} : c ∈ marks → Parts star l vs → Parts star (l ++ [c]) (vs ++ [.str (escS c) t])
theorem Parts.length {star : Addr} {l : List Nat} {vs : List Value} (h : Parts star l vs) : vs.length = l.length := by
  induction h with
  | nil => rfl
  | star _ ih => simp [ih]
  | sign _ _ ih => simp [ih]
/-- stars with one sign between -/
noncomputable def Pat (l : List Nat) : Prop := (∀ (i c : Nat), l[i]? = some c → c = 42 ∨ c ∈ marks) ∧ (∀ i : Nat, l[i + 1]? = some 42 → ∃ c, l[i]? = some c ∧ c ∈ marks) ∧ ∀ (i c : Nat), l[i]? = some c → c ∈ marks → l[i + 1]? = some 42
theorem parts_last {star : Addr} {l : List Nat} {vs : List Value} (h : Parts star l vs) {c : Nat} (e : l.getLast? = some c) (hc : c ∈ marks) : ∃ s t, vs.getLast? = some (.str s t) := by
  cases h with
  | nil => simp at e
  | star h =>
    simp at e
    subst e
    simp [marks] at hc
  | sign _ h => exact ⟨_, _, by simp; exact ⟨rfl, rfl⟩⟩
structure PT where
  i : Nat
  ti : Tok
  oc : Option Value
  oj : Option Value
  vs : List Value
  n : Nat
noncomputable def mP (star : Addr) (pat : Str) (u tq : Tok) (rl q : Addr) (tn : Tok) (c : PT) : Str → Option Value := fun y => if y = (Str.ofString "j") then c.oj else if y = (Str.ofString "c") then c.oc else if y = (Str.ofString "i") then some (.int (c.i : Int) c.ti) else if y = (Str.ofString "n") then some (.int (pat.length : Int) tn) else
  if y = (Str.ofString "add") then some (.ref q) else if y = (Str.ofString "res") then some (.ref rl) else List.lookup y [((Str.ofString "QUESTION_MARK"), .str (Str.ofString ".") tq), ((Str.ofString "STAR"), .ref star), ((Str.ofString "pat"), .str pat u)]
theorem mP_keys {f : Str → Option Value} {star : Addr} {pat : Str} {u tq : Tok} {rl q : Addr} {tn : Tok} {c : PT} (h1 : f ((Str.ofString "j")) = c.oj) (h2 : f ((Str.ofString "c")) = c.oc) (h3 : f ((Str.ofString "i")) = some (.int (c.i : Int) c.ti)) (h4 : f ((Str.ofString "n")) = some (.int (pat.length : Int) tn)) (h5 : f ((Str.ofString "add")) = some (.ref q)) (h6 : f ((Str.ofString "res")) = some (.ref rl))
    (h7 : ∀ z, z ≠ (Str.ofString "j") → z ≠ (Str.ofString "c") → z ≠ (Str.ofString "i") → z ≠ (Str.ofString "n") → z ≠ (Str.ofString "add") → z ≠ (Str.ofString "res") → f z = List.lookup z [((Str.ofString "QUESTION_MARK"), .str (Str.ofString ".") tq), ((Str.ofString "STAR"), .ref star), ((Str.ofString "pat"), .str pat u)]) : ∀ z, f z = mP star pat u tq rl q tn c z := by
  intro z
  unfold mP
  by_cases k1 : z = (Str.ofString "j")
  · subst k1; exact h1
  by_cases k2 : z = (Str.ofString "c")
  · subst k2; rw [if_neg k1, if_pos rfl]; exact h2
  by_cases k3 : z = (Str.ofString "i")
  · subst k3; rw [if_neg k1, if_neg k2, if_pos rfl]; exact h3
  by_cases k4 : z = (Str.ofString "n")
  · subst k4; rw [if_neg k1, if_neg k2, if_neg k3, if_pos rfl]; exact h4
  by_cases k5 : z = (Str.ofString "add")
  · subst k5; rw [if_neg k1, if_neg k2, if_neg k3, if_neg k4, if_pos rfl]; exact h5
  by_cases k6 : z = (Str.ofString "res")
  · subst k6; rw [if_neg k1, if_neg k2, if_neg k3, if_neg k4, if_neg k5, if_pos rfl]; exact h6
  rw [if_neg k1, if_neg k2, if_neg k3, if_neg k4, if_neg k5, if_neg k6]
  exact h7 z k1 k2 k3 k4 k5 k6
local macro_rules | `(tactic| walk_at "M pkeys") => `(tactic| (refine mP_keys ?_ ?_ ?_ ?_ ?_ ?_ ?_ <;> first | rfl | (intro z z1 z2 z3 z4 z5 z6; (try dsimp only); simp only [if_neg z1, if_neg z2, if_neg z3, if_neg z4, if_neg z5, if_neg z6])))
noncomputable def nP (rl q : Addr) (c : PT) : List (Addr × Obj) := [(q, bmObj rl), (rl, listOf c.vs.toArray c.n)]
theorem charAt_nat {x : Str} {i ch : Nat} (h : x.cps.toList[i]? = some ch) : Txt.item x (i : Int) = ⟨#[ch]⟩ := by
  have hl := (List.getElem?_eq_some_iff.mp h).1
  have e : Txt.charAt x (i : Int) = some ch := by
    have h' : x.cps[i]? = some ch := by rw [← Array.getElem?_toList]; exact h
    have hl' : i < x.length := by simpa [Str.length] using hl
    unfold Txt.charAt seqIndex?
    have h0 : ¬ ((i : Int) < 0) := by omega
    simp only [h0, if_false]
    rw [if_pos (by simp only [Bool.and_eq_true, decide_eq_true_eq]; omega)]
    simpa using h'
  unfold Txt.item
  rw [e]; rfl
section
variable {prog : Program} {w : World} {A : Around} {E : Value → Shared → Prop} {s : Shared} {value slice : PySem.Expr} {x : PySem.Str} {t u : Tok} {i ch : Nat} {Q : Value → Shared → Prop}
theorem item_cp (h : x.cps.toList[i]? = some ch) (hz : x.length ≤ 1000) (k : Q (.str ⟨#[ch]⟩ s.toks) { s with toks := s.toks + 1 })
    (hs : subscripted slice false (.str x t) (.int (i : Int) u) = operate [.str x t, .int (i : Int) u] (getItem (.str x t) (.int (i : Int) u)) := by with_unfolding_all rfl)
    (ht : ∀ r, letTemporaryGo value (.str x t) r = pure () := by intro _; with_unfolding_all rfl) :
    wpAny (model prog w) A (subscriptTail value slice (.str x t) (.int (i : Int) u)) Q E s := by
  have hl : i < x.length := by simpa [Str.length] using (List.getElem?_eq_some_iff.mp h).1
  refine item_str (fitsSsize_of (N := 9223372036854775808) (by omega) (by omega) (Int.le_refl _)) (by omega) (by omega) (fun _ => ?_) hs ht
  rw [charAt_nat h]
  exact k
end
/-- as Spec, with its own room -/
noncomputable def SpecD (d u : Nat) (w : World) (mean : ExcName → Option Value) (mg mb : Str → Option Value) (f : Addr) (args : List Value) (Pre : Heap → Prop) (Post : Heap → Heap → Value → Prop) : Prop :=
  ∀ (dp un : Nat) (gd : Option (List Code)) (cn : Str) (cs : Scope) (L a : Addr) (ccd : Value) (cl : List (Str × Addr)) (outer : List Env) (A₀ : Around) (base h₀ : Heap) (m : Str → Option Value) (s : Shared) (Q E : Value → Shared → Prop),
    Below A₀ base outer h₀ → Fr h₀ L s.heap m → (KK w.params).In h₀ → Top topProg LL mean mg mb h₀ → cs.kind = .function →
    dp + d < recursionLimit → un + u < cLine → Pre s.heap →
    (∀ r h' tk', s.heap.StaysIn h' → Post s.heap h' r → Q r { s with heap := h', toks := tk' }) →
    wpAny (model PySem.Challenge.rw_kt0017_01.row.prog w) (ktrTop dp un gd cn cs L a ccd cl outer) (call (.ref f) args) Q E s
theorem SpecD.go {d u : Nat} {w : World} {mean : ExcName → Option Value} {mg mb : Str → Option Value} {f : Addr} {args : List Value} {Pre : Heap → Prop} {Post : Heap → Heap → Value → Prop} (h : SpecD d u w mean mg mb f args Pre Post)
    {dp un : Nat} {gd : Option (List Code)} {cn : Str} {cs : Scope} {L a : Addr} {ccd : Value} {cl : List (Str × Addr)} {outer : List Env} {A₀ : Around} {base h₀ : Heap} {m : Str → Option Value} {s : Shared} {Q E : Value → Shared → Prop}
    (B : Below A₀ base outer h₀) (F : Fr h₀ L s.heap m) (X : (KK w.params).In h₀) (T : Top topProg LL mean mg mb h₀) (hk : cs.kind = .function) (hd : dp + d < recursionLimit) (hu : un + u < cLine) (hpre : Pre s.heap)
    (hret : ∀ r h' tk', s.heap.StaysIn h' → Post s.heap h' r → Q r { s with heap := h', toks := tk' }) :
    wpAny (model PySem.Challenge.rw_kt0017_01.row.prog w) (ktrTop dp un gd cn cs L a ccd cl outer) (call (.ref f) args) Q E s :=
  h dp un gd cn cs L a ccd cl outer A₀ base h₀ m s Q E B F X T hk hd hu hpre hret
theorem item_last {prog : Program} {w : World} {A : Around} {E : Value → Shared → Prop} {s : Shared} {value slice : PySem.Expr} {l : Addr} {vs : List Value} {v : Value} {u : Tok} {Q : Value → Shared → Prop} (hl : s.heap.IsList l vs.toArray) (hv : vs.getLast? = some v) (k : Q v s)
    (hs : subscripted slice false (.ref l) (.int (-1) u) = operate [.ref l, .int (-1) u] (getItem (.ref l) (.int (-1) u)) := by with_unfolding_all rfl) :
    wpAny (model prog w) A (subscriptTail value slice (.ref l) (.int (-1) u)) Q E s := by
  have hne : vs ≠ [] := by rintro rfl; simp at hv
  have hp := List.length_pos_iff.mpr hne
  refine tail_any hl.typeIs slot_list_getitem.lookup (wpAny_getItem_list_neg hl (by decide) (by simp; omega) (by decide) (x := v) ?_ k) hs
  rw [List.getLast?_eq_getElem?] at hv
  simp
  rw [show (-1 + (vs.length : Int)).toNat = vs.length - 1 from by omega]
  exact hv
theorem isnot_str_ref {M : Model} {A : Around} {E : Value → Shared → Prop} {s : Shared} {x : Str} {t : Tok} {a : Addr} {Q : Value → Shared → Prop} (h : Q (.bool true) s) : wpAny M A (compareOp .IsNot (.str x t) (.ref a)) Q E s := by
  have e : (!(Value.str x t == Value.ref a)) = true := rfl
  exact wpAny_pure (a := Value.bool (!(Value.str x t == Value.ref a))) (by rw [e]; exact h)
theorem is_ref_same {M : Model} {A : Around} {E : Value → Shared → Prop} {s : Shared} {a : Addr} {Q : Value → Shared → Prop} (h : Q (.bool true) s) : wpAny M A (compareOp .Is (.ref a) (.ref a)) Q E s := by
  show wpAny M A (do return Value.bool (← isSame (.ref a) (.ref a))) Q E s
  unfold isSame
  simp only [beq_self_eq_true, if_true]
  exact wpAny_bind (wpAny_pure (wpAny_pure h))
theorem Spec.go {w : World} {mean : ExcName → Option Value} {mg mb : Str → Option Value} {f : Addr} {args : List Value} {Pre : Heap → Prop} {Post : Heap → Heap → Value → Prop} (h : Spec w mean mg mb f args Pre Post)
    {dp un : Nat} {gd : Option (List Code)} {cn : Str} {cs : Scope} {L a : Addr} {ccd : Value} {cl : List (Str × Addr)} {outer : List Env} {A₀ : Around} {base h₀ : Heap} {m : Str → Option Value} {s : Shared} {Q E : Value → Shared → Prop}
    (B : Below A₀ base outer h₀) (F : Fr h₀ L s.heap m) (X : (KK w.params).In h₀) (T : Top topProg LL mean mg mb h₀) (hk : cs.kind = .function) (hd : dp + 40 < recursionLimit) (hu : un + 200 < cLine) (hpre : Pre s.heap)
    (hret : ∀ r h' tk', s.heap.StaysIn h' → Post s.heap h' r → Q r { s with heap := h', toks := tk' }) :
    wpAny (model PySem.Challenge.rw_kt0017_01.row.prog w) (ktrTop dp un gd cn cs L a ccd cl outer) (call (.ref f) args) Q E s :=
  h dp un gd cn cs L a ccd cl outer A₀ base h₀ m s Q E B F X T hk hd hu hpre hret
set_option maxRecDepth 100000 in
set_option maxHeartbeats 8000000 in
theorem translate_parts_spec (w : World) (mean : ExcName → Option Value) (mg mb : Str → Option Value) (star : Addr) (pat : Str) (u tq : Tok) (hpat : Pat pat.cps.toList) (hz : pat.length ≤ 100) :
    SpecD 50 300 w mean mg mb 62 [.str pat u, .ref star, .str (Str.ofString ".") tq] (fun h => True) (fun h h' r => ∃ rl vs n, r = .ref rl ∧ h.get? rl = none ∧ h'.get? rl = some (listOf (List.toArray vs) n) ∧ Parts star pat.cps.toList vs) := by
  unfold SpecD
  k_fill
  intro dp un gd cn cs L a ccd cl outer A₀ base h₀ m s Q E B F X T hk hd hu hpre hret
  walk_at "M enter"
  intro Lf h₁ Q' hQr hQn F' N' Bf Xf Tf
  clear F B X T
  try dsimp only
  replace F' : Fr s.heap Lf h₁ (fun y => List.lookup y [((Str.ofString "QUESTION_MARK"), .str (Str.ofString ".") tq), ((Str.ofString "STAR"), .ref star), ((Str.ofString "pat"), .str pat u)]) := F'
  walk_at "M steps"
  (rename Fr _ _ _ _ => F9); (rename News _ _ _ _ => N9)
  rename_i rl _ _ _
  refine getAttr_append_K F9 N9 (N9 _ List.mem_cons_self).1 rfl fun q h2 tk2 F2 N2 l2 => ?_
  clear F9 N9
  walk_at "M steps"
  (rename Fr _ _ _ _ => F9); (rename News _ _ _ _ => N9)
  obtain ⟨ti, tn, F8⟩ : ∃ ti tn, Fr s.heap Lf _ (fun y => if y = (Str.ofString "i") then some (Value.int 0 ti) else if y = (Str.ofString "n") then some (.int (pat.length : Int) tn) else if y = (Str.ofString "add") then some (.ref q) else if y = (Str.ofString "res") then some (.ref rl) else List.lookup y [((Str.ofString "QUESTION_MARK"), .str (Str.ofString ".") tq), ((Str.ofString "STAR"), .ref star), ((Str.ofString "pat"), .str pat u)]) := ⟨_, _, F9⟩
  have N8 : News s.heap Lf _ (nP rl q ⟨0, ti, none, none, [], 0⟩) := fun p hp => N9 p (List.mem_cons_of_mem _ hp)
  have lq : rl < q := l2 _ List.mem_cons_self
  clear F9 N9
  refine' while_inv (mP star pat u tq rl q tn) (nP rl q) (fun n c => n = pat.length - c.i ∧ c.i ≤ pat.length ∧ Parts star (pat.cps.toList.take c.i) c.vs) pat.length ⟨0, ti, none, none, [], 0⟩ F8 ?h1 N8 ?h2 ?h3 ?h4
  case h1 => walk_at "M pkeys"
  case h2 => exact ⟨rfl, Nat.zero_le _, .nil⟩
  case h3 => passes_own
  case h4 =>
    intro n c h tk Q2 hP F2 N2 hfin hgo
    clear F8 N8
    obtain ⟨hP1, hP2, hP3⟩ := hP
    unfold mP at F2
    unfold nP at N2
    walk_at "M steps"
    by_cases hlt : c.i < pat.length
    case neg =>
      rw [decide_eq_false (by omega)]
      refine hfin _ ?_
      have hi : c.i = pat.length := by omega
      rw [hi] at F2 hP3
      walk_at "M steps"
      (rename Fr _ _ _ _ => F9); (rename News _ _ _ _ => N9)
      refine hQr _ _ (hret _ _ _ (fun b o e => F9.keep _ _ e) ⟨_, c.vs, _, rfl, (N9 (rl, listOf c.vs.toArray c.n) (List.mem_cons_of_mem _ List.mem_cons_self)).2.2, (N9 (rl, listOf c.vs.toArray c.n) (List.mem_cons_of_mem _ List.mem_cons_self)).1, ?_⟩)
      rwa [show pat.length = pat.cps.toList.length from by simp [Str.length], List.take_length] at hP3
    rw [decide_eq_true (by omega)]
    refine hgo _ fun Q3 hr hb hn => ?_
    obtain ⟨ch, hch⟩ : ∃ ch, pat.cps.toList[c.i]? = some ch := ⟨_, List.getElem?_eq_getElem (by simpa [Str.length] using hlt)⟩
    walk_at "M halt"
    refine item_cp hch (by omega) ?_
    have hcc := hpat.1 _ _ hch
    have htk : pat.cps.toList.take (c.i + 1) = pat.cps.toList.take c.i ++ [ch] := by rw [List.take_add_one, hch]; rfl
    by_cases h42 : ch = 42
    · subst h42
      walk_at "M hs"
      (rename Fr _ _ _ _ => F9); (rename News _ _ _ _ => N9)
      refine wpAny_truthy_list (items := c.vs.toArray) ⟨_, (N9 (rl, listOf c.vs.toArray c.n) (List.mem_cons_of_mem _ List.mem_cons_self)).1, rfl, _, rfl⟩ (by have := hP3.length; simp [Str.length] at this hz ⊢; omega) ?_
      by_cases hvs : c.vs = []
      · rw [show (!(c.vs.toArray.isEmpty)) = false from by simp [hvs]]
        walk_at "M hs"
        refine MineB.callWith_bound (id := "list.append") (self := .ref rl) (.inr rfl) ?_
        walk_at "M halt"
        all_goals (rename Fr _ _ _ _ => F9); (rename News _ _ _ _ => N9)
        · exact (N9 (q, bmObj rl) List.mem_cons_self).1
        refine call_append (own := [(q, bmObj rl)]) (rest := []) (ys := c.vs) F9 N9 (fun p hp => by rw [List.mem_singleton.mp hp]; exact Nat.ne_of_gt lq) (fun _ hp => nomatch hp) (N9 _ List.mem_cons_self).1 (fun h7 F7 N7 => ?_) (by have := hP3.length; simp [Str.length] at this hz ⊢; omega)
        walk_at "M halt"
        (rename Fr _ _ _ _ => F9); (rename News _ _ _ _ => N9)
        refine' hn .next (n - 1) ⟨c.i + 1, _, _, _, c.vs ++ [_], c.n + 1⟩ _ _ _ _ (.inl rfl) ?m1 F9 N9 ?fr (fun p hp => hp) ⟨?m2, ?m3, ?m4⟩
        case fr => walk_at "M pkeys"
        case m1 => omega
        case m2 => dsimp only; omega
        case m3 => dsimp only; omega
        case m4 => dsimp only; rw [htk]; exact .star hP3
      · rw [show (!(c.vs.toArray.isEmpty)) = true from by simp [hvs]]
        walk_at "M hs"
        obtain ⟨k0, hk0⟩ : ∃ k0, c.i = k0 + 1 := by
          refine ⟨c.i - 1, ?_⟩
          have hne : c.vs.length ≠ 0 := by simpa using hvs
          have := hP3.length
          rw [List.length_take] at this
          omega
        obtain ⟨cm, hcm1, hcm2⟩ := hpat.2.1 k0 (by rw [← hk0]; exact hch)
        obtain ⟨sx, tx, hlast⟩ := parts_last hP3 (c := cm) (by rw [hk0, List.take_add_one, hcm1]; simp) hcm2
        (rename Fr _ _ _ _ => F9); (rename News _ _ _ _ => N9)
        refine item_last (vs := c.vs) ⟨_, (N9 (rl, listOf c.vs.toArray c.n) (List.mem_cons_of_mem _ List.mem_cons_self)).1, rfl, _, rfl⟩ hlast ?_ rfl
        walk_at "M halt"
        refine isnot_str_ref ?_
        walk_at "M hs"
        refine MineB.callWith_bound (id := "list.append") (self := .ref rl) (.inr rfl) ?_
        walk_at "M halt"
        all_goals (rename Fr _ _ _ _ => F9); (rename News _ _ _ _ => N9)
        · exact (N9 (q, bmObj rl) List.mem_cons_self).1
        refine call_append (own := [(q, bmObj rl)]) (rest := []) (ys := c.vs) F9 N9 (fun p hp => by rw [List.mem_singleton.mp hp]; exact Nat.ne_of_gt lq) (fun _ hp => nomatch hp) (N9 _ List.mem_cons_self).1 (fun h7 F7 N7 => ?_) (by have := hP3.length; simp [Str.length] at this hz ⊢; omega)
        walk_at "M halt"
        (rename Fr _ _ _ _ => F9); (rename News _ _ _ _ => N9)
        refine' hn .next (n - 1) ⟨c.i + 1, _, _, _, c.vs ++ [_], c.n + 1⟩ _ _ _ _ (.inl rfl) ?m1 F9 N9 ?fr (fun p hp => hp) ⟨?m2, ?m3, ?m4⟩
        case fr => walk_at "M pkeys"
        case m1 => omega
        case m2 => dsimp only; omega
        case m3 => dsimp only; omega
        case m4 => dsimp only; rw [htk]; exact .star hP3
    by_cases h91 : ch = 91
    · subst h91
      have hcm91 : 91 ∈ marks := by decide
      have h43 := hpat.2.2 _ _ hch (by decide)
      have hlt2 : c.i + 1 < pat.length := by simpa [Str.length] using (List.getElem?_eq_some_iff.mp h43).1
      walk_at "M halt"
      refine item_cp (i := c.i + 1) h43 (by omega) ?_
      walk_at "M halt"
      refine item_cp (i := c.i + 1) h43 (by omega) ?_
      walk_at "M halt"
      (rename Fr _ _ _ _ => F9); (rename News _ _ _ _ => N9)
      have F5 := F9
      clear F9
      obtain ⟨tj, ti2, tc, F9⟩ : ∃ tj ti2 tc, Fr s.heap Lf _ (mP star pat u tq rl q tn ⟨c.i + 1, ti2, some (.str ⟨#[91]⟩ tc), some (.int ((c.i + 1 : Nat) : Int) tj), c.vs, c.n⟩) := ⟨_, _, _, Fr.cong F5 (by walk_at "M pkeys")⟩
      clear F5
      refine' while_inv (fun d : Nat × Tok => mP star pat u tq rl q tn ⟨c.i + 1, ti2, some (.str ⟨#[91]⟩ tc), some (.int (d.1 : Int) d.2), c.vs, c.n⟩) (fun _ => nP rl q c) (fun n d => n = pat.length - d.1 ∧ d.1 ≤ pat.length) (pat.length - (c.i + 1)) (c.i + 1, tj) F9 ?h1 N9 ?h2 ?h3 ?h4
      case h1 => exact fun _ => rfl
      case h2 => exact ⟨rfl, by omega⟩
      case h3 => passes_own
      case h4 =>
        intro n2 d h5 tk5 Q5 hD F5 N5 hfin5 hgo5
        clear F9 N9
        obtain ⟨hD1, hD2⟩ := hD
        unfold mP at F5
        unfold nP at N5
        walk_at "M halt"
        · obtain ⟨c5, hc5⟩ : ∃ c5, pat.cps.toList[d.1]? = some c5 := ⟨_, List.getElem?_eq_getElem (by simp only [Array.length_toList]; show d.1 < pat.length; omega)⟩
          refine item_cp hc5 (by omega) ?_
          have q5 : ((⟨#[c5]⟩ : Str) == (Str.ofString "]")) = false := by
            have := hpat.1 _ _ hc5
            simp only [marks, List.mem_cons, List.not_mem_nil, or_false] at this
            rcases this with rfl | rfl | rfl | rfl | rfl | rfl | rfl | rfl | rfl | rfl <;> decide +kernel
          walk_at "M halt"
          · refine hgo5 _ fun Q6 hr6 hb6 hn6 => ?_
            walk_at "M halt"
            (rename Fr _ _ _ _ => F9); (rename News _ _ _ _ => N9)
            refine' hn6 .next (n2 - 1) (d.1 + 1, _) _ _ _ _ (.inl rfl) ?m1 F9 N9 ?fr (fun p hp => hp) ⟨?m2, ?m3⟩
            case fr => walk_at "M pkeys"
            case m1 => omega
            case m2 => dsimp only; omega
            case m3 => dsimp only; omega
          · exfalso
            simp_all
        refine hfin5 _ ?_
        have hdn : d.1 = pat.length := by omega
        walk_at "M hs"
        refine MineB.callWith_bound (id := "list.append") (self := .ref rl) (.inr rfl) ?_
        walk_at "M halt"
        all_goals (rename Fr _ _ _ _ => F9); (rename News _ _ _ _ => N9)
        · exact (N9 (q, bmObj rl) List.mem_cons_self).1
        refine call_append (own := [(q, bmObj rl)]) (rest := []) (ys := c.vs) F9 N9 (fun p hp => by rw [List.mem_singleton.mp hp]; exact Nat.ne_of_gt lq) (fun _ hp => nomatch hp) (N9 _ List.mem_cons_self).1 (fun h7 F7 N7 => ?_) (by have := hP3.length; simp [Str.length] at this hz ⊢; omega)
        walk_at "M halt"
        (rename Fr _ _ _ _ => F9); (rename News _ _ _ _ => N9)
        refine' hn .next (n - 1) ⟨c.i + 1, _, _, _, c.vs ++ [_], c.n + 1⟩ _ _ _ _ (.inl rfl) ?m1 F9 N9 ?fr (fun p hp => hp) ⟨?m2, ?m3, ?m4⟩
        case fr => walk_at "M pkeys"
        case m1 => omega
        case m2 => dsimp only; omega
        case m3 => dsimp only; omega
        case m4 => dsimp only; rw [htk]; exact .sign (c := 91) hcm91 hP3
    have hcm : ch ∈ marks := hcc.resolve_left h42
    have hce : ch = 32 ∨ ch = 33 ∨ ch = 45 ∨ ch = 46 ∨ ch = 94 ∨ ch = 97 ∨ ch = 98 ∨ ch = 126 := by
      simp only [marks, List.mem_cons, List.not_mem_nil, or_false] at hcm
      omega
    have q1 : ((⟨#[ch]⟩ : Str) == (Str.ofString "*")) = false := by rcases hce with rfl | rfl | rfl | rfl | rfl | rfl | rfl | rfl <;> decide +kernel
    have q2 : ((⟨#[ch]⟩ : Str) == (Str.ofString "?")) = false := by rcases hce with rfl | rfl | rfl | rfl | rfl | rfl | rfl | rfl <;> decide +kernel
    have q3 : ((⟨#[ch]⟩ : Str) == (Str.ofString "[")) = false := by rcases hce with rfl | rfl | rfl | rfl | rfl | rfl | rfl | rfl <;> decide +kernel
    walk_at "M hs"
    refine MineB.callWith_bound (id := "list.append") (self := .ref rl) (.inr rfl) ?_
    walk_at "M halt"
    (rename Fr _ _ _ _ => F9); (rename News _ _ _ _ => N9)
    refine Spec.go (escape_spec w mean mg mb ch _ hcm) (dp := dp + 1) (un := un + 3) (gd := gd) (cl := []) Bf F9 Xf Tf rfl (by omega) (by omega) trivial ?_
    rintro r h6 tk6 hst ⟨t6, rfl⟩
    walk_at "M halt"
    all_goals replace F9 := Fr.keeps F9 hst
    all_goals replace N9 := News.keeps N9 hst
    · exact (N9 (q, bmObj rl) List.mem_cons_self).1
    refine call_append (own := [(q, bmObj rl)]) (rest := []) (ys := c.vs) F9 N9 (fun p hp => by rw [List.mem_singleton.mp hp]; exact Nat.ne_of_gt lq) (fun _ hp => nomatch hp) (N9 _ List.mem_cons_self).1 (fun h7 F7 N7 => ?_) (by have := hP3.length; simp [Str.length] at this hz ⊢; omega)
    walk_at "M halt"
    (rename Fr _ _ _ _ => F9); (rename News _ _ _ _ => N9)
    refine' hn .next (n - 1) ⟨c.i + 1, _, _, _, c.vs ++ [_], c.n + 1⟩ _ _ _ _ (.inl rfl) ?m1 F9 N9 ?fr (fun p hp => hp) ⟨?m2, ?m3, ?m4⟩
    case fr => walk_at "M pkeys"
    case m1 => omega
    case m2 => dsimp only; omega
    case m3 => dsimp only; omega
    case m4 => dsimp only; rw [htk]; exact .sign hcm hP3
end Mine
end
section
open PySem PySem.W PyProof.Rows PySem.Calls PySem.Spec
namespace Mine
local macro_rules | `(tactic| k_room) => `(tactic| ktr_room)
local macro_rules | `(tactic| walk_at "M enter") => `(tactic| (k_dflt (refine' enterP ?k1 ?k2 ?k3 ?k5 ?kA ?kF ?kK ?k6 ?k7 ?k8 ?k9 ?kB ?_ ?c2 ?c3 ?c4 ?c5; (case kA => exact rfl); (case kF => exact rfl); (case kK => assumption); (case k1 => k_asm); (case k2 => k_asm); (case k3 => k_asm); (case k5 => k_asm); (case k6 => k_is); (case k7 => k_is); (case k8 => ktr_room); (case k9 => exact BindsTo.of_eq rfl); (case c5 => decide); (case kB => exact locs rfl); (case c2 => exact rfl); (case c3 => exact rfl); (case c4 => exact rfl); k_whole)))
local macro_rules | `(tactic| walk_at "M frame") => `(tactic| (intro z hz; (try dsimp only); (repeat' split) <;> first | rfl | contradiction | (exfalso; simp_all; done) | (simp_all; done)))
local macro_rules | `(tactic| walk_at "M frame0") => `(tactic| (intro z; (try dsimp only); (repeat' split) <;> first | rfl | contradiction | (exfalso; simp_all; done) | (subst_vars; first | rfl | (exfalso; simp_all (config := { decide := true }); done) | (simp (config := { decide := true }) at *; done)) | (simp_all; done)))
local macro_rules | `(tactic| walk_at "M led") => `(tactic| (intro p hp; first | exact absurd hp List.not_mem_nil | ((simp only [List.mem_cons, List.mem_append, List.not_mem_nil, or_false, false_or] at hp ⊢); ((repeat (rcases hp with hp | hp)) <;> first | (simp only [hp, true_or, or_true]; done) | (simp; done)))))
local macro_rules | `(tactic| walk_at "M mem") => `(tactic| first | (simp only [List.mem_cons, List.mem_append, List.not_mem_nil, or_false, false_or, true_or, or_true]; done) | (simp; done))
local macro_rules | `(tactic| walk_at "M enterC") => `(tactic| (k_dflt (refine' enterC ?k1 ?k2 ?k3 ?k5 ?kA ?kF ?kK ?k6 ?k7 ?k8 ?k9 ?kB ?kD ?_ ?c2 ?c3 ?c4; (case kA => exact rfl); (case kF => exact rfl); (case kK => assumption); (case k1 => k_asm); (case k2 => k_asm); (case k3 => k_asm); (case k5 => k_asm); (case k6 => k_is); (case k7 => k_is); (case k8 => ktr_room); (case k9 => exact BindsTo.of_eq rfl); (case kB => exact rfl); (case kD => decide +kernel); (case c2 => exact rfl); (case c3 => exact rfl); (case c4 => exact rfl); k_whole)))
local macro_rules | `(tactic| walk_at "M steps") => `(tactic| repeat' (first | (k_unfold; (try dsimp only)) | (k_end; wrow_close) | ((fail_if_success (with_reducible show wpAny _ _ (exec (Stmt.While _ _ _ _) _) _ _ _)); (fail_if_success (with_reducible show wpAny _ _ (exec (Stmt.For _ _ _ _ _) _) _ _ _)); first | walk1 | (dsimp only; walk1) | (leave1; walk_say "STEP leave1"; try dsimp only) | fail "no step")))
local macro_rules | `(tactic| walk_at "M ss") => `(tactic| repeat' (first | (k_unfold; (try dsimp only)) | (k_end; wrow_close) | ((fail_if_success (with_reducible show wpAny _ _ (exec (Stmt.While _ _ _ _) _) _ _ _)); (fail_if_success (with_reducible show wpAny _ _ (exec (Stmt.For _ _ _ _ _) _) _ _ _)); (fail_if_success (with_reducible show wpAny _ _ (subscriptTail _ _ (Value.ref _) _) _ _ _)); (fail_if_success (with_reducible show wpAny _ _ (callWith _ (Value.ref _) _ _ _) _ _ _)); (fail_if_success (with_reducible show wpAny _ _ (truthy (Value.ref _)) _ _ _)); first | walk1 | (dsimp only; walk1) | (leave1; walk_say "STEP leave1"; try dsimp only) | fail "no step")))
local macro_rules | `(tactic| walk_at "M halt") => `(tactic| repeat' (first | (k_unfold; (try dsimp only)) | (k_end; wrow_close) | ((fail_if_success (with_reducible show wpAny _ _ (exec (Stmt.While _ _ _ _) _) _ _ _)); (fail_if_success (with_reducible show wpAny _ _ (call (Value.ref _) _) _ _ _)); (fail_if_success (with_reducible show wpAny _ _ (subscriptTail _ _ (Value.str _ _) (Value.int _ _)) _ _ _)); (fail_if_success (with_reducible show wpAny _ _ (exec (Stmt.For _ _ _ _ _) _) _ _ _)); first | walk1 | (dsimp only; walk1) | (leave1; walk_say "STEP leave1"; try dsimp only) | fail "no step")))
local macro_rules | `(tactic| walk_at "M hs") => `(tactic| repeat' (first | (k_unfold; (try dsimp only)) | (k_end; wrow_close) | ((fail_if_success (with_reducible show wpAny _ _ (exec (Stmt.While _ _ _ _) _) _ _ _)); (fail_if_success (with_reducible show wpAny _ _ (call (Value.ref _) _) _ _ _)); (fail_if_success (with_reducible show wpAny _ _ (subscriptTail _ _ (Value.str _ _) (Value.int _ _)) _ _ _)); (fail_if_success (with_reducible show wpAny _ _ (exec (Stmt.For _ _ _ _ _) _) _ _ _)); (fail_if_success (with_reducible show wpAny _ _ (subscriptTail _ _ (Value.ref _) _) _ _ _)); (fail_if_success (with_reducible show wpAny _ _ (callWith _ (Value.ref _) _ _ _) _ _ _)); (fail_if_success (with_reducible show wpAny _ _ (truthy (Value.ref _)) _ _ _)); first | walk1 | (dsimp only; walk1) | (leave1; walk_say "STEP leave1"; try dsimp only) | fail "no step")))

/-- the pattern of the signs: stars with one sign between -/
noncomputable def patL (cs : List Nat) : List Nat := 42 :: cs.flatMap fun c => [c, 42]
theorem patL_len (cs : List Nat) : (patL cs).length = 2 * cs.length + 1 := by
  unfold patL
  induction cs with
  | nil => rfl
  | cons c cs ih => simp at ih ⊢; omega
theorem patL_even (cs : List Nat) : ∀ k, k ≤ cs.length → (patL cs)[2 * k]? = some 42 := by
  unfold patL
  induction cs with
  | nil => intro k hk; simp at hk; subst hk; rfl
  | cons c cs ih =>
    intro k hk
    cases k with
    | zero => rfl
    | succ k =>
      have := ih k (by simpa using hk)
      rw [show 2 * (k + 1) = 2 * k + 1 + 1 from by omega]
      simpa using this
theorem patL_odd (cs : List Nat) : ∀ k (c : Nat), cs[k]? = some c → (patL cs)[2 * k + 1]? = some c := by
  unfold patL
  induction cs with
  | nil => intro k c hk; simp at hk
  | cons d cs ih =>
    intro k c hk
    cases k with
    | zero => simpa using hk
    | succ k =>
      have := ih k c (by simpa using hk)
      rw [show 2 * (k + 1) + 1 = 2 * k + 1 + 1 + 1 from by omega]
      simpa using this
theorem parts_at {star : Addr} {l : List Nat} {vs : List Value} (h : Parts star l vs) : ∀ (i c : Nat), l[i]? = some c → (c = 42 → vs[i]? = some (.ref star)) ∧ (c ∈ marks → ∃ t, vs[i]? = some (.str (escS c) t)) := by
  induction h with
  | nil => intro i c e; simp at e
  | @star l0 vs0 h ih =>
    intro i c e
    have hl := h.length
    rw [List.getElem?_append] at e
    split at e
    · rename_i hlt
      obtain ⟨e1, e2⟩ := ih i c e
      refine ⟨fun q => ?_, fun q => ?_⟩
      · rw [List.getElem?_append_left (by omega)]; exact e1 q
      · obtain ⟨t, q⟩ := e2 q
        exact ⟨t, by rw [List.getElem?_append_left (by omega)]; exact q⟩
    · rename_i hge
      have hi : i - l0.length = 0 := by
        have := (List.getElem?_eq_some_iff.mp e).1
        simpa using this
      rw [hi] at e
      simp at e
      subst e
      refine ⟨fun _ => ?_, fun q => by simp [marks] at q⟩
      rw [List.getElem?_append_right (by omega), hl, hi]; rfl
  | @sign l0 vs0 c0 t0 hc h ih =>
    intro i c e
    have hl := h.length
    rw [List.getElem?_append] at e
    split at e
    · rename_i hlt
      obtain ⟨e1, e2⟩ := ih i c e
      refine ⟨fun q => ?_, fun q => ?_⟩
      · rw [List.getElem?_append_left (by omega)]; exact e1 q
      · obtain ⟨t, q⟩ := e2 q
        exact ⟨t, by rw [List.getElem?_append_left (by omega)]; exact q⟩
    · rename_i hge
      have hi : i - l0.length = 0 := by
        have := (List.getElem?_eq_some_iff.mp e).1
        simpa using this
      rw [hi] at e
      simp at e
      subst e
      refine ⟨fun q => by subst q; simp [marks] at hc, fun _ => ⟨t0, ?_⟩⟩
      rw [List.getElem?_append_right (by omega), hl, hi]; rfl
/-- what one sign becomes -/
noncomputable def itemS (c : Nat) : Str := (Str.ofString "(?>.*?") ++ escS c ++ (Str.ofString ")")
theorem escS_len : ∀ c ∈ marks, (escS c).length ≤ 2 := by
  intro c hc
  simp only [marks, List.mem_cons, List.not_mem_nil, or_false] at hc
  rcases hc with rfl | rfl | rfl | rfl | rfl | rfl | rfl | rfl | rfl <;> decide +kernel
theorem itemS_len {c : Nat} (hc : c ∈ marks) : (itemS c).length ≤ 9 := by
  have := escS_len c hc
  have e : (itemS c).length = 6 + (escS c).length + 1 := by
    unfold itemS
    simp only [Str.length_append]
    rfl
  omega
theorem sum_le (l : List Str) (h : ∀ x ∈ l, x.length ≤ 9) : (l.map (·.length)).sum ≤ 9 * l.length := by
  induction l with
  | nil => simp
  | cons x l ih =>
    have h1 := h x (by simp)
    have h2 := ih fun y hy => h y (by simp [hy])
    simp only [List.map_cons, List.sum_cons, List.length_cons]
    omega
theorem empty_app (x : Str) : Str.empty ++ x = x := by
  obtain ⟨c⟩ := x
  show (⟨#[] ++ c⟩ : Str) = _
  simp
theorem join_len0 (l : List Str) (h : ∀ x ∈ l, x.length ≤ 9) : (Txt.join ((Str.ofString "")) l).length ≤ 9 * l.length := by
  have e : (Txt.join ((Str.ofString "")) l).length = (l.map (·.length)).sum + (l.length - 1) * Str.length ((Str.ofString "")) := size_glued _ _
  have e0 : Str.length ((Str.ofString "")) = 0 := rfl
  rw [e, e0]
  have := sum_le l h
  omega
theorem joinJ_len (sg : List Nat) (hcs : ∀ c ∈ sg, c ∈ marks) (hz : sg.length ≤ 20) : (Txt.join ((Str.ofString "")) (sg.map itemS ++ [(Str.ofString ".*")])).length ≤ 300 := by
  have := join_len0 (sg.map itemS ++ [(Str.ofString ".*")]) (fun x hx => by
    rcases List.mem_append.mp hx with hx | hx
    · obtain ⟨c, hc, rfl⟩ := List.mem_map.mp hx
      exact itemS_len (hcs c hc)
    · rw [List.mem_singleton.mp hx]; decide +kernel)
  simp only [List.length_append, List.length_map, List.length_singleton] at this
  omega
structure JT where
  i : Nat
  ti : Tok
  of : Option Value
  rs : List Value
  n1 : Nat
noncomputable def mJ (star il rl q : Addr) (n : Nat) (tn : Tok) (c : JT) : Str → Option Value := fun y => if y = (Str.ofString "fixed") then c.of else if y = (Str.ofString "i") then some (.int (c.i : Int) c.ti) else if y = (Str.ofString "n") then some (.int (n : Int) tn) else if y = (Str.ofString "add") then some (.ref q) else if y = (Str.ofString "res") then some (.ref rl) else List.lookup y [((Str.ofString "STAR"), .ref star), ((Str.ofString "inp"), .ref il)]
theorem mJ_keys {f : Str → Option Value} {star il rl q : Addr} {n : Nat} {tn : Tok} {c : JT} (h0 : f ((Str.ofString "fixed")) = c.of) (h1 : f ((Str.ofString "i")) = some (.int (c.i : Int) c.ti)) (h2 : f ((Str.ofString "n")) = some (.int (n : Int) tn)) (h3 : f ((Str.ofString "add")) = some (.ref q)) (h4 : f ((Str.ofString "res")) = some (.ref rl))
    (h7 : ∀ z, z ≠ (Str.ofString "fixed") → z ≠ (Str.ofString "i") → z ≠ (Str.ofString "n") → z ≠ (Str.ofString "add") → z ≠ (Str.ofString "res") → f z = List.lookup z [((Str.ofString "STAR"), .ref star), ((Str.ofString "inp"), .ref il)]) : ∀ z, f z = mJ star il rl q n tn c z := by
  intro z
  unfold mJ
  by_cases k0 : z = (Str.ofString "fixed")
  · subst k0; rw [if_pos rfl]; exact h0
  by_cases k1 : z = (Str.ofString "i")
  · subst k1; rw [if_neg k0, if_pos rfl]; exact h1
  by_cases k2 : z = (Str.ofString "n")
  · subst k2; rw [if_neg k0, if_neg k1, if_pos rfl]; exact h2
  by_cases k3 : z = (Str.ofString "add")
  · subst k3; rw [if_neg k0, if_neg k1, if_neg k2, if_pos rfl]; exact h3
  by_cases k4 : z = (Str.ofString "res")
  · subst k4; rw [if_neg k0, if_neg k1, if_neg k2, if_neg k3, if_pos rfl]; exact h4
  rw [if_neg k0, if_neg k1, if_neg k2, if_neg k3, if_neg k4]
  exact h7 z k0 k1 k2 k3 k4
local macro_rules | `(tactic| walk_at "M jkeys") => `(tactic| (refine mJ_keys ?_ ?_ ?_ ?_ ?_ ?_ <;> first | rfl | (intro z z0 z1 z2 z3 z4; (try dsimp only); simp only [if_neg z0, if_neg z1, if_neg z2, if_neg z3, if_neg z4])))

noncomputable def nJ (rl q : Addr) (c : JT) : List (Addr × Obj) := [(q, bmObj rl), (rl, listOf c.rs.toArray c.n1)]
set_option maxRecDepth 100000 in
set_option maxHeartbeats 8000000 in
theorem join_spec (w : World) (mean : ExcName → Option Value) (mg mb : Str → Option Value) (star il : Addr) (sg : List Nat) (hcs : ∀ c ∈ sg, c ∈ marks) (hz : sg.length ≤ 20) (vs : List Value) (hvs : Parts star (patL sg) vs) :
    SpecD 50 300 w mean mg mb 69 [.ref il, .ref star] (fun h => h.IsList il vs.toArray) (fun h h' r => ∃ t, r = .str ((Str.ofString "(?s:") ++ Txt.join ((Str.ofString "")) (sg.map itemS ++ [(Str.ofString ".*")]) ++ (Str.ofString ")\\Z")) t) := by
  unfold SpecD
  k_fill
  intro dp un gd cn cs L a ccd cl outer A₀ base h₀ m s Q E B F X T hk hd hu hpre hret
  walk_at "M enter"
  intro Lf h₁ Q' hQr hQn F' N' Bf Xf Tf
  clear F B X T
  try dsimp only
  replace F' : Fr s.heap Lf h₁ (fun y => List.lookup y [((Str.ofString "STAR"), .ref star), ((Str.ofString "inp"), .ref il)]) := F'
  walk_at "M halt"
  (rename Fr _ _ _ _ => F9); (rename News _ _ _ _ => N9)
  rename_i rl _ _ _
  refine getAttr_append_K F9 N9 (N9 _ List.mem_cons_self).1 rfl fun q h2 tk2 F2 N2 l2 => ?_
  clear F9 N9
  have hil : ∀ h m', Fr s.heap Lf h m' → h.IsList il vs.toArray := fun h m' F => hpre.at fun o e => F.keep _ o e
  have hlen : vs.length = 2 * sg.length + 1 := by rw [hvs.length, patL_len]
  have lq : rl < q := l2 _ List.mem_cons_self
  walk_at "M halt"
  (rename Fr _ _ _ _ => F9); (rename News _ _ _ _ => N9)
  refine len_list (hil _ _ F9) (by simp; omega) ?_
  walk_at "M halt"
  (rename Fr _ _ _ _ => F9); (rename News _ _ _ _ => N9)
  have hsz : vs.toArray.size = 2 * sg.length + 1 := by simpa using hlen
  rw [hsz] at F9
  obtain ⟨ti, tn, F7⟩ : ∃ ti tn, Fr s.heap Lf _ (fun y => if y = (Str.ofString "i") then some (Value.int 0 ti) else if y = (Str.ofString "n") then some (.int ((2 * sg.length + 1 : Nat) : Int) tn) else if y = (Str.ofString "add") then some (.ref q) else if y = (Str.ofString "res") then some (.ref rl) else List.lookup y [((Str.ofString "STAR"), .ref star), ((Str.ofString "inp"), .ref il)]) := ⟨_, _, F9⟩
  have F8 : Fr s.heap Lf _ (mJ star il rl q (2 * sg.length + 1) tn ⟨0, ti, none, [], 0⟩) := Fr.cong F7 (by walk_at "M jkeys")
  clear F7
  have N8 : News s.heap Lf _ (nJ rl q ⟨0, ti, none, [], 0⟩) := fun p hp => N9 p (List.mem_cons_of_mem _ hp)
  clear F9 N9
  have ev : ∀ k, k ≤ sg.length → vs[2 * k]? = some (.ref star) := fun k hk => (parts_at hvs _ _ (patL_even sg k hk)).1 rfl
  have od : ∀ k (c : Nat), sg[k]? = some c → ∃ t, vs[2 * k + 1]? = some (.str (escS c) t) := fun k c hk => (parts_at hvs _ _ (patL_odd sg k c hk)).2 (hcs c (List.mem_of_getElem? hk))
  have F8k : PLift (Fr s.heap Lf _ (mJ star il rl q (2 * sg.length + 1) tn ⟨0, ti, none, [], 0⟩)) := ⟨F8⟩
  unfold mJ at F8
  refine while_off (by passes_own) fun Q4 hoff => ?_
  walk_at "M hs"
  refine item_litK (v := .ref star) (hil _ _ F8) (by simp) (by simp) (by simpa using ev 0 (Nat.zero_le _)) ?_
  walk_at "M halt"
  try refine isnot_ref_same ?_
  walk_at "M halt"
  refine hoff _ ?_
  clear F8
  have F8 := F8k.down
  clear F8k hoff
  walk_at "M halt"
  refine' while_inv (mJ star il rl q (2 * sg.length + 1) tn) (nJ rl q) (fun n c => ∃ k, c.i = 2 * k ∧ k ≤ sg.length ∧ n = sg.length - k ∧ Txs c.rs ((sg.take k).map itemS)) (sg.length) ⟨0, ti, none, [], 0⟩ F8 ?h1 N8 ?h2 ?h3 ?h4
  case h1 => exact fun _ => rfl
  case h2 => exact ⟨0, rfl, Nat.zero_le _, rfl, .nil⟩
  case h3 => passes_own
  case h4 =>
    intro n c h tk Q2 hP F2 N2 hfin hgo
    clear F8 N8
    obtain ⟨k, hk1, hk2, hk3, hk4⟩ := hP
    have hrl : c.rs.length = k := by rw [hk4.length]; simp; omega
    unfold mJ at F2
    unfold nJ at N2
    walk_at "M halt"
    rw [decide_eq_true (by omega)]
    refine hgo _ fun Q3 hr hb hn => ?_
    walk_at "M hs"
    refine item_litK (v := .ref star) (hil _ _ F2) (by omega) (by omega) (by rw [show ((c.i : Int)).toNat = 2 * k from by omega]; exact ev k hk2) ?_
    walk_at "M hs"
    try refine is_ref_same ?_
    walk_at "M hs"
    · --EA
      refine MineB.callWith_bound (id := "list.append") (self := .ref rl) (.inr rfl) ?_
      walk_at "M halt"
      all_goals (rename Fr _ _ _ _ => F9); (rename News _ _ _ _ => N9)
      · exact (N9 (q, bmObj rl) List.mem_cons_self).1
      refine call_append (own := [(q, bmObj rl)]) (rest := []) (ys := c.rs) F9 N9 (fun p hp => by rw [List.mem_singleton.mp hp]; exact Nat.ne_of_gt lq) (fun _ hp => nomatch hp) (N9 _ List.mem_cons_self).1 (fun h7 F7 N7 => ?_) (by omega)
      walk_at "M halt"
      refine hb _ ?_
      have hkk : k = sg.length := by omega
      subst hkk
      rw [List.take_length] at hk4
      have hT : ∀ tk, Txs (c.rs ++ [Value.str ((Str.ofString ".*")) tk]) (sg.map itemS ++ [(Str.ofString ".*")]) := fun _ => hk4.append (.cons .nil)
      walk_at "M halt"
      (rename Fr _ _ _ _ => F9); (rename News _ _ _ _ => N9)
      refine join_listW (items := (c.rs ++ [Value.str ((Str.ofString ".*")) _]).toArray) ⟨_, (N9 (rl, _) (List.mem_cons_of_mem _ List.mem_cons_self)).1, rfl, _, rfl⟩ (by simpa using (hT _).strs) (by decide) ?wt ?_
      case wt =>
        have := sum_le (sg.map itemS ++ [(Str.ofString ".*")]) (fun x hx => by
          rcases List.mem_append.mp hx with hx | hx
          · obtain ⟨c, hc, rfl⟩ := List.mem_map.mp hx
            exact itemS_len (hcs c hc)
          · rw [List.mem_singleton.mp hx]; decide +kernel)
        simp only [List.length_append, List.length_map, List.length_singleton] at this ⊢
        omega
      intro t9 k9
      have hJ := joinJ_len sg hcs hz
      have hret2 := fun r h' tk' st (q : ∃ t, r = Value.str ((Str.ofString "(?s:") ++ Txt.join ((Str.ofString "")) (sg.map itemS ++ [(Str.ofString ".*")]) ++ (Str.ofString ")\\Z")) t) => hret r h' tk' st q
      clear hret hT
      walk_at "M halt"
      (rename Fr _ _ _ _ => F9); (rename News _ _ _ _ => N9)
      exact hQr _ _ (hret2 _ _ _ (fun b o e => F9.keep _ _ e) ⟨_, by rw [empty_app]⟩)
      --EB
    obtain ⟨cc, hcc⟩ : ∃ cc, sg[k]? = some cc := ⟨_, List.getElem?_eq_getElem (by omega)⟩
    obtain ⟨t5, hv5⟩ := od k cc hcc
    have hccm := hcs cc (List.mem_of_getElem? hcc)
    (rename Fr _ _ _ _ => F9); (rename News _ _ _ _ => N9)
    refine item_litK (v := .str (escS cc) t5) (hil _ _ F9) (by omega) (by omega) (by rw [show ((c.i : Int) + 1).toNat = 2 * k + 1 from by omega]; exact hv5) ?_
    walk_at "M halt"
    refine isnot_str_ref ?_
    walk_at "M halt"
    (rename Fr _ _ _ _ => F9); (rename News _ _ _ _ => N9)
    obtain ⟨fl, ti5, F7, N7, lf1, lf2⟩ : ∃ fl ti5, Fr s.heap Lf _ (fun y => if y = (Str.ofString "fixed") then some (Value.ref fl) else if y = (Str.ofString "i") then some (.int ((c.i : Int) + 1) ti5) else if y = (Str.ofString "fixed") then c.of else if y = (Str.ofString "i") then some (.int (c.i : Int) c.ti) else if y = (Str.ofString "n") then some (.int ((2 * sg.length + 1 : Nat) : Int) tn) else if y = (Str.ofString "add") then some (.ref q) else if y = (Str.ofString "res") then some (.ref rl) else List.lookup y [((Str.ofString "STAR"), .ref star), ((Str.ofString "inp"), .ref il)]) ∧ News s.heap Lf _ ((fl, listOf #[] 0) :: nJ rl q c) ∧ q < fl ∧ rl < fl := by
      refine ⟨_, _, F9, N9, ?_⟩
      assumption
    clear F9 N9
    refine' while_inv (fun d : Bool × Tok => mJ star il rl q (2 * sg.length + 1) tn ⟨2 * k + 1 + (if d.1 then 1 else 0), d.2, some (.ref fl), c.rs, c.n1⟩) (fun d => (fl, listOf (if d.1 then [Value.str (escS cc) t5] else []).toArray (if d.1 then 1 else 0)) :: nJ rl q c) (fun n d => n = if d.1 then 0 else 1) 1 (false, ti5) F7 ?h1 N7 ?h2 ?h3 ?h4
    case h1 =>
      refine mJ_keys ?_ ?_ ?_ ?_ ?_ ?_
      · rfl
      · show some (Value.int ((c.i : Int) + 1) ti5) = some (Value.int ((2 * k + 1 : Nat) : Int) ti5)
        rw [hk1]; rfl
      · rfl
      · rfl
      · rfl
      · intro z z0 z1 z2 z3 z4
        simp only [if_neg z0, if_neg z1, if_neg z2, if_neg z3, if_neg z4]
    case h2 => rfl
    case h3 => passes_own
    case h4 =>
      intro n6 d h6 tk6 Q6 hD F6 N6 hfin6 hgo6
      clear F7 N7
      obtain ⟨db, dt⟩ := d
      unfold mJ at F6
      unfold nJ at N6
      cases db with
      | false =>
        simp only [Bool.false_eq_true, if_false] at F6 N6
        walk_at "M hs"
        refine item_litK (v := .str (escS cc) t5) (hil _ _ F6) (by omega) (by omega) (by rw [show (((2 * k + 1 + 0 : Nat) : Int)).toNat = 2 * k + 1 from by omega]; exact hv5) ?_
        walk_at "M halt"
        refine isnot_str_ref ?_
        walk_at "M halt"
        refine hgo6 _ fun Q7 hr7 hb7 hn7 => ?_
        walk_at "M hs"
        refine item_litK (v := .str (escS cc) t5) (hil _ _ F6) (by omega) (by omega) (by rw [show (((2 * k + 1 + 0 : Nat) : Int)).toNat = 2 * k + 1 from by omega]; exact hv5) ?_
        walk_at "M halt"
        refine append_in (own := []) (rest := nJ rl q c) (ys := []) F6 N6 (fun _ hp => nomatch hp) ?ap ?_ (by decide)
        case ap =>
          intro p hp
          rcases List.mem_cons.mp hp with rfl | hp
          · exact Nat.ne_of_lt lf1
          · rw [List.mem_singleton.mp hp]; exact Nat.ne_of_lt lf2
        intro h8 F8 N8
        walk_at "M halt"
        (rename Fr _ _ _ _ => F9); (rename News _ _ _ _ => N9)
        refine' hn7 .next 0 (true, _) _ _ _ _ (.inl rfl) ?m1 F9 N9 ?fr (fun p hp => hp) rfl
        case m1 => rw [hD]; simp
        case fr =>
          refine mJ_keys ?_ ?_ ?_ ?_ ?_ ?_
          · rfl
          · rfl
          · rfl
          · rfl
          · rfl
          · intro z z0 z1 z2 z3 z4
            simp only [if_neg z0, if_neg z1, if_neg z2, if_neg z3, if_neg z4]
      | true =>
        simp only [if_true] at F6 N6
        walk_at "M hs"
        refine item_litK (v := .ref star) (hil _ _ F6) (by omega) (by omega) (by rw [show (((2 * k + 1 + 1 : Nat) : Int)).toNat = 2 * (k + 1) from by omega]; exact ev (k + 1) (by omega)) ?_
        walk_at "M halt"
        refine hfin6 _ ?_
        walk_at "M halt"
        refine join_listW (items := [Value.str (escS cc) t5].toArray) ⟨_, (N6 (fl, _) List.mem_cons_self).1, rfl, _, rfl⟩ (StrsAre.cons _ _ .nil) (by decide) ?wt ?_
        case wt =>
          have := escS_len cc hccm
          simp; omega
        intro t8 k8
        have e8 : Txt.join ((Str.ofString "")) [escS cc] = escS cc := rfl
        rw [e8]
        have hel := escS_len cc hccm
        walk_at "M hs"
        · exfalso; omega
        refine MineB.callWith_bound (id := "list.append") (self := .ref rl) (.inr rfl) ?_
        walk_at "M halt"
        all_goals (rename Fr _ _ _ _ => F9); (rename News _ _ _ _ => N9)
        · exact (N9 (q, bmObj rl) (List.mem_cons_of_mem _ List.mem_cons_self)).1
        refine call_append (own := [(fl, _), (q, bmObj rl)]) (rest := []) (ys := c.rs) F9 N9 ?ow (fun _ hp => nomatch hp) (N9 (q, bmObj rl) (List.mem_cons_of_mem _ List.mem_cons_self)).1 (fun h7 F7 N7 => ?_) (by omega)
        case ow =>
          intro p hp
          rcases List.mem_cons.mp hp with rfl | hp
          · exact Nat.ne_of_gt lf2
          · rw [List.mem_singleton.mp hp]; exact Nat.ne_of_gt lq
        walk_at "M halt"
        (rename Fr _ _ _ _ => F9); (rename News _ _ _ _ => N9)
        refine' hn .next (sg.length - (k + 1)) ⟨2 * k + 1 + 1, _, _, c.rs ++ [_], c.n1 + 1⟩ _ _ _ _ (.inl rfl) ?m1 F9 N9 ?fr (fun p hp => List.mem_cons_of_mem _ hp) ⟨k + 1, ?m2, ?m3, rfl, ?m4⟩
        case fr => walk_at "M jkeys"
        case m1 => omega
        case m2 => dsimp only; omega
        case m3 => omega
        case m4 =>
          dsimp only
          rw [List.take_add_one, hcc, List.map_append]
          exact hk4.append (by rw [empty_app]; exact .cons .nil)
end Mine
end
section
open PySem PySem.W PyProof.Rows PySem.Calls PySem.Spec
open Sem (wp)
namespace Mine.MineO
theorem mro_object : mroOf (.type "object") = pure [.type "object"] := by rw [mroOf_type]; kernel_rfl
theorem lookup_object_new : typeLookup (.type "object") "__new__" = pure (some (.builtin "object.__new__")) := by rw [typeLookup_type, builtinLookup_eq_fast]; kernel_rfl
theorem slot_object_init : Slot "object" "__init__" "object.__init__" :=
  .of (owner := "object") (n := "__init__") (by rw [typeLookup_type, builtinLookup_eq_fast]; kernel_rfl) (by decide +kernel) (by decide +kernel) (by decide +kernel)
    (by first | exact .inl (by decide +kernel) | exact .inr (by decide +kernel)) (by rw [isSubtype_type]; kernel_rfl)
theorem called_object : TypeCalled "object" "object.__new__" "object.__init__" :=
  ⟨by decide +kernel, by decide +kernel, ⟨_, _, mro_object⟩, madeBy_type mro_object lookup_object_new (by decide +kernel), by decide +kernel, by rw [isSubtype_type]; kernel_rfl, slot_object_init⟩
theorem typeCall_object : checkTypeCall "object" ⟨[], []⟩ = pure () := by kernel_rfl
theorem newCall_object : checkBuiltinCall "object.__new__" ⟨[.type "object"], []⟩ = pure () := by kernel_rfl
theorem entry_object_new : entryFor table "object.__new__" = some Builtin.«object.__new__» := entryFor_of_tree (by kernel_rfl)
theorem entry_object_init : entryFor table "object.__init__" = some Builtin.«object.__init__» := entryFor_of_tree (by kernel_rfl)
theorem plain_object_new : plainId "object.__new__" = true := by decide +kernel
theorem args_object_init (a : Value) : argsOk "object.__init__" ⟨[a], []⟩ := by unfold argsOk; kernel_rfl
section
variable {prog : Program} {w : World} {A : Around} {E : Value → Shared → Prop} {s : Shared}
set_option maxRecDepth 100000 in
set_option maxHeartbeats 4000000 in
theorem code_object_new {Q₁ : Value → Shared → Prop} (h : Q₁ (.ref s.heap.objs.size) { s with heap := s.heap.push { cls := .type "object", data := .plain } }) :
    codeAny (model prog w) A (.call (.builtin "object.__new__") ⟨[.type "object"], []⟩) (wants Q₁ E) s := by
  refine codeAny_of_tree ?_
  show wpAny _ A.in1 (do checkBuiltinCall "object.__new__" ⟨[.type "object"], []⟩; again (.builtin "object.__new__" ⟨[.type "object"], []⟩)) _ _ s
  refine wpAny_bind (wpAny_of_eq newCall_object (wpAny_pure ⟨plainId_quiet plain_object_new _, codeAny_builtin entry_object_new ?_⟩))
  rw [Around.under_plainId plain_object_new _]
  have hm := mro_object
  have hl := lookup_object_new
  have hmade : Bind.madeBy (.type "object") = pure (some "object.__new__") := called_object.made
  have hhere : Bind.madeHere "object.__new__" (.type "object") = pure () := by kernel_rfl
  obtain ⟨hp, g, d, tk, os⟩ := s
  unfold Builtin.«object.__new__»
  repeat (any_goals (first | assumption | wp_step))
set_option maxRecDepth 100000 in
set_option maxHeartbeats 4000000 in
theorem call_object {Q : Value → Shared → Prop} (h : Q (.ref s.heap.objs.size) { s with heap := s.heap.push { cls := .type "object", data := .plain } }) :
    wpAny (model prog w) A (call (.type "object") []) Q E s := by
  refine callType_codes (Q₁ := fun v s₁ => v = .ref s.heap.objs.size ∧ s₁ = { s with heap := s.heap.push { cls := .type "object", data := .plain } }) called_object typeCall_object entry_object_init (code_object_new ⟨rfl, rfl⟩) ?_
  rintro _ _ ⟨rfl, rfl⟩
  have ht : ({ s with heap := s.heap.push { cls := .type "object", data := .plain } } : Shared).TypeIs (.ref s.heap.objs.size) "object" := ⟨_, Heap.get?_push_size _ rfl, rfl⟩
  refine ⟨ht, args_object_init _, ?_⟩
  have hm := mro_object
  have hl := lookup_object_new
  have hmade : Bind.madeBy (.type "object") = pure (some "object.__new__") := called_object.made
  have hty := ht
  unfold Builtin.«object.__init__»
  repeat (any_goals (first | assumption | wp_step))
  exact ⟨rfl, h⟩
end
end Mine.MineO
end
section
open PySem PySem.W PyProof.Rows PySem.Calls PySem.Spec
namespace Mine
local macro_rules | `(tactic| k_room) => `(tactic| ktr_room)
local macro_rules | `(tactic| walk_at "M enter") => `(tactic| (k_dflt (refine' enterP ?k1 ?k2 ?k3 ?k5 ?kA ?kF ?kK ?k6 ?k7 ?k8 ?k9 ?kB ?_ ?c2 ?c3 ?c4 ?c5; (case kA => exact rfl); (case kF => exact rfl); (case kK => assumption); (case k1 => k_asm); (case k2 => k_asm); (case k3 => k_asm); (case k5 => k_asm); (case k6 => k_is); (case k7 => k_is); (case k8 => ktr_room); (case k9 => exact BindsTo.of_eq rfl); (case c5 => decide); (case kB => exact locs rfl); (case c2 => exact rfl); (case c3 => exact rfl); (case c4 => exact rfl); k_whole)))
local macro_rules | `(tactic| walk_at "M frame") => `(tactic| (intro z hz; (try dsimp only); (repeat' split) <;> first | rfl | contradiction | (exfalso; simp_all; done) | (simp_all; done)))
local macro_rules | `(tactic| walk_at "M frame0") => `(tactic| (intro z; (try dsimp only); (repeat' split) <;> first | rfl | contradiction | (exfalso; simp_all; done) | (subst_vars; first | rfl | (exfalso; simp_all (config := { decide := true }); done) | (simp (config := { decide := true }) at *; done)) | (simp_all; done)))
local macro_rules | `(tactic| walk_at "M led") => `(tactic| (intro p hp; first | exact absurd hp List.not_mem_nil | ((simp only [List.mem_cons, List.mem_append, List.not_mem_nil, or_false, false_or] at hp ⊢); ((repeat (rcases hp with hp | hp)) <;> first | (simp only [hp, true_or, or_true]; done) | (simp; done)))))
local macro_rules | `(tactic| walk_at "M mem") => `(tactic| first | (simp only [List.mem_cons, List.mem_append, List.not_mem_nil, or_false, false_or, true_or, or_true]; done) | (simp; done))
local macro_rules | `(tactic| walk_at "M enterC") => `(tactic| (k_dflt (refine' enterC ?k1 ?k2 ?k3 ?k5 ?kA ?kF ?kK ?k6 ?k7 ?k8 ?k9 ?kB ?kD ?_ ?c2 ?c3 ?c4; (case kA => exact rfl); (case kF => exact rfl); (case kK => assumption); (case k1 => k_asm); (case k2 => k_asm); (case k3 => k_asm); (case k5 => k_asm); (case k6 => k_is); (case k7 => k_is); (case k8 => ktr_room); (case k9 => exact BindsTo.of_eq rfl); (case kB => exact rfl); (case kD => decide +kernel); (case c2 => exact rfl); (case c3 => exact rfl); (case c4 => exact rfl); k_whole)))
local macro_rules | `(tactic| walk_at "M steps") => `(tactic| repeat' (first | (k_unfold; (try dsimp only)) | (k_end; wrow_close) | ((fail_if_success (with_reducible show wpAny _ _ (exec (Stmt.While _ _ _ _) _) _ _ _)); (fail_if_success (with_reducible show wpAny _ _ (exec (Stmt.For _ _ _ _ _) _) _ _ _)); first | walk1 | (dsimp only; walk1) | (leave1; walk_say "STEP leave1"; try dsimp only) | fail "no step")))
local macro_rules | `(tactic| walk_at "M ss") => `(tactic| repeat' (first | (k_unfold; (try dsimp only)) | (k_end; wrow_close) | ((fail_if_success (with_reducible show wpAny _ _ (exec (Stmt.While _ _ _ _) _) _ _ _)); (fail_if_success (with_reducible show wpAny _ _ (exec (Stmt.For _ _ _ _ _) _) _ _ _)); (fail_if_success (with_reducible show wpAny _ _ (subscriptTail _ _ (Value.ref _) _) _ _ _)); (fail_if_success (with_reducible show wpAny _ _ (callWith _ (Value.ref _) _ _ _) _ _ _)); (fail_if_success (with_reducible show wpAny _ _ (truthy (Value.ref _)) _ _ _)); first | walk1 | (dsimp only; walk1) | (leave1; walk_say "STEP leave1"; try dsimp only) | fail "no step")))
local macro_rules | `(tactic| walk_at "M halt") => `(tactic| repeat' (first | (k_unfold; (try dsimp only)) | (k_end; wrow_close) | ((fail_if_success (with_reducible show wpAny _ _ (exec (Stmt.While _ _ _ _) _) _ _ _)); (fail_if_success (with_reducible show wpAny _ _ (call (Value.ref _) _) _ _ _)); (fail_if_success (with_reducible show wpAny _ _ (subscriptTail _ _ (Value.str _ _) (Value.int _ _)) _ _ _)); (fail_if_success (with_reducible show wpAny _ _ (exec (Stmt.For _ _ _ _ _) _) _ _ _)); first | walk1 | (dsimp only; walk1) | (leave1; walk_say "STEP leave1"; try dsimp only) | fail "no step")))
local macro_rules | `(tactic| walk_at "M hs") => `(tactic| repeat' (first | (k_unfold; (try dsimp only)) | (k_end; wrow_close) | ((fail_if_success (with_reducible show wpAny _ _ (exec (Stmt.While _ _ _ _) _) _ _ _)); (fail_if_success (with_reducible show wpAny _ _ (call (Value.ref _) _) _ _ _)); (fail_if_success (with_reducible show wpAny _ _ (subscriptTail _ _ (Value.str _ _) (Value.int _ _)) _ _ _)); (fail_if_success (with_reducible show wpAny _ _ (exec (Stmt.For _ _ _ _ _) _) _ _ _)); (fail_if_success (with_reducible show wpAny _ _ (subscriptTail _ _ (Value.ref _) _) _ _ _)); (fail_if_success (with_reducible show wpAny _ _ (callWith _ (Value.ref _) _ _ _) _ _ _)); (fail_if_success (with_reducible show wpAny _ _ (truthy (Value.ref _)) _ _ _)); first | walk1 | (dsimp only; walk1) | (leave1; walk_say "STEP leave1"; try dsimp only) | fail "no step")))

local macro_rules | `(tactic| walk_at "M cut") => `(tactic| repeat' (first | (k_unfold; (try dsimp only)) | (k_end; wrow_close) | ((fail_if_success (with_reducible show wpAny _ _ (exec (Stmt.While _ _ _ _) _) _ _ _)); (fail_if_success (with_reducible show wpAny _ _ (call (Value.ref _) _) _ _ _)); (fail_if_success (with_reducible show wpAny _ _ (subscriptTail _ _ (Value.str _ _) (Value.ref _)) _ _ _)); (fail_if_success (with_reducible show wpAny _ _ (exec (Stmt.For _ _ _ _ _) _) _ _ _)); first | walk1 | (dsimp only; walk1) | (leave1; walk_say "STEP leave1"; try dsimp only) | fail "no step")))
noncomputable def escL (c : Nat) : List Nat := if c = 33 ∨ c = 97 ∨ c = 98 then [c] else [92, c]
noncomputable def bodyL (sg : List Nat) : List Nat := sg.flatMap fun c => [40, 63, 62, 46, 42, 63] ++ escL c ++ [41]
noncomputable def bodyS (sg : List Nat) : Str := ⟨(bodyL sg).toArray⟩
noncomputable def textS (sg : List Nat) : Str := ⟨([40, 63, 115, 58] ++ bodyL sg ++ [46, 42, 41, 92, 90]).toArray⟩
theorem length_mk (l : List Nat) : (⟨l.toArray⟩ : Str).length = l.length := by show Array.size _ = _; simp
theorem mk_app (a b : List Nat) : (⟨a.toArray⟩ : Str) ++ ⟨b.toArray⟩ = ⟨(a ++ b).toArray⟩ := by show Str.mk _ = _; simp
theorem sl_ss (l : List Nat) (i j : Nat) (h1 : i ≤ j) (h2 : j ≤ l.length) : Txt.slice ⟨l.toArray⟩ (some (i : Int)) (some (j : Int)) = ⟨((l.drop i).take (j - i)).toArray⟩ := by
  have := eq_of_beq (slice_closes (x := ⟨l.toArray⟩) (i := i) (j := j) ⟨by omega, by omega, by simpa using h2⟩)
  rw [this]
  simp only [Int.toNat_natCast]
  rw [show ((j : Int) - (i : Int)).toNat = j - i from by omega]
theorem sl_ns (l : List Nat) (j : Nat) (h2 : j ≤ l.length) : Txt.slice ⟨l.toArray⟩ none (some (j : Int)) = ⟨(l.take j).toArray⟩ := by
  have := eq_of_beq (slice_closes_to (x := ⟨l.toArray⟩) (j := j) ⟨by omega, by simpa using h2⟩)
  rw [this]
  simp
theorem sl_sn (l : List Nat) (i : Nat) (h2 : i ≤ l.length) : Txt.slice ⟨l.toArray⟩ (some (i : Int)) none = ⟨(l.drop i).toArray⟩ := by
  have e : (⟨l.toArray⟩ : Str).length = l.length := by show Array.size _ = _; simp
  rw [slice_from_eq (x := ⟨l.toArray⟩) (i := i) (b := l.length) (by omega) (by rw [e]; omega) (by rw [e])]
  simp only [Int.toNat_natCast]
  rw [List.take_of_length_le (by simp only [List.length_drop]; omega)]
theorem sl_sneg (l : List Nat) (i k : Nat) (hk : 0 < k) (h1 : i + k ≤ l.length) : Txt.slice ⟨l.toArray⟩ (some (i : Int)) (some (-(k : Int))) = ⟨((l.drop i).take (l.length - k - i)).toArray⟩ := by
  have e : (⟨l.toArray⟩ : Str).length = l.length := by show Array.size _ = _; simp
  have h := sl_ss l i (l.length - k) (by omega) (by omega)
  unfold Txt.slice at h ⊢
  rw [StrLaws.sliceIdx_neg_hi _ _ (by omega) (by rw [e]; omega), e, show -(k : Int) + (l.length : Int) = ((l.length - k : Nat) : Int) from by omega]
  rw [e] at h
  exact h
section
variable {prog : Program} {w : World} {A : Around} {E : Value → Shared → Prop} {s : Shared} {value slice : Expr} {x y : Str} {t : Tok} {h₀ : Heap} {L : Addr} {m : Str → Option Value} {news : List (Addr × Obj)} {Q : Value → Shared → Prop}
theorem as_ns {j : Int} {uj : Tok} (y : Str) (hF : Fr h₀ L s.heap m) (hN : News h₀ L s.heap news) (he : Txt.slice x none (some j) = y) (h : ∀ h' t' k, Fr h₀ L h' m → News h₀ L h' news → Q (.str y t') { s with heap := h', toks := k })
    (hsz : x.length ≤ sizeLine) (hs : subscripted slice false (.str x t) (.ref s.heap.objs.size) = operate [.ref s.heap.objs.size, .str x t] (getItem (.str x t) (.ref s.heap.objs.size)) := by with_unfolding_all rfl)
    (ht : ∀ r, letTemporaryGo value (.str x t) r = pure () := by intro _; with_unfolding_all rfl) :
    wpAny (model prog w) A (subscriptTail value slice (.str x t) (.ref s.heap.objs.size)) Q E { s with heap := s.heap.push { cls := .type "slice", data := .fields #[.none, .int j uj, .none] } } :=
  slice_strN_ns hF hN (by rw [he]; exact h) hs ht hsz
theorem as_sn {i : Int} {ui : Tok} (y : Str) (hF : Fr h₀ L s.heap m) (hN : News h₀ L s.heap news) (he : Txt.slice x (some i) none = y) (h : ∀ h' t' k, Fr h₀ L h' m → News h₀ L h' news → Q (.str y t') { s with heap := h', toks := k })
    (hsz : x.length ≤ sizeLine) (hs : subscripted slice false (.str x t) (.ref s.heap.objs.size) = operate [.ref s.heap.objs.size, .str x t] (getItem (.str x t) (.ref s.heap.objs.size)) := by with_unfolding_all rfl)
    (ht : ∀ r, letTemporaryGo value (.str x t) r = pure () := by intro _; with_unfolding_all rfl) :
    wpAny (model prog w) A (subscriptTail value slice (.str x t) (.ref s.heap.objs.size)) Q E { s with heap := s.heap.push { cls := .type "slice", data := .fields #[.int i ui, .none, .none] } } :=
  slice_strN_sn hF hN (by rw [he]; exact h) hs ht hsz
theorem as_ss {i j : Int} {ui uj : Tok} (y : Str) (hF : Fr h₀ L s.heap m) (hN : News h₀ L s.heap news) (he : Txt.slice x (some i) (some j) = y) (h : ∀ h' t' k, Fr h₀ L h' m → News h₀ L h' news → Q (.str y t') { s with heap := h', toks := k })
    (hsz : x.length ≤ sizeLine) (hs : subscripted slice false (.str x t) (.ref s.heap.objs.size) = operate [.ref s.heap.objs.size, .str x t] (getItem (.str x t) (.ref s.heap.objs.size)) := by with_unfolding_all rfl)
    (ht : ∀ r, letTemporaryGo value (.str x t) r = pure () := by intro _; with_unfolding_all rfl) :
    wpAny (model prog w) A (subscriptTail value slice (.str x t) (.ref s.heap.objs.size)) Q E { s with heap := s.heap.push { cls := .type "slice", data := .fields #[.int i ui, .int j uj, .none] } } :=
  slice_strN_ss hF hN (by rw [he]; exact h) hs ht hsz
end
theorem escL_len (c : Nat) : (escL c).length ≤ 2 := by unfold escL; split <;> simp
theorem bodyL_len (sg : List Nat) : (bodyL sg).length ≤ 9 * sg.length := by
  induction sg with
  | nil => simp [bodyL]
  | cons c r ih =>
    have := escL_len c
    simp only [bodyL, List.flatMap_cons, List.length_append, List.length_cons, List.length_nil] at ih ⊢
    omega
theorem cons_ne (a : Nat) (l : List Nat) : ((⟨(a :: l).toArray⟩ : Str) != (Str.ofString "")) = true := by
  refine bne_iff_ne.mpr fun h => ?_
  have := congrArg Str.length h
  rw [length_mk] at this
  cases this
theorem lit6 : (Str.ofString "(?>.*?") = ⟨[40, 63, 62, 46, 42, 63].toArray⟩ := by decide +kernel
theorem lit1 : (Str.ofString "\\") = ⟨[92].toArray⟩ := by decide +kernel
theorem lit41 : (Str.ofString ")") = ⟨[41].toArray⟩ := by decide +kernel
theorem in_esc {c : Nat} (h : c ∈ [32, 45, 46, 91, 94, 126]) : ([(Str.ofString " "), (Str.ofString "!"), (Str.ofString "-"), (Str.ofString "."), (Str.ofString "["), (Str.ofString "^"), (Str.ofString "~")].any fun x => x == (⟨#[c]⟩ : Str)) = true := by
  simp only [List.mem_cons, List.not_mem_nil, or_false] at h
  rcases h with rfl | rfl | rfl | rfl | rfl | rfl <;> decide +kernel
theorem in_raw {c : Nat} (h : c ∈ [33, 97, 98]) : ([(Str.ofString " "), (Str.ofString "!"), (Str.ofString "-"), (Str.ofString "a"), (Str.ofString "b"), (Str.ofString "~")].any fun x => x == (⟨#[c]⟩ : Str)) = true := by
  simp only [List.mem_cons, List.not_mem_nil, or_false] at h
  rcases h with rfl | rfl | rfl <;> decide +kernel
theorem raw_ne {c : Nat} (h : c ∈ [33, 97, 98]) : ((⟨#[c]⟩ : Str) == (Str.ofString "\\")) = false := by
  simp only [List.mem_cons, List.not_mem_nil, or_false] at h
  rcases h with rfl | rfl | rfl <;> decide +kernel
theorem take_txs {vs : List Value} {sg : List Nat} {i c : Nat} {t : Tok} (h : Txs vs ((sg.take i).map fun c => (⟨#[c]⟩ : Str))) (hc : sg[i]? = some c) : Txs (vs ++ [.str ⟨#[c]⟩ t]) ((sg.take (i + 1)).map fun c => (⟨#[c]⟩ : Str)) := by
  rw [List.take_add_one, hc]
  simpa using h.append (.cons .nil)
theorem push_obj (a : Addr) (vs : List Value) (x : Value) (n : Nat) : (a, listOf (vs ++ [x]).toArray n) = (a, listOf (vs.toArray.push x) n) := by simp
structure GT where
  i : Nat
  tb : Tok
  os : Option Value
  vs : List Value
  n1 : Nat
noncomputable def mG (rl : Addr) (sg : List Nat) (t : Tok) (c : GT) : Str → Option Value := fun y => if y = (Str.ofString "sign") then c.os else if y = (Str.ofString "signs") then some (.ref rl) else if y = (Str.ofString "body") then some (.str (bodyS (sg.drop c.i)) c.tb) else List.lookup y [((Str.ofString "text"), .str (textS sg) t)]
theorem mG_keys {f : Str → Option Value} {rl : Addr} {sg : List Nat} {t : Tok} {c : GT} (h1 : f ((Str.ofString "sign")) = c.os) (h2 : f ((Str.ofString "signs")) = some (.ref rl)) (h3 : f ((Str.ofString "body")) = some (.str (bodyS (sg.drop c.i)) c.tb))
    (h7 : ∀ z, z ≠ (Str.ofString "sign") → z ≠ (Str.ofString "signs") → z ≠ (Str.ofString "body") → f z = List.lookup z [((Str.ofString "text"), .str (textS sg) t)]) : ∀ z, f z = mG rl sg t c z := by
  intro z
  unfold mG
  by_cases k1 : z = (Str.ofString "sign")
  · subst k1; exact h1
  by_cases k2 : z = (Str.ofString "signs")
  · subst k2; rw [if_neg k1, if_pos rfl]; exact h2
  by_cases k3 : z = (Str.ofString "body")
  · subst k3; rw [if_neg k1, if_neg k2, if_pos rfl]; exact h3
  rw [if_neg k1, if_neg k2, if_neg k3]
  exact h7 z k1 k2 k3
local macro_rules | `(tactic| walk_at "M gkeys") => `(tactic| (refine mG_keys ?_ ?_ ?_ ?_ <;> first | rfl | (intro z z0 z1 z2; (try dsimp only); simp only [if_neg z0, if_neg z1, if_neg z2])))
noncomputable def nG (rl : Addr) (c : GT) : List (Addr × Obj) := [(rl, listOf c.vs.toArray c.n1)]
theorem esc_two {c : Nat} (h : c ∈ [32, 33, 45, 46, 91, 94, 97, 98, 126]) : (escL c = [92, c] ∧ c ∈ [32, 45, 46, 91, 94, 126]) ∨ (escL c = [c] ∧ c ∈ [33, 97, 98]) := by
  simp only [List.mem_cons, List.not_mem_nil, or_false] at h
  rcases h with rfl | rfl | rfl | rfl | rfl | rfl | rfl | rfl | rfl <;> decide
set_option maxRecDepth 100000 in
set_option maxHeartbeats 8000000 in
theorem signs_spec (w : World) (mean : ExcName → Option Value) (mg mb : Str → Option Value) (sg : List Nat) (t : Tok) (hcs : ∀ c ∈ sg, c ∈ [32, 33, 45, 46, 91, 94, 97, 98, 126]) (hz : sg.length ≤ 20) :
    Spec w mean mg mb 132 [.str (textS sg) t] (fun _ => True) (fun h h' r => ∃ rl nn vs, r = .ref rl ∧ h.get? rl = none ∧ h'.get? rl = some (listOf (vs : List Value).toArray nn) ∧ Txs vs (sg.map fun c => ⟨#[c]⟩)) := by
  unfold Spec
  k_fill
  intro dp un gd cn cs L a ccd cl outer A₀ base h₀ m s Q E B F X T hk hd hu hpre hret
  walk_at "M enter"
  intro Lf h₁ Q' hQr hQn F' N' B' X' T'
  clear F B X T
  try dsimp only
  replace F' : Fr s.heap Lf h₁ (fun y => List.lookup y [((Str.ofString "text"), .str (textS sg) t)]) := F'
  have hbl := bodyL_len sg
  have htl : (textS sg).length ≤ 200 := by
    rw [show (textS sg).length = _ from length_mk _]
    simp; omega
  walk_at "M cut"
  (rename Fr _ _ _ _ => F9); (rename News _ _ _ _ => N9)
  refine as_ss (bodyS sg) F9 N9 ?e1 ?_ ?z1
  case z1 => unfold sizeLine; omega
  case e1 =>
    refine (sl_sneg _ 4 5 (by omega) (by simp)).trans ?_
    refine congrArg (fun l : List Nat => (⟨l.toArray⟩ : Str)) ?_
    show List.take _ (bodyL sg ++ [46, 42, 41, 92, 90]) = _
    simp
  clear F9 N9
  intro h2 t2 k2 F2 N2
  have hbs : (bodyS sg).length ≤ 180 := by
    rw [show (bodyS sg).length = _ from length_mk _]
    omega
  have htx : textS sg = (Str.ofString "(?s:") ++ bodyS sg ++ (Str.ofString ".*)\\Z") := by
    rw [show (Str.ofString "(?s:") = ⟨[40, 63, 115, 58].toArray⟩ from by decide +kernel, show (Str.ofString ".*)\\Z") = ⟨[46, 42, 41, 92, 90].toArray⟩ from by decide +kernel]
    unfold bodyS textS
    rw [mk_app, mk_app]
  have htx2 : (textS sg != (Str.ofString "(?s:") ++ bodyS sg ++ (Str.ofString ".*)\\Z")) = false := by rw [← htx]; exact bne_self_eq_false _
  walk_at "M cut"
  (rename Fr _ _ _ _ => F9); (rename News _ _ _ _ => N9)
  obtain ⟨rl, tb, N8, F7⟩ : ∃ rl tb, News s.heap Lf _ [(rl, listOf #[] 0)] ∧ Fr s.heap Lf _ (fun y => if y = (Str.ofString "signs") then some (Value.ref rl) else if y = (Str.ofString "body") then some (.str (bodyS sg) tb) else List.lookup y [((Str.ofString "text"), .str (textS sg) t)]) := ⟨_, _, N9, F9⟩
  have F8 : Fr s.heap Lf _ (mG rl sg t ⟨0, tb, none, [], 0⟩) := Fr.cong F7 (by walk_at "M gkeys")
  clear F9 N9 F7
  refine' while_inv (mG rl sg t) (nG rl) (fun n c => n = sg.length - c.i ∧ c.i ≤ sg.length ∧ Txs c.vs ((sg.take c.i).map fun c => ⟨#[c]⟩)) sg.length ⟨0, tb, none, [], 0⟩ F8 ?h1 N8 ?h2 ?h3 ?h4
  case h1 => exact fun _ => rfl
  case h2 => exact ⟨rfl, Nat.zero_le _, .nil⟩
  case h3 => passes_own
  case h4 =>
    intro n c h tk Q2 hP F2 N2 hfin hgo
    clear F8 N8
    obtain ⟨hP1, hP2, hP3⟩ := hP
    have hvl : c.vs.length = c.i := by rw [hP3.length]; simp; omega
    unfold mG at F2
    unfold nG at N2
    rcases Nat.lt_or_ge c.i sg.length with hi | hi
    case inr =>
      have hb0 : (bodyS (sg.drop c.i) != (Str.ofString "")) = false := by
        rw [List.drop_of_length_le hi]; decide +kernel
      walk_at "M cut"
      rw [hb0]
      refine hfin _ ?_
      walk_at "M cut"
      (rename Fr _ _ _ _ => F9); (rename News _ _ _ _ => N9)
      have : c.i = sg.length := by omega
      rw [this, List.take_length] at hP3
      exact hQr _ _ (hret _ _ _ (fun b o e => F9.keep _ _ e) ⟨rl, _, _, rfl, (N9 _ List.mem_cons_self).2.2, (N9 _ List.mem_cons_self).1, hP3⟩)
    obtain ⟨cc, hcc⟩ : ∃ cc, sg[c.i]? = some cc := ⟨_, List.getElem?_eq_getElem (by omega)⟩
    have hccm := hcs cc (List.mem_of_getElem? hcc)
    have hb0 : bodyS (sg.drop c.i) = ⟨([40, 63, 62, 46, 42, 63] ++ (escL cc ++ (41 :: bodyL (sg.drop (c.i + 1))))).toArray⟩ := by
      rw [List.drop_eq_getElem_cons hi, (List.getElem?_eq_some_iff.mp hcc).2]
      unfold bodyS bodyL
      rw [List.flatMap_cons]
      simp
    have hbr : (bodyL (sg.drop (c.i + 1))).length ≤ 180 := by
      have := bodyL_len (sg.drop (c.i + 1))
      rw [List.length_drop] at this; omega
    have hnext : (⟨(bodyL (sg.drop (c.i + 1))).toArray⟩ : Str) = bodyS (sg.drop (c.i + 1)) := rfl
    generalize bodyL (sg.drop (c.i + 1)) = r at hb0 hbr hnext
    rw [hb0] at F2
    rcases esc_two hccm with ⟨hesc, hcc2⟩ | ⟨hesc, hcc2⟩
    · rw [hesc] at F2
      have hsz : ∀ l : List Nat, l.length ≤ 200 → (⟨l.toArray⟩ : Str).length ≤ sizeLine := fun l h => by rw [length_mk]; unfold sizeLine; omega
      have hr8 : ([40, 63, 62, 46, 42, 63] ++ ([92, cc] ++ 41 :: r)).length ≤ 200 := by simp; omega
      walk_at "M cut"
      have hne : ((⟨([40, 63, 62, 46, 42, 63] ++ ([92, cc] ++ 41 :: r)).toArray⟩ : Str) != (Str.ofString "")) = true := cons_ne 40 _
      rw [hne]
      refine hgo _ fun Q3 hr hb hn => ?_
      walk_at "M cut"
      refine as_ns ((Str.ofString "(?>.*?")) F2 N2 ((sl_ns _ 6 (by simp)).trans lit6.symm) ?_ (hsz _ hr8)
      clear F2 N2
      intro h3 t3 k3 F2 N2
      walk_at "M cut"
      refine as_ss ((Str.ofString "\\")) F2 N2 ((sl_ss _ 6 7 (by omega) (by simp)).trans lit1.symm) ?_ (hsz _ hr8)
      clear F2 N2
      intro h4 t4 k4 F2 N2
      walk_at "M cut"
      (rename Fr _ _ _ _ => F9); (rename News _ _ _ _ => N9)
      refine as_sn ⟨(cc :: 41 :: r).toArray⟩ F9 N9 (sl_sn _ 7 (by simp)) ?_ (hsz _ hr8)
      clear F9 N9
      intro h5 t5 k5 F2 N2
      walk_at "M cut"
      (rename Fr _ _ _ _ => F9); (rename News _ _ _ _ => N9)
      refine as_ns ⟨#[cc]⟩ F9 N9 (sl_ns _ 1 (by simp)) ?_ (hsz _ (by simp; omega))
      clear F9 N9
      intro h6 t6 k6 F2 N2
      walk_at "M cut"
      (rename Fr _ _ _ _ => F9); (rename News _ _ _ _ => N9)
      refine as_sn ⟨(41 :: r).toArray⟩ F9 N9 (sl_sn _ 1 (by simp)) ?_ (hsz _ (by simp; omega))
      clear F9 N9
      intro h7 t7 k7 F2 N2
      have hin := in_esc hcc2
      walk_at "M cut"
      (rename Fr _ _ _ _ => F9); (rename News _ _ _ _ => N9)
      refine as_ns ((Str.ofString ")")) F9 N9 ((sl_ns _ 1 (by simp)).trans lit41.symm) ?_ (hsz _ (by simp; omega))
      clear F9 N9
      intro h8 t8 k8 F2 N2
      walk_at "M cut"
      (rename Fr _ _ _ _ => F9); (rename News _ _ _ _ => N9)
      refine as_sn ⟨r.toArray⟩ F9 N9 (sl_sn _ 1 (by simp)) ?_ (hsz _ (by simp; omega))
      clear F9 N9
      intro h9 t9 k9 F2 N2
      rw [hnext]
      walk_at "M cut"
      (rename Fr _ _ _ _ => F9); (rename News _ _ _ _ => N9)
      refine' hn .next _ ⟨c.i + 1, _, _, c.vs ++ [.str ⟨#[cc]⟩ t6], c.n1 + 1⟩ _ _ _ _ (.inl rfl) ?me F9 N9 ?fr ?le ⟨rfl, hi, ?tx⟩
      case me => rw [hP1]; dsimp only; omega
      case fr => walk_at "M gkeys"
      case le =>
        intro p hp
        rw [List.mem_singleton.mp hp]
        exact List.mem_cons_of_mem _ (List.mem_singleton.mpr (push_obj ..))
      case tx => exact take_txs hP3 hcc
    · rw [hesc] at F2
      have hsz : ∀ l : List Nat, l.length ≤ 200 → (⟨l.toArray⟩ : Str).length ≤ sizeLine := fun l h => by rw [length_mk]; unfold sizeLine; omega
      have hr8 : ([40, 63, 62, 46, 42, 63] ++ ([cc] ++ 41 :: r)).length ≤ 200 := by simp; omega
      walk_at "M cut"
      have hne : ((⟨([40, 63, 62, 46, 42, 63] ++ ([cc] ++ 41 :: r)).toArray⟩ : Str) != (Str.ofString "")) = true := cons_ne 40 _
      rw [hne]
      refine hgo _ fun Q3 hr hb hn => ?_
      walk_at "M cut"
      refine as_ns ((Str.ofString "(?>.*?")) F2 N2 ((sl_ns _ 6 (by simp)).trans lit6.symm) ?_ (hsz _ hr8)
      clear F2 N2
      intro h3 t3 k3 F2 N2
      walk_at "M cut"
      refine as_ss ⟨#[cc]⟩ F2 N2 (sl_ss _ 6 7 (by omega) (by simp)) ?_ (hsz _ hr8)
      clear F2 N2
      intro h4 t4 k4 F2 N2
      walk_at "M cut"
      (rename Fr _ _ _ _ => F9); (rename News _ _ _ _ => N9)
      refine as_sn ⟨(41 :: r).toArray⟩ F9 N9 (sl_sn _ 7 (by simp)) ?_ (hsz _ hr8)
      clear F9 N9
      intro h5 t5 k5 F2 N2
      have hin := in_raw hcc2
      have hrn := raw_ne hcc2
      walk_at "M cut"
      (rename Fr _ _ _ _ => F9); (rename News _ _ _ _ => N9)
      refine as_ns ((Str.ofString ")")) F9 N9 ((sl_ns _ 1 (by simp)).trans lit41.symm) ?_ (hsz _ (by simp; omega))
      clear F9 N9
      intro h8 t8 k8 F2 N2
      walk_at "M cut"
      (rename Fr _ _ _ _ => F9); (rename News _ _ _ _ => N9)
      refine as_sn ⟨r.toArray⟩ F9 N9 (sl_sn _ 1 (by simp)) ?_ (hsz _ (by simp; omega))
      clear F9 N9
      intro h9 t9 k9 F2 N2
      rw [hnext]
      walk_at "M cut"
      (rename Fr _ _ _ _ => F9); (rename News _ _ _ _ => N9)
      refine' hn .next _ ⟨c.i + 1, _, _, c.vs ++ [.str ⟨#[cc]⟩ t4], c.n1 + 1⟩ _ _ _ _ (.inl rfl) ?me F9 N9 ?fr ?le ⟨rfl, hi, ?tx⟩
      case me => rw [hP1]; dsimp only; omega
      case fr => walk_at "M gkeys"
      case le =>
        intro p hp
        rw [List.mem_singleton.mp hp]
        exact List.mem_cons_of_mem _ (List.mem_singleton.mpr (push_obj ..))
      case tx => exact take_txs hP3 hcc
end Mine
end
section
open PySem PySem.W PyProof.Rows PySem.Calls PySem.Spec
namespace Mine
local macro_rules | `(tactic| k_room) => `(tactic| ktr_room)
local macro_rules | `(tactic| walk_at "M enter") => `(tactic| (k_dflt (refine' enterP ?k1 ?k2 ?k3 ?k5 ?kA ?kF ?kK ?k6 ?k7 ?k8 ?k9 ?kB ?_ ?c2 ?c3 ?c4 ?c5; (case kA => exact rfl); (case kF => exact rfl); (case kK => assumption); (case k1 => k_asm); (case k2 => k_asm); (case k3 => k_asm); (case k5 => k_asm); (case k6 => k_is); (case k7 => k_is); (case k8 => ktr_room); (case k9 => exact BindsTo.of_eq rfl); (case c5 => decide); (case kB => exact locs rfl); (case c2 => exact rfl); (case c3 => exact rfl); (case c4 => exact rfl); k_whole)))
local macro_rules | `(tactic| walk_at "M frame") => `(tactic| (intro z hz; (try dsimp only); (repeat' split) <;> first | rfl | contradiction | (exfalso; simp_all; done) | (simp_all; done)))
local macro_rules | `(tactic| walk_at "M frame0") => `(tactic| (intro z; (try dsimp only); (repeat' split) <;> first | rfl | contradiction | (exfalso; simp_all; done) | (subst_vars; first | rfl | (exfalso; simp_all (config := { decide := true }); done) | (simp (config := { decide := true }) at *; done)) | (simp_all; done)))
local macro_rules | `(tactic| walk_at "M led") => `(tactic| (intro p hp; first | exact absurd hp List.not_mem_nil | ((simp only [List.mem_cons, List.mem_append, List.not_mem_nil, or_false, false_or] at hp ⊢); ((repeat (rcases hp with hp | hp)) <;> first | (simp only [hp, true_or, or_true]; done) | (simp; done)))))
local macro_rules | `(tactic| walk_at "M mem") => `(tactic| first | (simp only [List.mem_cons, List.mem_append, List.not_mem_nil, or_false, false_or, true_or, or_true]; done) | (simp; done))
local macro_rules | `(tactic| walk_at "M enterC") => `(tactic| (k_dflt (refine' enterC ?k1 ?k2 ?k3 ?k5 ?kA ?kF ?kK ?k6 ?k7 ?k8 ?k9 ?kB ?kD ?_ ?c2 ?c3 ?c4; (case kA => exact rfl); (case kF => exact rfl); (case kK => assumption); (case k1 => k_asm); (case k2 => k_asm); (case k3 => k_asm); (case k5 => k_asm); (case k6 => k_is); (case k7 => k_is); (case k8 => ktr_room); (case k9 => exact BindsTo.of_eq rfl); (case kB => exact rfl); (case kD => decide +kernel); (case c2 => exact rfl); (case c3 => exact rfl); (case c4 => exact rfl); k_whole)))
local macro_rules | `(tactic| walk_at "M steps") => `(tactic| repeat' (first | (k_unfold; (try dsimp only)) | (k_end; wrow_close) | ((fail_if_success (with_reducible show wpAny _ _ (exec (Stmt.While _ _ _ _) _) _ _ _)); (fail_if_success (with_reducible show wpAny _ _ (exec (Stmt.For _ _ _ _ _) _) _ _ _)); first | walk1 | (dsimp only; walk1) | (leave1; walk_say "STEP leave1"; try dsimp only) | fail "no step")))
local macro_rules | `(tactic| walk_at "M ss") => `(tactic| repeat' (first | (k_unfold; (try dsimp only)) | (k_end; wrow_close) | ((fail_if_success (with_reducible show wpAny _ _ (exec (Stmt.While _ _ _ _) _) _ _ _)); (fail_if_success (with_reducible show wpAny _ _ (exec (Stmt.For _ _ _ _ _) _) _ _ _)); (fail_if_success (with_reducible show wpAny _ _ (subscriptTail _ _ (Value.ref _) _) _ _ _)); (fail_if_success (with_reducible show wpAny _ _ (callWith _ (Value.ref _) _ _ _) _ _ _)); (fail_if_success (with_reducible show wpAny _ _ (truthy (Value.ref _)) _ _ _)); first | walk1 | (dsimp only; walk1) | (leave1; walk_say "STEP leave1"; try dsimp only) | fail "no step")))
local macro_rules | `(tactic| walk_at "M halt") => `(tactic| repeat' (first | (k_unfold; (try dsimp only)) | (k_end; wrow_close) | ((fail_if_success (with_reducible show wpAny _ _ (exec (Stmt.While _ _ _ _) _) _ _ _)); (fail_if_success (with_reducible show wpAny _ _ (call (Value.ref _) _) _ _ _)); (fail_if_success (with_reducible show wpAny _ _ (subscriptTail _ _ (Value.str _ _) (Value.int _ _)) _ _ _)); (fail_if_success (with_reducible show wpAny _ _ (exec (Stmt.For _ _ _ _ _) _) _ _ _)); first | walk1 | (dsimp only; walk1) | (leave1; walk_say "STEP leave1"; try dsimp only) | fail "no step")))
local macro_rules | `(tactic| walk_at "M hs") => `(tactic| repeat' (first | (k_unfold; (try dsimp only)) | (k_end; wrow_close) | ((fail_if_success (with_reducible show wpAny _ _ (exec (Stmt.While _ _ _ _) _) _ _ _)); (fail_if_success (with_reducible show wpAny _ _ (call (Value.ref _) _) _ _ _)); (fail_if_success (with_reducible show wpAny _ _ (subscriptTail _ _ (Value.str _ _) (Value.int _ _)) _ _ _)); (fail_if_success (with_reducible show wpAny _ _ (exec (Stmt.For _ _ _ _ _) _) _ _ _)); (fail_if_success (with_reducible show wpAny _ _ (subscriptTail _ _ (Value.ref _) _) _ _ _)); (fail_if_success (with_reducible show wpAny _ _ (callWith _ (Value.ref _) _ _ _) _ _ _)); (fail_if_success (with_reducible show wpAny _ _ (truthy (Value.ref _)) _ _ _)); first | walk1 | (dsimp only; walk1) | (leave1; walk_say "STEP leave1"; try dsimp only) | fail "no step")))

theorem patL_pat (sg : List Nat) (hcs : ∀ c ∈ sg, c ∈ marks) : Pat (patL sg) := by
  have hm : 42 ∉ marks := by decide
  have par : ∀ (i c : Nat), (patL sg)[i]? = some c → (∃ k, i = 2 * k ∧ c = 42 ∧ k ≤ sg.length) ∨ ∃ k, i = 2 * k + 1 ∧ sg[k]? = some c := by
    intro i c e
    have hl := (List.getElem?_eq_some_iff.mp e).1
    rw [patL_len] at hl
    obtain ⟨k, rfl | rfl⟩ : ∃ k, i = 2 * k ∨ i = 2 * k + 1 := ⟨i / 2, by omega⟩
    · left
      refine ⟨k, rfl, ?_, by omega⟩
      rw [patL_even sg k (by omega)] at e
      exact (Option.some.inj e).symm
    · right
      refine ⟨k, rfl, ?_⟩
      obtain ⟨d, hd⟩ : ∃ d, sg[k]? = some d := ⟨_, List.getElem?_eq_getElem (by omega)⟩
      rw [patL_odd sg k d hd] at e
      rw [hd, e]
  refine ⟨fun i c e => ?_, fun i e => ?_, fun i c e hc => ?_⟩
  · rcases par i c e with ⟨k, _, h, _⟩ | ⟨k, _, h⟩
    · exact .inl h
    · exact .inr (hcs c (List.mem_of_getElem? h))
  · rcases par _ _ e with ⟨k, h1, _, h3⟩ | ⟨k, h1, h⟩
    · cases k with
      | zero => omega
      | succ k =>
        have hi : i = 2 * k + 1 := by omega
        obtain ⟨d, hd⟩ : ∃ d, sg[k]? = some d := ⟨_, List.getElem?_eq_getElem (by omega)⟩
        exact ⟨d, by rw [hi]; exact patL_odd sg k d hd, hcs d (List.mem_of_getElem? hd)⟩
    · exact absurd (hcs 42 (List.mem_of_getElem? h)) hm
  · rcases par i c e with ⟨k, _, h, _⟩ | ⟨k, h1, h⟩
    · exact absurd (h ▸ hc) hm
    · have := (List.getElem?_eq_some_iff.mp h).1
      rw [h1, show 2 * k + 1 + 1 = 2 * (k + 1) from by omega]
      exact patL_even sg (k + 1) (by omega)
theorem News.more {h₀ h h' : Heap} {L a : Addr} {m : Str → Option Value} {o : Obj} {news : List (Addr × Obj)} (F : Fr h₀ L h m) (N : News h₀ L h' news) (hn : h.get? a = none) (e : h'.get? a = some o) : News h₀ L h' ((a, o) :: news) := by
  intro p hp
  rcases List.mem_cons.mp hp with rfl | hp
  · refine ⟨e, ?_, ?_⟩
    · intro q
      obtain ⟨oL, _, _, hL, _⟩ := F.ns
      have q : a = L := q
      rw [← q, hn] at hL; cases hL
    · cases hq : h₀.get? a with
      | none => rfl
      | some o' =>
        have := F.keep _ _ hq
        rw [hn] at this; cases this
  · exact N p hp
/-- what translate answers for stars with one sign between -/
noncomputable def transS (sg : List Nat) : Str := (Str.ofString "(?s:") ++ Txt.join ((Str.ofString "")) (sg.map itemS ++ [(Str.ofString ".*")]) ++ (Str.ofString ")\\Z")
set_option maxRecDepth 100000 in
set_option maxHeartbeats 8000000 in
theorem trans_spec (w : World) (mean : ExcName → Option Value) (mg mb : Str → Option Value) (sg : List Nat) (u : Tok) (hcs : ∀ c ∈ sg, c ∈ marks) (hz : sg.length ≤ 20) :
    SpecD 60 400 w mean mg mb 43 [.str ⟨(patL sg).toArray⟩ u] (fun _ => True) (fun _ _ r => ∃ t, r = .str (transS sg) t) := by
  unfold SpecD
  k_fill
  intro dp un gd cn cs L a ccd cl outer A₀ base h₀ m s Q E B F X T hk hd hu hpre hret
  walk_at "M enter"
  intro Lf h₁ Q' hQr hQn F' N' Bf Xf Tf
  clear F B X T
  try dsimp only
  replace F' : Fr s.heap Lf h₁ (fun y => List.lookup y [((Str.ofString "pat"), .str ⟨(patL sg).toArray⟩ u)]) := F'
  walk_at "M halt"
  (rename Fr _ _ _ _ => F9); (rename News _ _ _ _ => N9)
  refine MineO.call_object ?_
  have F8 := Fr.pushS F9 { cls := .type "object", data := .plain }
  have N8 := News.push F9 N9 { cls := .type "object", data := .plain }
  clear F9 N9
  walk_at "M halt"
  (rename Fr _ _ _ _ => F9); (rename News _ _ _ _ => N9)
  refine SpecD.go (translate_parts_spec w mean mg mb h₁.objs.size ⟨(patL sg).toArray⟩ u _ (patL_pat sg hcs) ?z1) (dp := dp + 1) (un := un + 3) (gd := gd) (cl := []) Bf F9 Xf Tf rfl (by omega) (by omega) trivial ?_
  case z1 =>
    rw [show (⟨(patL sg).toArray⟩ : Str).length = (patL sg).length from by show Array.size _ = _; simp, patL_len]; omega
  rintro r h5 tk5 hst ⟨rl, vs, nn, rfl, hn1, hn2, hvs⟩
  have F5 := Fr.keeps F9 hst
  have N5 := News.more F9 (News.keeps N9 hst) hn1 hn2
  clear F9 N9
  walk_at "M halt"
  (rename Fr _ _ _ _ => F9); (rename News _ _ _ _ => N9)
  have hl5 : News s.heap Lf _ [(rl, listOf vs.toArray nn)] := fun p hp => N9 p (by rw [List.mem_singleton.mp hp]; exact List.mem_cons_self)
  refine SpecD.go (join_spec w mean mg mb h₁.objs.size rl sg hcs hz vs hvs) (dp := dp + 1) (un := un + 3) (gd := gd) (cl := []) Bf F9 Xf Tf rfl (by omega) (by omega) ⟨_, (hl5 _ List.mem_cons_self).1, rfl, _, rfl⟩ ?_
  rintro r h6 tk6 hst6 ⟨t6, rfl⟩
  have F6 := Fr.keeps F9 hst6
  have N6 := News.keeps N9 hst6
  clear F9 N9
  walk_at "M halt"
  (rename Fr _ _ _ _ => F9); (rename News _ _ _ _ => N9)
  exact hQr _ _ (hret _ _ _ (fun b o e => F9.keep _ _ e) ⟨_, rfl⟩)
end Mine
end
section
open PySem PySem.W PyProof.Rows PySem.Calls PySem.Spec
namespace Mine
/-- part is what is left of name when some letters are struck -/
noncomputable def subB : List Bool → List Bool → Bool
  | [], _ => true
  | _ :: _, [] => false
  | p :: ps, x :: xs => if p == x then subB ps xs else subB (p :: ps) xs
noncomputable def wordsB : Nat → List (List Bool)
  | 0 => [[]]
  | n + 1 => (wordsB n).flatMap fun x => [x ++ [false], x ++ [true]]
noncomputable def ltB : List Bool → List Bool → Bool
  | _, [] => false
  | [], _ :: _ => true
  | a :: as, b :: bs => (!a && b) || (a == b && ltB as bs)
noncomputable def keptB (w : List Bool) (k : Nat) : List Bool := ((List.range w.length).filter fun i => k / 2 ^ i % 2 == 1).map fun i => w.getD i false
noncomputable def struckB (w : List Bool) (half : Nat) : List (List Bool) := ((List.range (2 ^ w.length)).map (keptB w)).filter fun x => x.length == half
noncomputable def leftB (n : Nat) (w : List Bool) (qs : List (List Bool)) : List (List Bool) := (wordsB n).filter fun x => qs.all fun q => subB q x == subB q w
theorem words_order : ∀ n, n ≤ 5 → (wordsB n).Pairwise (fun a b => ltB a b = true) := by
  intro n h
  match n, h with
  | 0, _ => decide +kernel
  | 1, _ => decide +kernel
  | 2, _ => decide +kernel
  | 3, _ => decide +kernel
  | 4, _ => decide +kernel
  | 5, _ => decide +kernel
theorem left_all : ∀ n, n ≤ 5 → ((wordsB n).all fun w => leftB n w (wordsB (n / 2 + 1)) == [w]) = true := by
  intro n h
  match n, h with
  | 0, _ => decide +kernel
  | 1, _ => decide +kernel
  | 2, _ => decide +kernel
  | 3, _ => decide +kernel
  | 4, _ => decide +kernel
  | 5, _ => decide +kernel
theorem struck_all : ∀ n, n ≤ 5 → ((wordsB n).all fun w => (wordsB (n / 2 + 1)).all fun q => (struckB w (n / 2 + 1)).contains q == subB q w) = true := by
  intro n h
  match n, h with
  | 0, _ => decide +kernel
  | 1, _ => decide +kernel
  | 2, _ => decide +kernel
  | 3, _ => decide +kernel
  | 4, _ => decide +kernel
  | 5, _ => decide +kernel
theorem mem_wordsB : ∀ (n : Nat) (w : List Bool), w.length = n → w ∈ wordsB n
  | 0, w, h => by rw [List.length_eq_zero_iff.mp h]; exact List.mem_singleton.mpr rfl
  | n + 1, w, h => by
    rcases List.eq_nil_or_concat w with rfl | ⟨a, b, rfl⟩
    · simp at h
    · rw [List.concat_eq_append] at h ⊢
      have ha : a.length = n := by simpa using h
      refine List.mem_flatMap.mpr ⟨a, mem_wordsB n a ha, ?_⟩
      cases b <;> simp
theorem len_wordsB : ∀ (n : Nat) (w : List Bool), w ∈ wordsB n → w.length = n
  | 0, w, h => by rw [List.mem_singleton.mp h]; rfl
  | n + 1, w, h => by
    obtain ⟨a, ha, hw⟩ := List.mem_flatMap.mp h
    have := len_wordsB n a ha
    rcases List.mem_cons.mp hw with rfl | hw
    · simp [this]
    · rw [List.mem_singleton.mp hw]; simp [this]
theorem left_end {n : Nat} {w : List Bool} (hn : n ≤ 5) (hw : w.length = n) : leftB n w (wordsB (n / 2 + 1)) = [w] :=
  eq_of_beq (List.all_eq_true.mp (left_all n hn) w (mem_wordsB n w hw))
theorem struck_end {n : Nat} {w q : List Bool} (hn : n ≤ 5) (hw : w.length = n) (hq : q ∈ wordsB (n / 2 + 1)) : (struckB w (n / 2 + 1)).contains q = subB q w :=
  eq_of_beq (List.all_eq_true.mp (List.all_eq_true.mp (struck_all n hn) w (mem_wordsB n w hw)) q hq)
theorem count_wordsB : ∀ n, (wordsB n).length = 2 ^ n
  | 0 => rfl
  | n + 1 => by
    have key : ∀ l : List (List Bool), (l.flatMap fun x => [x ++ [false], x ++ [true]]).length = l.length * 2 := by
      intro l
      induction l with
      | nil => rfl
      | cons a r ih => rw [List.flatMap_cons, List.length_append, ih]; simp; omega
    rw [wordsB, key, count_wordsB n, Nat.pow_succ]
theorem subB_find {p : Bool} {ps : List Bool} : ∀ {xs : List Bool} {k : Nat}, xs[k]? = some p → (∀ v, v < k → xs[v]? ≠ some p) → subB (p :: ps) xs = subB ps (xs.drop (k + 1))
  | [], k, h, _ => by simp at h
  | x :: xs, 0, h, _ => by
    have : x = p := by simpa using h
    subst this
    simp [subB]
  | x :: xs, k + 1, h, hn => by
    have h0 : x ≠ p := fun e => hn 0 (by omega) (by simp [e])
    have : (p == x) = false := beq_false_of_ne fun e => h0 e.symm
    rw [subB, this]
    simp only [Bool.false_eq_true, if_false, List.drop_succ_cons]
    exact subB_find (by simpa using h) fun v hv => by simpa using hn (v + 1) (by omega)
theorem subB_none {p : Bool} {ps : List Bool} : ∀ {xs : List Bool}, (∀ v : Nat, xs[v]? ≠ some p) → subB (p :: ps) xs = false
  | [], _ => rfl
  | x :: xs, hn => by
    have h0 : x ≠ p := fun e => hn 0 (by simp [e])
    have : (p == x) = false := beq_false_of_ne fun e => h0 e.symm
    rw [subB, this]
    simp only [Bool.false_eq_true, if_false]
    exact subB_none fun v => by simpa using hn (v + 1)

/-- the letters -/
structure Ltr where
  a : Nat
  b : Nat
  lt : a < b
  ma : a ∈ marks
  mb : b ∈ marks
noncomputable def Ltr.f (l : Ltr) (x : Bool) : Nat := if x then l.b else l.a
noncomputable def Ltr.tx (l : Ltr) (bs : List Bool) : Str := ⟨(bs.map l.f).toArray⟩
theorem Ltr.inj (l : Ltr) {x y : Bool} (h : l.f x = l.f y) : x = y := by
  have := l.lt
  unfold Ltr.f at h
  cases x <;> cases y <;> simp at h ⊢ <;> omega
theorem Ltr.mem (l : Ltr) (x : Bool) : l.f x ∈ marks := by
  unfold Ltr.f; split
  · exact l.mb
  · exact l.ma
theorem Ltr.tx_app (l : Ltr) (x y : List Bool) : l.tx x ++ l.tx y = l.tx (x ++ y) := by
  unfold Ltr.tx
  rw [List.map_append]
  show Str.mk _ = _
  simp
theorem Ltr.tx_inj (l : Ltr) : ∀ {x y : List Bool}, l.tx x = l.tx y → x = y := by
  have key : ∀ x y : List Bool, x.map l.f = y.map l.f → x = y := by
    intro x
    induction x with
    | nil => intro y h; cases y with
      | nil => rfl
      | cons _ _ => simp at h
    | cons a r ih => intro y h; cases y with
      | nil => simp at h
      | cons b q =>
        simp only [List.map_cons, List.cons.injEq] at h
        rw [l.inj h.1, ih q h.2]
  intro x y h
  refine key x y ?_
  have := congrArg (fun s : Str => s.cps.toList) h
  simpa [Ltr.tx] using this
theorem Ltr.tx_len (l : Ltr) (x : List Bool) : (l.tx x).length = x.length := by
  show (l.tx x).cps.size = _
  simp [Ltr.tx]
theorem Ltr.words (l : Ltr) : ∀ n, wordsF [l.tx [false], l.tx [true]] n = (wordsB n).map l.tx
  | 0 => rfl
  | n + 1 => by
    rw [wordsF, l.words n, wordsB, List.map_flatMap, List.flatMap_map]
    refine congrArg (fun g => (wordsB n).flatMap g) (funext fun x => ?_)
    simp only [List.map_cons, List.map_nil, l.tx_app]
theorem Ltr.goes_at (l : Ltr) (name : List Bool) : ∀ (part : List Bool) (i : Nat), i ≤ name.length → goesF (l.tx name) (part.map fun b => l.tx [b]) (i : Int) = subB part (name.drop i)
  | [], i, _ => by simp [goesF, subB]
  | p :: ps, i, hi => by
    have hx : ∀ v, v < name.length → (l.tx name).cps.getD v 0 ≠ l.f p → name[v]? ≠ some p := by
      intro v hv h e
      refine h ?_
      refine StrLaws.getD_of_getElem? ?_
      simp [Ltr.tx, e]
    have hfi : PySem.fromIndex (l.tx name).length (i : Int) = i := by
      unfold PySem.fromIndex
      rw [if_neg (by omega)]; omega
    have hlen := l.tx_len name
    rw [List.map_cons, goesF]
    have e1 : l.tx [p] = ⟨#[l.f p]⟩ := rfl
    rw [e1]
    rcases StrLaws.find3_spec (l.tx name) (l.f p) (i : Int) with ⟨h, hn⟩ | ⟨k, h, hlo, hlt, hc, hn⟩
    · rw [h, if_pos (by omega)]
      refine (subB_none fun v => ?_).symm
      rw [List.getElem?_drop]
      rcases Nat.lt_or_ge (i + v) name.length with hv | hv
      · exact hx _ hv (hn _ (by rw [hfi]; omega) (by omega))
      · rw [List.getElem?_eq_none hv]; simp
    · rw [hfi] at hlo hn
      rw [h, if_neg (by omega)]
      have hk : name[k]? = some p := by
        have := StrLaws.getElem?_of_getD hlt hc
        simp only [Ltr.tx, List.getElem?_map] at this
        rcases hq : name[k]? with _ | z
        · rw [hq] at this; cases this
        · rw [hq] at this
          rw [l.inj (Option.some.inj this)]
      rw [subB_find (k := k - i) (xs := name.drop i) (by rw [List.getElem?_drop]; rw [show i + (k - i) = k from by omega]; exact hk) (fun v hv => by rw [List.getElem?_drop]; exact hx _ (by omega) (hn _ (by omega) (by omega)))]
      rw [List.drop_drop, show i + (k - i + 1) = k + 1 from by omega]
      have := l.goes_at name ps (k + 1) (by omega)
      exact_mod_cast this
theorem Ltr.goes (l : Ltr) (part name : List Bool) : goesF (l.tx name) (part.map fun b => l.tx [b]) 0 = subB part name := by
  have := l.goes_at name part 0 (by omega)
  simpa using this
theorem Ltr.lts (l : Ltr) : ∀ {x y : List Bool}, ltB x y = true → ltS (l.tx x) (l.tx y) = true := by
  have key : ∀ x y : List Bool, ltB x y = true → x.map l.f < y.map l.f := by
    intro x
    induction x with
    | nil => intro y h; cases y with
      | nil => simp [ltB] at h
      | cons b q => exact List.nil_lt_cons _ _
    | cons a r ih => intro y h; cases y with
      | nil => simp [ltB] at h
      | cons b q =>
        rw [List.map_cons, List.map_cons, List.cons_lt_cons_iff]
        rw [ltB, Bool.or_eq_true, Bool.and_eq_true, Bool.and_eq_true] at h
        rcases h with ⟨h1, h2⟩ | ⟨h1, h2⟩
        · left
          have := l.lt
          cases a <;> cases b <;> simp_all [Ltr.f]
        · right
          rw [eq_of_beq h1]
          exact ⟨rfl, ih q h2⟩
  intro x y h
  have := key x y h
  exact decide_eq_true (by simpa [Ltr.tx] using this)
theorem ltS_irr (x : Str) : ltS x x = false := decide_eq_false (List.lt_irrefl _)
theorem ltS_asym {x y : Str} (h : ltS x y = true) : ltS y x = false := decide_eq_false (List.lt_asymm (of_decide_eq_true h))
theorem sld_left {p : Str → Bool} : ∀ {xs : List Str}, xs.Pairwise (fun a b => ltS a b = true) → sldF xs (xs.filter p) = (xs.filter (fun x => !p x), []) ∧ sldF (xs.filter p) xs = ([], xs.filter (fun x => !p x))
  | [], _ => by simp [sldF_nil]
  | e :: es, h => by
    obtain ⟨h1, h2⟩ := List.pairwise_cons.mp h
    obtain ⟨i1, i2⟩ := sld_left (p := p) h2
    cases hp : p e with
    | true =>
      rw [List.filter_cons_of_pos hp, List.filter_cons_of_neg (by simp [hp]), sldF_cons, sldF_cons]
      simp only [ltS_irr, Bool.false_eq_true, if_false]
      exact ⟨i1, i2⟩
    | false =>
      rw [List.filter_cons_of_neg (by simp [hp]), List.filter_cons_of_pos (p := fun x => !p x) (by simp [hp])]
      cases hf : es.filter p with
      | nil =>
        have : es.filter (fun x => !p x) = es := List.filter_eq_self.mpr fun a ha => by
          have := List.filter_eq_nil_iff.mp hf a ha
          simpa using this
        rw [this, sldF_nil2, sldF_nil]
        exact ⟨rfl, rfl⟩
      | cons a as =>
        have ha : a ∈ es := (List.mem_filter.mp (hf ▸ List.mem_cons_self : a ∈ es.filter p)).1
        have l1 := h1 a ha
        rw [sldF_cons, sldF_cons, if_pos l1, if_neg (by rw [ltS_asym l1]; simp), if_pos l1, ← hf, i1, i2]
        exact ⟨rfl, rfl⟩
theorem ltS_ne {x y : Str} (h : ltS x y = true) : x ≠ y := by
  rintro rfl
  rw [ltS_irr] at h; cases h
theorem Ltr.left_order (l : Ltr) {n : Nat} (hn : n ≤ 5) (w : List Bool) (qs : List (List Bool)) : ((leftB n w qs).map l.tx).Pairwise (fun a b => ltS a b = true) :=
  List.pairwise_map.mpr (((words_order n hn).imp fun h => l.lts h).sublist List.filter_sublist)
theorem filter_tx (l : Ltr) (p : List Bool → Bool) (P : Str → Bool) (h : ∀ x, P (l.tx x) = p x) (xs : List (List Bool)) : (xs.map l.tx).filter P = (xs.filter p).map l.tx := by
  rw [List.filter_map]
  congr 1
  refine List.filter_congr fun x _ => ?_
  exact h x
end Mine
end
section
open PySem PySem.W PyProof.Rows PySem.Calls PySem.Spec
namespace Mine
theorem take_two (ws : List Int) : ∃ d0 d1 : Int, (ws ++ [0, 0]).take 2 = [d0, d1] := by
  rcases ws with _ | ⟨a, _ | ⟨b, r⟩⟩
  · exact ⟨_, _, rfl⟩
  · exact ⟨_, _, rfl⟩
  · exact ⟨_, _, rfl⟩
theorem ints_two {vs : List Value} {a b : Int} (h : IntsAre vs [a, b]) : ∃ t u, vs = [.int a t, .int b u] := by
  rcases h with _ | ⟨_, _, h⟩
  rcases h with _ | ⟨_, _, h⟩
  cases h
  exact ⟨_, _, rfl⟩
theorem draws_ok (d0 d1 : Int) : ∃ i1 i2 c1 c2 : Nat, d0.fmod 9 = i1 ∧ (d0.fmod 9 + 1 + d1.fmod 8).fmod 9 = i2 ∧ ((Str.ofString " !-.[^ab~")).cps.toList[i1]? = some c1 ∧ ((Str.ofString " !-.[^ab~")).cps.toList[i2]? = some c2 ∧ c1 ∈ marks ∧ c2 ∈ marks ∧ c1 ≠ c2 := by
  have e : ((Str.ofString " !-.[^ab~")).cps.toList = marks := by decide +kernel
  have nd : marks.Nodup := by decide
  rw [e]
  have key : ∀ z : Int, ∃ i : Nat, z.fmod 9 = i ∧ i < 9 := fun z => by
    rw [Int.fmod_eq_emod_of_nonneg _ (by omega)]
    exact ⟨(z % 9).toNat, by omega, by omega⟩
  obtain ⟨i1, e1, l1⟩ := key d0
  obtain ⟨i2, e2, l2⟩ := key (d0.fmod 9 + 1 + d1.fmod 8)
  have hne : i1 ≠ i2 := by
    rintro rfl
    rw [e1, Int.fmod_eq_emod_of_nonneg _ (by omega), Int.fmod_eq_emod_of_nonneg _ (by omega)] at e2
    omega
  have g1 : marks[i1]? = some (marks[i1]'l1) := List.getElem?_eq_getElem l1
  have g2 : marks[i2]? = some (marks[i2]'l2) := List.getElem?_eq_getElem l2
  refine ⟨i1, i2, _, _, e1, e2, g1, g2, List.mem_of_getElem? g1, List.mem_of_getElem? g2, fun q => ?_⟩
  have := (List.nodup_iff_pairwise_ne.mp nd)
  rw [List.pairwise_iff_getElem] at this
  rcases Nat.lt_or_gt_of_ne hne with h | h
  · exact this i1 i2 l1 l2 h q
  · exact this i2 i1 l2 l1 h q.symm
theorem item_cpI {prog : Program} {w : World} {A : Around} {E : Value → Shared → Prop} {s : Shared} {value slice : PySem.Expr} {x : Str} {t u : Tok} {k : Int} {i ch : Nat} {Q : Value → Shared → Prop} (hk : k = (i : Int)) (h : x.cps.toList[i]? = some ch) (hz : x.length ≤ 1000) (q : Q (.str ⟨#[ch]⟩ s.toks) { s with toks := s.toks + 1 })
    (hs : subscripted slice false (.str x t) (.int k u) = operate [.str x t, .int k u] (getItem (.str x t) (.int k u)) := by with_unfolding_all rfl) (ht : ∀ r, letTemporaryGo value (.str x t) r = pure () := by intro _; with_unfolding_all rfl) :
    wpAny (model prog w) A (subscriptTail value slice (.str x t) (.int k u)) Q E s := by
  subst hk
  exact item_cp h hz q hs ht
theorem pair_of {c1 c2 : Nat} {ss : List Str} (hp : ss.Perm [⟨#[c1]⟩, ⟨#[c2]⟩]) (hs : sortedS ss = true) (m1 : c1 ∈ marks) (m2 : c2 ∈ marks) (hne : c1 ≠ c2) : ∃ l : Ltr, ss = [l.tx [false], l.tx [true]] := by
  have key : ∀ a b : Nat, a ∈ marks → b ∈ marks → a ≠ b → sortedS [(⟨#[a]⟩ : Str), ⟨#[b]⟩] = true → ∃ l : Ltr, [(⟨#[a]⟩ : Str), ⟨#[b]⟩] = [l.tx [false], l.tx [true]] := by
    intro a b ha hb hab hh
    have hle : a < b := by
      simp only [sortedS, risingS, ltCps, Bool.and_true, Bool.and_false, Bool.or_false, Bool.not_eq_true', decide_eq_false_iff_not, beq_iff_eq, Bool.or_eq_false_iff] at hh
      omega
    exact ⟨⟨a, b, hle, ha, hb⟩, rfl⟩
  have hl := hp.length_eq
  rcases ss with _ | ⟨p, _ | ⟨q, _ | ⟨_, _⟩⟩⟩
  · simp at hl
  · simp at hl
  · have hp1 : p ∈ [(⟨#[c1]⟩ : Str), ⟨#[c2]⟩] := hp.subset List.mem_cons_self
    rcases List.mem_cons.mp hp1 with rfl | hp1
    · have := List.perm_singleton.mp ((List.perm_cons _).mp hp)
      cases this
      exact key _ _ m1 m2 hne hs
    · have hp2 := List.mem_singleton.mp hp1
      subst hp2
      have := List.perm_singleton.mp ((List.perm_cons _).mp (hp.trans (List.Perm.swap _ _ _)))
      cases this
      exact key _ _ m2 m1 (Ne.symm hne) hs
  · simp at hl
theorem strs_txs : ∀ {vs : List Value} {ss : List Str}, StrsAre vs ss → Txs vs ss
  | _, _, .nil => .nil
  | _, _, .cons _ _ h => .cons (strs_txs h)
theorem pair_K {prog : Program} {w : World} {A : Around} {E : Value → Shared → Prop} {s : Shared} {h₀ : Heap} {L : Addr} {m : Str → Option Value} {news : List (Addr × Obj)} {a : Addr} {c1 c2 n : Nat} {t1 t2 : Tok} {Q : Value → Shared → Prop}
    (F : Fr h₀ L s.heap m) (N : News h₀ L s.heap news) (hl : s.heap.get? a = some (listOf #[.str ⟨#[c1]⟩ t1, .str ⟨#[c2]⟩ t2] n)) (m1 : c1 ∈ marks) (m2 : c2 ∈ marks) (hne : c1 ≠ c2)
    (h : ∀ D h' vs e (l : Ltr), Fr h₀ L h' m → News h₀ L h' ((D, listOf (List.toArray vs) e) :: news) → (∀ p ∈ news, p.1 < D) → Txs vs [l.tx [false], l.tx [true]] → Q (.ref D) { s with heap := h' }) :
    wpAny (model prog w) A (call (.builtin "sorted") [.ref a]) Q E s := by
  refine sorted_N_str (vs := [.str ⟨#[c1]⟩ t1, .str ⟨#[c2]⟩ t2]) F N ⟨_, hl, rfl, _, rfl⟩ (.cons _ _ (.cons _ _ .nil)) (by simp) fun h' vs' ss' e F' N' hS hp hs => ?_
  obtain ⟨l, rfl⟩ := pair_of hp hs m1 m2 hne
  exact h _ h' vs' e l F' N' (fun p hp => Nat.lt_succ_of_lt (Heap.lt_size (N p hp).1)) (strs_txs hS)
end Mine
end
section
open PySem PySem.W PyProof.Rows PySem.Calls PySem.Spec
namespace Mine
/-- two addresses apart, said so that omega does not split on it -/
noncomputable def Apart (a b : Addr) : Prop := a ≠ b
theorem Apart.ne {a b : Addr} (h : Apart a b) : a ≠ b := h
section
variable {prog : Program} {w : World} {A : Around} {E : Value → Shared → Prop} {env : Env} {h₀ : Heap} {L : Addr} {m : Str → Option Value} {news : List (Addr × Obj)}
theorem Fr.off {h h' : Heap} {wr : List Addr} (F : Fr h₀ L h m) (hw : ∀ b ∈ wr, h₀.get? b = none ∧ b ≠ L) (hk : ∀ b o, b ∉ wr → h.get? b = some o → h'.get? b = some o) : Fr h₀ L h' m :=
  ⟨Heap.Ns.at' F.ns fun o e => hk L o (fun q => (hw L q).2 rfl) e, fun b o e => hk b o (fun q => by rw [(hw b q).1] at e; cases e) (F.keep b o e), F.above⟩
theorem News.off {h h' : Heap} {wr : List Addr} (N : News h₀ L h news) (hw : ∀ b ∈ wr, ∀ q ∈ news, q.1 ≠ b) (hk : ∀ b o, b ∉ wr → h.get? b = some o → h'.get? b = some o) : News h₀ L h' news :=
  fun p hp => ⟨hk _ _ (fun q => hw _ q p hp rfl) (N p hp).1, (N p hp).2⟩
noncomputable abbrev testsOf (prog : Program) (w : World) (A : Around) (env : Env) (scope : Scope) (cl : List (Str × Addr)) (ifs : List Expr) (C : Addr) (ok : Bool) (E' : Value → Shared → Prop) (s : Shared) : Prop :=
  wpAny (model prog w) A (forIn ifs true fun c r => if r = true then do let ok ← isTrue c (compEnvC scope cl C env) (eval c (compEnvC scope cl C env)); pure (ForInStep.yield ok) else pure (ForInStep.yield r)) (fun ok' s₄ => ok' = ok ∧ Keeps s s₄) E' s
theorem quiet_of {s₂ : Shared} {elt : Expr} {x : Str} {ifs : List Expr} {scope : Scope} {cl : List (Str × Addr)} {wr : List Addr} {P : Nat → Value → Prop} {p : Value → Bool} {G : Value → Value → Prop}
    (F : Fr h₀ L s₂.heap m) (N : News h₀ L s₂.heap news) (hw : ∀ b ∈ wr, h₀.get? b = none ∧ b ≠ L) (hw2 : ∀ b ∈ wr, ∀ q ∈ news, q.1 ≠ b)
    (tests : ∀ C i v s₃ m₃ E', P i v → s₃.heap.Ns C m₃ → m₃ x = some v → Fr h₀ L s₃.heap m → News h₀ L s₃.heap news → testsOf prog w A env scope cl ifs C (p v) E' s₃)
    (elts : ∀ C i v s₃ m₃ E', P i v → p v = true → s₃.heap.Ns C m₃ → m₃ x = some v → Fr h₀ L s₃.heap m → News h₀ L s₃.heap news → wpAny (model prog w) A (eval elt (compEnvC scope cl C env)) (fun y s₄ => G v y ∧ Keeps s₃ s₄) E' s₃) :
    QuietOnC prog w A env scope cl x ifs elt wr P p G s₂ where
  tests := fun C i v s₃ m₃ E' _ hv hn hm hk _ => tests C i v s₃ m₃ E' hv hn hm (Fr.off F hw hk) (News.off N hw2 hk)
  elt := fun C i v s₃ m₃ E' _ hv hp hn hm hk _ => elts C i v s₃ m₃ E' hv hp hn hm (Fr.off F hw hk) (News.off N hw2 hk)
theorem new_list {h h' : Heap} {D : Addr} {ys : Array Value} {m' : Str → Option Value} (F : Fr h₀ L h m) (N' : News h₀ L h' news) (N : News h₀ L h news) (hD : h.get? D = none) (hp : h'.PlainList D ys) :
    ∃ nn, News h₀ L h' ((D, listOf ys nn) :: news) ∧ ∀ q ∈ news, Apart q.1 D := by
  obtain ⟨nn, e⟩ := hp
  exact ⟨nn, News.more F N' hD e, fun q hq e2 => by rw [← e2, (N q hq).1] at hD; cases hD⟩
theorem comp_core {s₂ : Shared} {elt : Expr} {x : Str} {ifs : List Expr} {scope : Scope} {cl : List (Str × Addr)} {I : Addr} {fp wr : List Addr} {n : Nat} {P : Nat → Value → Prop} {St : Nat → Heap → Prop} {p : Value → Bool} {G : Value → Value → Prop} {Q : Value → Shared → Prop}
    (W : Walks prog w A I fp wr n P St) (hz : n ≤ sizeLine) (hst : St 0 s₂.heap) (hfp : ∀ b ∈ fp, b < s₂.heap.objs.size)
    (F : Fr h₀ L s₂.heap m) (N : News h₀ L s₂.heap news) (hw : ∀ b ∈ wr, h₀.get? b = none ∧ b ≠ L) (hw2 : ∀ b ∈ wr, ∀ q ∈ news, q.1 ≠ b)
    (tests : ∀ C i v s₃ m₃ E', P i v → s₃.heap.Ns C m₃ → m₃ x = some v → Fr h₀ L s₃.heap m → News h₀ L s₃.heap news → testsOf prog w A env scope cl ifs C (p v) E' s₃)
    (elts : ∀ C i v s₃ m₃ E', P i v → p v = true → s₃.heap.Ns C m₃ → m₃ x = some v → Fr h₀ L s₃.heap m → News h₀ L s₃.heap news → wpAny (model prog w) A (eval elt (compEnvC scope cl C env)) (fun y s₄ => G v y ∧ Keeps s₃ s₄) E' s₃)
    (fin : ∀ D nn h' tk (ys : List Value) (vs : List Value), vs.length = n → (∀ (j : Nat) v, vs[j]? = some v → P j v) → Fr h₀ L h' m → News h₀ L h' ((D, listOf ys.toArray nn) :: news) → (∀ q ∈ news, Apart q.1 D) → Paired G (vs.filter p) ys → Q (.ref D) { s₂ with heap := h', toks := tk }) :
    ∃ I' fp wr n P St, Value.ref I = .ref I' ∧ Walks prog w A I' fp wr n P St ∧ n ≤ sizeLine ∧ St 0 s₂.heap ∧ (∀ b ∈ fp, b < s₂.heap.objs.size) ∧
      QuietOnC prog w A env scope cl x ifs elt wr P p G s₂ ∧
      (∀ D h' tk ys (vs : List Value), s₂.heap.get? D = none → h'.IsList D ys → h'.PlainList D ys → vs.length = n → (∀ j v, vs[j]? = some v → P j v) → Paired G (vs.filter p) ys.toList →
        (∀ b o, b ∉ wr → s₂.heap.get? b = some o → h'.get? b = some o) → Q (.ref D) { s₂ with heap := h', toks := tk }) := by
  refine ⟨I, fp, wr, n, P, St, rfl, W, hz, hst, hfp, quiet_of F N hw hw2 tests elts, ?_⟩
  intro D h' tk ys vs hD _ hpl hlen hP hG hk
  obtain ⟨nn, N', off⟩ := new_list (m' := m) F (News.off N hw2 hk) N hD hpl
  exact fin D nn h' tk ys.toList vs hlen hP (Fr.off F hw hk) (by simpa using N') off hG
theorem comp_coreA {s₂ : Shared} {elt : Expr} {x y : Str} {ifs : List Expr} {scope : Scope} {cl : List (Str × Addr)} {I : Addr} {fp wr : List Addr} {n : Nat} {P : Nat → Value → Prop} {St : Nat → Heap → Prop} {p : Value → Bool} {G : Value → Value → Prop} {Q : Flow → Shared → Prop}
    (hL : env.locals = L)
    (W : Walks prog w A I fp wr n P St) (hz : n ≤ sizeLine) (hst : St 0 s₂.heap) (hfp : ∀ b ∈ fp, b < s₂.heap.objs.size)
    (F : Fr h₀ L s₂.heap m) (N : News h₀ L s₂.heap news) (hw : ∀ b ∈ wr, h₀.get? b = none ∧ b ≠ L) (hw2 : ∀ b ∈ wr, ∀ q ∈ news, q.1 ≠ b)
    (tests : ∀ C i v s₃ m₃ E', P i v → s₃.heap.Ns C m₃ → m₃ x = some v → Fr h₀ L s₃.heap m → News h₀ L s₃.heap news → testsOf prog w A env scope cl ifs C (p v) E' s₃)
    (elts : ∀ C i v s₃ m₃ E', P i v → p v = true → s₃.heap.Ns C m₃ → m₃ x = some v → Fr h₀ L s₃.heap m → News h₀ L s₃.heap news → wpAny (model prog w) A (eval elt (compEnvC scope cl C env)) (fun y s₄ => G v y ∧ Keeps s₃ s₄) E' s₃)
    (fin : ∀ D nn h' tk (ys : List Value) (vs : List Value), vs.length = n → (∀ (j : Nat) v, vs[j]? = some v → P j v) → Fr h₀ L h' (fun z => if z = y then some (.ref D) else m z) → News h₀ L h' ((D, listOf ys.toArray nn) :: news) → (∀ q ∈ news, Apart q.1 D) → Paired G (vs.filter p) ys → Q .next { s₂ with heap := h', toks := tk }) :
    ∃ I' fp wr n P St m, Value.ref I = .ref I' ∧ Walks prog w A I' fp wr n P St ∧ n ≤ sizeLine ∧ St 0 s₂.heap ∧ (∀ b ∈ fp, b < s₂.heap.objs.size) ∧
      env.locals ∉ wr ∧ s₂.heap.Ns env.locals m ∧ QuietOnC prog w A env scope cl x ifs elt wr P p G s₂ ∧
      (∀ D h' tk ys (vs : List Value), s₂.heap.get? D = none → h'.IsList D ys → h'.PlainList D ys → vs.length = n → (∀ j v, vs[j]? = some v → P j v) → Paired G (vs.filter p) ys.toList →
        h'.Ns env.locals (fun z => if z = y then some (.ref D) else m z) → (∀ b o, b ≠ env.locals → b ∉ wr → s₂.heap.get? b = some o → h'.get? b = some o) → Q .next { s₂ with heap := h', toks := tk }) := by
  subst hL
  refine ⟨I, fp, wr, n, P, St, m, rfl, W, hz, hst, hfp, fun q => (hw _ q).2 rfl, F.ns, quiet_of F N hw hw2 tests elts, ?_⟩
  intro D h' tk ys vs hD _ hpl hlen hP hG hns hk
  have N2 : News h₀ env.locals h' news := fun p hp => ⟨hk _ _ (N p hp).2.1 (fun q => hw2 _ q p hp rfl) (N p hp).1, (N p hp).2⟩
  obtain ⟨nn, N', off⟩ := new_list (m' := m) F N2 N hD hpl
  refine fin D nn h' tk ys.toList vs hlen hP ⟨hns, fun b o e => hk b o ?_ (fun q => by rw [(hw b q).1] at e; cases e) (F.keep b o e), F.above⟩ (by simpa using N') off hG
  exact Nat.ne_of_lt (Nat.lt_of_lt_of_le (Heap.lt_size e) F.above)
theorem News.sub {h₀ h : Heap} {L : Addr} {as bs : List (Addr × Obj)} (N : News h₀ L h bs) (hs : ∀ p ∈ as, p ∈ bs) : News h₀ L h as := fun p hp => N p (hs p hp)
theorem News.apart {h₀ h : Heap} {L D : Addr} {as : List (Addr × Obj)} (N : News h₀ L h as) (hD : h.get? D = none) : ∀ q ∈ as, Apart q.1 D := fun q hq e => by rw [← e, (N q hq).1] at hD; cases hD
theorem News.apartA {h₀ h : Heap} {L D : Addr} {as : List (Addr × Obj)} (N : News h₀ L h as) (hD : h.get? D = none) : ∀ a ∈ as.map (·.1), Apart a D := by
  intro a ha
  obtain ⟨p, hp, rfl⟩ := List.mem_map.mp ha
  exact News.apart N hD p hp
theorem ints_mem {vs : List Value} {ns : List Int} (h : IntsAre vs ns) {v : Value} (hv : v ∈ vs) : ∃ n t, v = .int n t := by
  induction h with
  | nil => cases hv
  | cons _ _ _ ih =>
    rcases List.mem_cons.mp hv with rfl | hv
    · exact ⟨_, _, rfl⟩
    · exact ih hv
theorem ltr_two {vs : List Value} {x y : Str} (h : Txs vs [x, y]) : ∃ t u, vs = [.str x t, .str y u] := by
  cases h with
  | cons h => cases h with
    | cons h => cases h; exact ⟨_, _, rfl⟩
theorem join_app (z : Str) (r : List Str) : Txt.join ((Str.ofString "")) (z :: r) = ⟨z.cps ++ (Txt.join ((Str.ofString "")) r).cps⟩ := by
  have key : ∀ (r : List Str) (a : Array Nat), r.foldl (fun acc p => acc ++ Str.cps ((Str.ofString "")) ++ p.cps) a = a ++ r.foldl (fun acc p => acc ++ Str.cps ((Str.ofString "")) ++ p.cps) #[] := by
    intro r
    induction r with
    | nil => intro a; simp
    | cons x r ih =>
      intro a
      rw [List.foldl_cons, List.foldl_cons, ih, ih (#[] ++ Str.cps ((Str.ofString "")) ++ x.cps)]
      simp [show Str.cps ((Str.ofString "")) = #[] from rfl]
  show Str.mk (List.foldl _ z.cps r) = Str.mk (z.cps ++ List.foldl _ _ (r.drop 1))
  rw [key r z.cps]
  congr 2
  cases r with
  | nil => rfl
  | cons x r =>
    rw [List.foldl_cons, key r _]
    show _ = List.foldl _ x.cps r
    rw [key r x.cps]
    simp [show Str.cps ((Str.ofString "")) = #[] from rfl]
theorem join_bits (l : Ltr) : ∀ bs : List Bool, Txt.join ((Str.ofString "")) (bs.map fun b => l.tx [b]) = l.tx bs
  | [] => rfl
  | b :: r => by
    rw [List.map_cons, join_app, join_bits l r]
    have := l.tx_app [b] r
    exact this
/-- how the law ends -/
noncomputable def LawQ (s1 : Shared) (f : Flow) (s' : Shared) : Prop := f = .ret (.bool true) ∧ ∃ h' tk' m', s' = { s1 with heap := h', toks := tk' } ∧ Fr (ghostOf s1.heap [(61, 57)]) s1.heap.objs.size h' m' ∧ News (ghostOf s1.heap [(61, 57)]) s1.heap.objs.size h' [(57, tabObj #[])]
/-- a draw's letter -/
noncomputable def WordG (l : Ltr) (v y : Value) : Prop := ∃ n t u, v = .int n t ∧ y = .str (l.tx [n.fmod 2 == 1]) u
theorem word_bits {l : Ltr} {vs ys : List Value} (h : Paired (WordG l) vs ys) : ∃ bs : List Bool, bs.length = vs.length ∧ Txs ys (bs.map fun b => l.tx [b]) := by
  induction h with
  | nil => exact ⟨[], rfl, .nil⟩
  | cons h _ ih =>
    obtain ⟨bs, h1, h2⟩ := ih
    obtain ⟨n, t, u, rfl, rfl⟩ := h
    exact ⟨_ :: bs, by simp [h1], .cons h2⟩
/-- the block over a list -/
theorem comp_go {s : Shared} {elt : Expr} {x : Str} {ifs : List Expr} {scope : Scope} {cl : List (Str × Addr)} {wl : Addr} {vs : List Value} {p : Value → Bool} {G : Value → Value → Prop} {Q : Value → Shared → Prop}
    (hh : A.handled = none) (F : Fr h₀ L s.heap m) (N : News h₀ L s.heap news) (hl : s.heap.IsList wl vs.toArray) (hz : vs.length ≤ sizeLine)
    (tests : ∀ C v s₃ m₃ E', v ∈ vs → s₃.heap.Ns C m₃ → m₃ x = some v → Fr h₀ L s₃.heap m → News h₀ L s₃.heap news → testsOf prog w A env scope cl ifs C (p v) E' s₃)
    (elts : ∀ C v s₃ m₃ E', v ∈ vs → p v = true → s₃.heap.Ns C m₃ → m₃ x = some v → Fr h₀ L s₃.heap m → News h₀ L s₃.heap news → wpAny (model prog w) A (eval elt (compEnvC scope cl C env)) (fun y s₄ => G v y ∧ Keeps s₃ s₄) E' s₃)
    (fin : ∀ D nn h' tk (ys : List Value), Fr h₀ L h' m → News h₀ L h' ((D, listOf ys.toArray nn) :: news) → (∀ q ∈ news, Apart q.1 D) → Paired G (vs.filter p) ys → Q (.ref D) { s with heap := h', toks := tk }) :
    wpAny (model prog w) A (pyIter (.ref wl)) (fun it s₂ => ∃ I fp wr n P St, it = .ref I ∧ Walks prog w A I fp wr n P St ∧ n ≤ sizeLine ∧ St 0 s₂.heap ∧ (∀ b ∈ fp, b < s₂.heap.objs.size) ∧
      QuietOnC prog w A env scope cl x ifs elt wr P p G s₂ ∧
      (∀ D h' tk ys (vs : List Value), s₂.heap.get? D = none → h'.IsList D ys → h'.PlainList D ys → vs.length = n → (∀ j v, vs[j]? = some v → P j v) → Paired G (vs.filter p) ys.toList →
        (∀ b o, b ∉ wr → s₂.heap.get? b = some o → h'.get? b = some o) → Q (.ref D) { s₂ with heap := h', toks := tk })) E s := by
  refine wpAny_pyIter_list hl ?_
  have hwl : wl < s.heap.objs.size := by obtain ⟨o, e, _⟩ := hl; exact Heap.lt_size e
  have N1 := News.push F N (itObj wl 0)
  have F1 := Fr.push F (itObj wl 0)
  have new := N1 _ List.mem_cons_self
  refine comp_core (Walks.list hh s.heap.objs.size wl (Nat.ne_of_lt hwl) vs.toArray) (by simpa using hz) ⟨⟨_, new.1, rfl, rfl⟩, hl.at fun o e => Heap.get?_push_of_some _ e⟩ ?_ F1 (fun q hq => N1 q (List.mem_cons_of_mem _ hq)) ?_ ?_
    (fun C i v s₃ m₃ E' hP => tests C v s₃ m₃ E' (List.mem_of_getElem? (by simpa using hP))) (fun C i v s₃ m₃ E' hP => elts C v s₃ m₃ E' (List.mem_of_getElem? (by simpa using hP))) ?_
  · intro b hb
    show b < (s.heap.push _).objs.size
    rw [Heap.size_push]
    rcases List.mem_cons.mp hb with rfl | hb
    · exact Nat.lt_succ_self _
    · rw [List.mem_singleton.mp hb]; exact Nat.lt_succ_of_lt hwl
  · intro b hb
    rw [List.mem_singleton.mp hb]
    exact ⟨new.2.2, new.2.1⟩
  · intro b hb q hq
    rw [List.mem_singleton.mp hb]
    exact Nat.ne_of_lt (Heap.lt_size (N q hq).1)
  · intro D nn h' tk ys vs' hlen hP F' N' off hG
    have : vs' = vs := by
      refine List.ext_getElem? fun j => ?_
      cases hq : vs'[j]? with
      | some v =>
        have h1 := hP j v hq
        exact (by simpa using h1.symm)
      | none =>
        have h1 := List.getElem?_eq_none_iff.mp hq
        exact (List.getElem?_eq_none (by simp at hlen; omega)).symm
    subst this
    exact fin D nn h' tk ys F' N' off hG
theorem comp_goA {s : Shared} {elt : Expr} {x y : Str} {ifs : List Expr} {scope : Scope} {cl : List (Str × Addr)} {wl : Addr} {vs : List Value} {p : Value → Bool} {G : Value → Value → Prop} {Q : Flow → Shared → Prop}
    (hL : env.locals = L) (hh : A.handled = none) (F : Fr h₀ L s.heap m) (N : News h₀ L s.heap news) (hl : s.heap.IsList wl vs.toArray) (hz : vs.length ≤ sizeLine)
    (tests : ∀ C v s₃ m₃ E', v ∈ vs → s₃.heap.Ns C m₃ → m₃ x = some v → Fr h₀ L s₃.heap m → News h₀ L s₃.heap news → testsOf prog w A env scope cl ifs C (p v) E' s₃)
    (elts : ∀ C v s₃ m₃ E', v ∈ vs → p v = true → s₃.heap.Ns C m₃ → m₃ x = some v → Fr h₀ L s₃.heap m → News h₀ L s₃.heap news → wpAny (model prog w) A (eval elt (compEnvC scope cl C env)) (fun y s₄ => G v y ∧ Keeps s₃ s₄) E' s₃)
    (fin : ∀ D nn h' tk (ys : List Value), Fr h₀ L h' (fun z => if z = y then some (.ref D) else m z) → News h₀ L h' ((D, listOf ys.toArray nn) :: news) → (∀ q ∈ news, Apart q.1 D) → Paired G (vs.filter p) ys → Q .next { s with heap := h', toks := tk }) :
    wpAny (model prog w) A (pyIter (.ref wl)) (fun it s₂ => ∃ I fp wr n P St m, it = .ref I ∧ Walks prog w A I fp wr n P St ∧ n ≤ sizeLine ∧ St 0 s₂.heap ∧ (∀ b ∈ fp, b < s₂.heap.objs.size) ∧
      env.locals ∉ wr ∧ s₂.heap.Ns env.locals m ∧ QuietOnC prog w A env scope cl x ifs elt wr P p G s₂ ∧
      (∀ D h' tk ys (vs : List Value), s₂.heap.get? D = none → h'.IsList D ys → h'.PlainList D ys → vs.length = n → (∀ j v, vs[j]? = some v → P j v) → Paired G (vs.filter p) ys.toList →
        h'.Ns env.locals (fun z => if z = y then some (.ref D) else m z) → (∀ b o, b ≠ env.locals → b ∉ wr → s₂.heap.get? b = some o → h'.get? b = some o) → Q .next { s₂ with heap := h', toks := tk })) E s := by
  refine wpAny_pyIter_list hl ?_
  have hwl : wl < s.heap.objs.size := by obtain ⟨o, e, _⟩ := hl; exact Heap.lt_size e
  have N1 := News.push F N (itObj wl 0)
  have F1 := Fr.push F (itObj wl 0)
  have new := N1 _ List.mem_cons_self
  refine comp_coreA hL (Walks.list hh s.heap.objs.size wl (Nat.ne_of_lt hwl) vs.toArray) (by simpa using hz) ⟨⟨_, new.1, rfl, rfl⟩, hl.at fun o e => Heap.get?_push_of_some _ e⟩ ?_ F1 (fun q hq => N1 q (List.mem_cons_of_mem _ hq)) ?_ ?_
    (fun C i v s₃ m₃ E' hP => tests C v s₃ m₃ E' (List.mem_of_getElem? (by simpa using hP))) (fun C i v s₃ m₃ E' hP => elts C v s₃ m₃ E' (List.mem_of_getElem? (by simpa using hP))) ?_
  · intro b hb
    show b < (s.heap.push _).objs.size
    rw [Heap.size_push]
    rcases List.mem_cons.mp hb with rfl | hb
    · exact Nat.lt_succ_self _
    · rw [List.mem_singleton.mp hb]; exact Nat.lt_succ_of_lt hwl
  · intro b hb
    rw [List.mem_singleton.mp hb]
    exact ⟨new.2.2, new.2.1⟩
  · intro b hb q hq
    rw [List.mem_singleton.mp hb]
    exact Nat.ne_of_lt (Heap.lt_size (N q hq).1)
  · intro D nn h' tk ys vs' hlen hP F' N' off hG
    have : vs' = vs := by
      refine List.ext_getElem? fun j => ?_
      cases hq : vs'[j]? with
      | some v =>
        have h1 := hP j v hq
        exact (by simpa using h1.symm)
      | none =>
        have h1 := List.getElem?_eq_none_iff.mp hq
        exact (List.getElem?_eq_none (by simp at hlen; omega)).symm
    subst this
    exact fin D nn h' tk ys F' N' off hG
theorem comp_list {s : Shared} {elt iter : Expr} {x : Str} {px : Pos} {ifs : List Expr} {scope : Scope} {cl : List (Str × Addr)} {pos : Pos} {Q : Value → Shared → Prop} (p : Value → Bool) (G : Value → Value → Prop) (R : Addr → Shared → Prop)
    (hclos : closureFor scope env = pure cl) (hcell : ∀ y ∈ scope.names, y.2 ≠ .cell) (hkind : scope.kind = .function)
    (hnames : ∀ y ∈ scope.names, y.2 = .local → scope.names.lookup y.1 = some .local) (hx : scope.names.lookup x = some .local) (hh : A.handled = none)
    (hit : wpAny (model prog w) A (eval iter env) (fun xv s₁ => ∃ wl, xv = .ref wl ∧ R wl s₁) E s)
    (hgo : ∀ wl s₁, R wl s₁ → ∃ (m : Str → Option Value) (news : List (Addr × Obj)) (vs : List Value), Fr h₀ L s₁.heap m ∧ News h₀ L s₁.heap news ∧ s₁.heap.IsList wl vs.toArray ∧ vs.length ≤ sizeLine ∧
      (∀ C v s₃ m₃ E', v ∈ vs → s₃.heap.Ns C m₃ → m₃ x = some v → Fr h₀ L s₃.heap m → News h₀ L s₃.heap news → testsOf prog w A env scope cl ifs C (p v) E' s₃) ∧
      (∀ C v s₃ m₃ E', v ∈ vs → p v = true → s₃.heap.Ns C m₃ → m₃ x = some v → Fr h₀ L s₃.heap m → News h₀ L s₃.heap news → wpAny (model prog w) A (eval elt (compEnvC scope cl C env)) (fun y s₄ => G v y ∧ Keeps s₃ s₄) E' s₃) ∧
      (∀ D nn h' tk (ys : List Value), Fr h₀ L h' m → News h₀ L h' ((D, listOf ys.toArray nn) :: news) → (∀ q ∈ news, Apart q.1 D) → Paired G (vs.filter p) ys → Q (.ref D) { s₁ with heap := h', toks := tk }))
    (hs : ∀ x, foldedSetIterable iter env x = pure x := by intro _; rfl) :
    wpAny (model prog w) A (eval (.ListComp elt [⟨.Name x px, iter, ifs, 0⟩] scope pos) env) Q E s := by
  refine wpAny_ListComp_free p G hclos hcell hkind hnames hx (wpAny_mono hit (fun xv s₁ hR => ?_) fun _ _ e => e) hs
  obtain ⟨wl, rfl, hR⟩ := hR
  obtain ⟨m, news, vs, F, N, hl, hz, tests, elts, fin⟩ := hgo wl s₁ hR
  exact comp_go hh F N hl hz tests elts fin
theorem comp_listA {s : Shared} {elt iter : Expr} {x y : Str} {px py : Pos} {ifs : List Expr} {scope : Scope} {cl : List (Str × Addr)} {pos spos : Pos} {Q : Flow → Shared → Prop} (p : Value → Bool) (G : Value → Value → Prop) (R : Addr → Shared → Prop)
    (hsw : swapsWith (.ListComp elt [⟨.Name x px, iter, ifs, 0⟩] scope pos) (some (.Name y py)) spos.line env = pure true)
    (hclos : closureFor scope env = pure cl) (hcell : ∀ y ∈ scope.names, y.2 ≠ .cell) (hkind : scope.kind = .function)
    (hnames : ∀ y ∈ scope.names, y.2 = .local → scope.names.lookup y.1 = some .local) (hx : scope.names.lookup x = some .local)
    (hy : env.kindOf y = some .local) (hp : (env.scope.kind == .class || (env.scope.kind == .module && env.locals != env.globals)) = false) (hL : env.locals = L) (hh : A.handled = none)
    (hit : wpAny (model prog w) A (eval iter env) (fun xv s₁ => ∃ wl, xv = .ref wl ∧ R wl s₁) E s)
    (hgo : ∀ wl s₁, R wl s₁ → ∃ (m : Str → Option Value) (news : List (Addr × Obj)) (vs : List Value), Fr h₀ L s₁.heap m ∧ News h₀ L s₁.heap news ∧ s₁.heap.IsList wl vs.toArray ∧ vs.length ≤ sizeLine ∧
      (∀ C v s₃ m₃ E', v ∈ vs → s₃.heap.Ns C m₃ → m₃ x = some v → Fr h₀ L s₃.heap m → News h₀ L s₃.heap news → testsOf prog w A env scope cl ifs C (p v) E' s₃) ∧
      (∀ C v s₃ m₃ E', v ∈ vs → p v = true → s₃.heap.Ns C m₃ → m₃ x = some v → Fr h₀ L s₃.heap m → News h₀ L s₃.heap news → wpAny (model prog w) A (eval elt (compEnvC scope cl C env)) (fun y s₄ => G v y ∧ Keeps s₃ s₄) E' s₃) ∧
      (∀ D nn h' tk (ys : List Value), Fr h₀ L h' (fun z => if z = y then some (.ref D) else m z) → News h₀ L h' ((D, listOf ys.toArray nn) :: news) → (∀ q ∈ news, Apart q.1 D) → Paired G (vs.filter p) ys → Q .next { s₁ with heap := h', toks := tk }))
    (hs : ∀ x, foldedSetIterable iter env x = pure x := by intro _; rfl) :
    wpAny (model prog w) A (exec (.Assign [.Name y py] (.ListComp elt [⟨.Name x px, iter, ifs, 0⟩] scope pos) spos) env) Q E s := by
  refine wpAny_Assign_ListComp_free p G hsw hclos hcell hkind hnames hx hy hp (wpAny_mono hit (fun xv s₁ hR => ?_) fun _ _ e => e) hs
  obtain ⟨wl, rfl, hR⟩ := hR
  obtain ⟨m, news, vs, F, N, hl, hz, tests, elts, fin⟩ := hgo wl s₁ hR
  exact comp_goA hL hh F N hl hz tests elts fin
end
end Mine
end
section
open PySem PySem.W PyProof.Rows PySem.Calls PySem.Spec
open PySem.SeqAt
namespace Mine.MineJ
open Builtin Builtin.Str Builtin.Int
theorem join_tree_str (sep : Str) (t : Tok) (x : Str) (u : Tok) : «str.join» ⟨[.str sep t, .str x u], []⟩ = (do
    let ty ← typeOf (.str x u)
    if (ty == .type "list" || ty == .type "tuple") = true then (do
      match ← seqItems? (.str x u) with
      | some xs => joinTail sep xs.toList
      | none => unsupported "internal:str.join")
    else (do
      let it ← (pyIter (.str x u)).tryCatch fun e => do
        if ← isInstance e (.type "TypeError") then rule "str.join.not-iterable"; raiseError "TypeError" "can only join an iterable" else throw e
      let items ← collect it
      joinTail sep items)) := rfl
theorem signs_of {x : Str} : ∀ {acc : Array Value}, ItemsOf (SignAt x) acc x.cps.size → ∃ l : List (Str × Tok), strValues l = acc.toList ∧ l.map (·.1) = x.cps.toList.map fun c => (⟨#[c]⟩ : Str) := by
  intro acc h
  obtain ⟨h1, h2⟩ := h
  refine ⟨acc.toList.map fun v => match v with | .str y u => (y, u) | _ => (Str.empty, 0), ?_, ?_⟩
  · unfold strValues
    rw [List.map_map]
    refine List.ext_getElem? fun i => ?_
    rw [List.getElem?_map]
    cases hq : acc.toList[i]? with
    | none => rfl
    | some v =>
      obtain ⟨c, u, _, rfl⟩ := h2 i v (by simpa using hq)
      rfl
  · refine List.ext_getElem? fun i => ?_
    rw [List.map_map, List.getElem?_map, List.getElem?_map]
    cases hq : acc.toList[i]? with
    | none =>
      have : acc.size ≤ i := by simpa using hq
      rw [List.getElem?_eq_none (by simpa [h1] using this)]
      rfl
    | some v =>
      obtain ⟨c, u, hc, rfl⟩ := h2 i v (by simpa using hq)
      rw [show x.cps.toList[i]? = some c from by simpa using hc]
      rfl
section
variable {prog : Program} {w : World} {A : Around} {E : Value → Shared → Prop} {s : Shared} {Q : Value → Shared → Prop}
theorem join_text {sep x : Str} {t u : Tok} (hh : A.handled = none) (hz : x.length ≤ 1000) (hs : sep.length ≤ 16)
    (hq : ∀ h' tk t', (∀ b o, s.heap.get? b = some o → h'.get? b = some o) → Q (.str (Txt.join sep (x.cps.toList.map fun c => (⟨#[c]⟩ : Str))) t') { s with heap := h', toks := tk }) :
    wpAny (model prog w) A (call (.builtin "str.join") [.str sep t, .str x u]) Q E s := by
  refine wpAny_call (codeAny_call_builtin F.slot_str_join.plain F.entry_str_join (F.slot_str_join.check _ _ _ _ _ _ _ _ (typeIs_str _ _ _) (F.args_str_join_2 _ _) ?_))
  rw [join_tree_str]
  refine wpAny_bind (wpAny_typeOf (typeIs_str _ _ _) ?_)
  show wpAny _ A.in1 ((pyIter (.str x u)).tryCatch _ >>= fun it => collect it >>= fun items => joinTail sep items) _ _ s
  refine wpAny_bind (wpAny_tryCatch (wpAny_pyIter_strU ?_))
  have hty : strIterType x = "str_ascii_iterator" ∨ strIterType x = "str_iterator" := by
    unfold strIterType; split
    · first | exact .inl rfl | exact .inr rfl
    · first | exact .inl rfl | exact .inr rfl
  refine wpAny_bind (wpAny_collect_strIter (ty := strIterType x) (x := x) (t := u) hh hty ⟨_, Heap.get?_push_size _ rfl, rfl, rfl⟩ (fun s' acc hk hg hd ho hacc => ?_) (by unfold sizeLine; show x.length ≤ _; omega))
  obtain ⟨l, hl, hl2⟩ := signs_of hacc
  rw [← hl]
  have hok : JoinOk sep (l.map (·.1)) = true := by
    refine joinOk_of_weight ?_ hs
    have key : ∀ cs : List Nat, ((cs.map fun c => (⟨#[c]⟩ : Str)).map (·.length)).sum = cs.length := by
      intro cs
      induction cs with
      | nil => rfl
      | cons c r ih =>
        rw [List.map_cons, List.map_cons, List.sum_cons, ih, List.length_cons]
        show 1 + _ = _
        omega
    rw [hl2, key, List.length_map]
    have : x.cps.toList.length = x.length := by simp [Str.length]
    omega
  have hok2 := hok
  unfold JoinOk at hok2
  rw [Bool.not_eq_true'] at hok2
  have g : Gives (joinTail sep (strValues l)) (joinMade sep l) := by
    have g0 := gives_joinTail sep l hok2
    cases l with
    | nil => exact g0
    | cons p r => cases r with
      | nil => exact g0
      | cons q r' => exact g0
  refine g prog w A (wants Q E) s' (post_join l ⟨joinFit_length hok2, fun t' k => ?_⟩)
  rw [hl2]
  have es : ({ s' with toks := k } : Shared) = { s with heap := s'.heap, toks := k } := by
    obtain ⟨a1, a2, a3, a4, a5⟩ := s'
    simp only at hg hd ho
    subst hg hd ho
    rfl
  rw [es]
  refine hq _ _ _ fun b o e => hk b o (fun q => ?_) (Heap.get?_push_of_some _ e)
  rw [q] at e
  exact Nat.lt_irrefl _ (Heap.lt_size e)
end
end Mine.MineJ
namespace Mine
section
variable {prog : Program} {w : World} {A : Around} {E : Value → Shared → Prop} {s : Shared}
theorem texts_eq {vs ws : List Value} {xs : List Str} (h1 : Txs vs xs) (h2 : Txs ws xs) (A : Around) (s : Shared) : ∀ j (l1 : j < vs.toArray.size) (l2 : j < ws.toArray.size), EqAt A s vs.toArray[j] ws.toArray[j] true := by
  intro j l1 l2
  have e1 : vs[j]? = some vs.toArray[j] := by simp
  have e2 : ws[j]? = some ws.toArray[j] := by simp
  obtain ⟨y, t, q1, hy⟩ := h1.at e1
  obtain ⟨z, u, q2, hz⟩ := h2.at e2
  rw [hy] at hz
  cases hz
  rw [q1, q2]
  have := EqAt.str_str (A := A) (s := s) y t y u
  rw [beq_self_eq_true] at this
  exact this
theorem all_true (n : Nat) : (List.range n).all (fun _ => true) = true := by rw [List.all_eq_true]; intros; rfl
theorem rc_texts {l b : Addr} {vs ws : List Value} {xs : List Str} (hl : s.heap.IsList l vs.toArray) (hb : s.heap.IsList b ws.toArray) (h1 : Txs vs xs) (h2 : Txs ws xs) (hu : A.units < cLine) : RcAt A s (.ref l) (.ref b) true := by
  have := RcAt.lists (e := fun _ => true) hl hb (by simp [h1.length, h2.length]) hu (texts_eq h1 h2 A.in1 s)
  rwa [all_true] at this
theorem rcne_texts {l b : Addr} {vs ws : List Value} {xs : List Str} (hl : s.heap.IsList l vs.toArray) (hb : s.heap.IsList b ws.toArray) (h1 : Txs vs xs) (h2 : Txs ws xs) (hu : A.units < cLine) : RcNeAt A s (.ref l) (.ref b) false := by
  have := RcNeAt.lists (e := fun _ => true) hl hb (by simp [h1.length, h2.length]) hu (texts_eq h1 h2 A.in1 s)
  rwa [all_true] at this
theorem eqat_texts {l b : Addr} {vs ws : List Value} {xs : List Str} (hl : s.heap.IsList l vs.toArray) (hb : s.heap.IsList b ws.toArray) (h1 : Txs vs xs) (h2 : Txs ws xs) (hu : A.units < cLine) : EqAt A s (.ref l) (.ref b) true := by
  by_cases e : l = b
  · subst e; exact EqAt.same _
  · exact EqAt.of_refs e (rc_texts hl hb h1 h2 hu)
theorem ne_pairs {p q a b c d : Addr} {n1 n2 : Nat} {Q : Value → Shared → Prop} (hp : s.heap.get? p = some { cls := .type "tuple", data := .seq #[.ref a, .ref b] n1 }) (hq : s.heap.get? q = some { cls := .type "tuple", data := .seq #[.ref c, .ref d] n2 })
    (hu : A.units < cLine) (h1 : EqAt A.in1 s (.ref a) (.ref c) true) (h2 : EqAt A.in1 s (.ref b) (.ref d) true) (h : Q (.bool false) s) :
    wpAny (model prog w) A (compareOp .NotEq (.ref p) (.ref q)) Q E s := by
  have := RcNeAt.tuples (A := A) (s := s) (l := p) (b := q) (items := #[.ref a, .ref b]) (items2 := #[.ref c, .ref d]) (e := fun _ => true) ⟨_, hp, rfl, _, rfl⟩ ⟨_, hq, rfl, _, rfl⟩ hu (fun j l1 l2 => by
    have hj : j = 0 ∨ j = 1 := by
      have : j < 2 := l1
      omega
    rcases hj with rfl | rfl
    · exact h1
    · exact h2)
  exact this prog w E Q h
end
end Mine
end
section
open PySem PySem.W PyProof.Rows PySem.Calls PySem.Spec
namespace Mine
theorem join_cons2 (sep z y : Str) (r : List Str) : Txt.join sep (z :: y :: r) = ⟨z.cps ++ sep.cps ++ (Txt.join sep (y :: r)).cps⟩ := by
  have key : ∀ (r : List Str) (a b : Array Nat), r.foldl (fun acc p => acc ++ sep.cps ++ p.cps) (a ++ b) = a ++ r.foldl (fun acc p => acc ++ sep.cps ++ p.cps) b := by
    intro r
    induction r with
    | nil => intro a b; rfl
    | cons x r ih =>
      intro a b
      rw [List.foldl_cons, List.foldl_cons, ← ih]
      simp [Array.append_assoc]
  show Str.mk (List.foldl _ (z.cps ++ sep.cps ++ y.cps) r) = Str.mk (z.cps ++ sep.cps ++ List.foldl _ y.cps r)
  rw [key]
theorem star_join : ∀ cs : List Nat, cs ≠ [] → (Str.ofString "*") ++ Txt.join ((Str.ofString "*")) (cs.map fun c => (⟨#[c]⟩ : Str)) ++ (Str.ofString "*") = ⟨(patL cs).toArray⟩ := by
  have e : (Str.ofString "*") = ⟨[42].toArray⟩ := by decide +kernel
  have key : ∀ (c : Nat) (r : List Nat), (Txt.join ((Str.ofString "*")) ((c :: r).map fun c => (⟨#[c]⟩ : Str))).cps ++ #[42] = ((c :: r).flatMap fun c => [c, 42]).toArray := by
    intro c r
    induction r generalizing c with
    | nil => rfl
    | cons d r ih =>
      rw [List.map_cons, List.map_cons, join_cons2]
      have := ih d
      rw [List.map_cons] at this
      show #[c] ++ Str.cps ((Str.ofString "*")) ++ _ ++ #[42] = _
      rw [Array.append_assoc, this, e]
      simp
  intro cs h
  cases cs with
  | nil => exact absurd rfl h
  | cons c r =>
    have := key c r
    show Str.mk (Str.cps ((Str.ofString "*")) ++ _ ++ Str.cps ((Str.ofString "*"))) = _
    rw [show Str.cps ((Str.ofString "*")) = #[42] from by rw [e], Array.append_assoc, this]
    simp [patL]
theorem itemS_eq {c : Nat} (h : c ∈ marks) : itemS c = ⟨([40, 63, 62, 46, 42, 63] ++ escL c ++ [41]).toArray⟩ := by
  simp only [marks, List.mem_cons, List.not_mem_nil, or_false] at h
  rcases h with rfl | rfl | rfl | rfl | rfl | rfl | rfl | rfl | rfl <;> decide +kernel
theorem transS_eq (sg : List Nat) (hcs : ∀ c ∈ sg, c ∈ marks) : transS sg = textS sg := by
  have key : ∀ sg : List Nat, (∀ c ∈ sg, c ∈ marks) → Txt.join ((Str.ofString "")) (sg.map itemS ++ [(Str.ofString ".*")]) = ⟨(bodyL sg ++ [46, 42]).toArray⟩ := by
    intro sg
    induction sg with
    | nil => intro _; decide +kernel
    | cons c r ih =>
      intro h
      rw [List.map_cons, List.cons_append, join_app, ih fun d hd => h d (List.mem_cons_of_mem _ hd), itemS_eq (h c List.mem_cons_self)]
      simp [bodyL]
  unfold transS textS
  rw [key sg hcs, show (Str.ofString "(?s:") = ⟨[40, 63, 115, 58].toArray⟩ from by decide +kernel, show (Str.ofString ")\\Z") = ⟨[41, 92, 90].toArray⟩ from by decide +kernel, mk_app, mk_app]
  simp
section
variable {prog : Program} {w : World} {A : Around} {E : Value → Shared → Prop} {s : Shared} {env : Env} {h₀ : Heap} {x : Str} {body : List Stmt} {Q : Flow → Shared → Prop}
/-- as iter_list, and the iterator stands apart -/
theorem iter_listX {σ : Type} {l : Addr} {vs : List Value} {m₀ : Str → Option Value} (G : σ → Str → Option Value) (Led : σ → List (Addr × Obj)) (P : Nat → σ → Prop) (c₀ : σ)
    (hh : A.handled = none) (hl : ListAt h₀ Led l vs) (F : Fr h₀ env.locals s.heap m₀) (hm : ∀ z, z ≠ x → m₀ z = G c₀ z) (N : News h₀ env.locals s.heap (Led c₀)) (hp : P 0 c₀)
    (hcls : ∀ c, ∀ p ∈ Led c, p.2.cls ≠ .type "list_iterator" ∨ ∀ us, p.2.data ≠ .fields us)
    (turn : ∀ i v c h tk (I : Addr) (it : Obj) (Q' : Flow → Shared → Prop), vs[i]? = some v → P i c → (∀ p ∈ Led c, p.1 ≠ I) →
      Fr h₀ env.locals h (fun y => if y = x then some v else G c y) → News h₀ env.locals h (Led c ++ [(I, it)]) →
      (∀ v s₂, Q (.ret v) s₂ → Q' (.ret v) s₂) → (∀ s₂, Q .next s₂ → Q' .brk s₂) →
      (∀ f c' h' tk' m' news', (f = .next ∨ f = .cont) → Fr h₀ env.locals h' m' → News h₀ env.locals h' news' → (∀ z, z ≠ x → m' z = G c' z) → (∀ p ∈ Led c', p ∈ news') → (I, it) ∈ news' → P (i + 1) c' →
        Q' f { s with heap := h', toks := tk' }) →
      wpAny (model prog w) A (execs body env) Q' E { s with heap := h, toks := tk })
    (done : ∀ c (u : Str → Option Value) h tk, P vs.length c → Fr h₀ env.locals h (fun y => if y = x then u y else G c y) → News h₀ env.locals h (Led c) → Q .next { s with heap := h, toks := tk }) :
    wpAny (model prog w) A (pyIter (.ref l)) (fun it s₂ => LoopAtV prog w A h₀ env x body Q E it s₂) E s := by
  have em : ∀ (c : σ) (m' : Str → Option Value) (v : Value), (∀ z, z ≠ x → m' z = G c z) → (fun y => if y = x then some v else m' y) = (fun y => if y = x then some v else G c y) := by
    intro c m' v h
    funext y
    by_cases hy : y = x
    · rw [if_pos hy, if_pos hy]
    · rw [if_neg hy, if_neg hy, h y hy]
  have hls : s.heap.IsList l vs.toArray := by
    rcases hl with hl | ⟨nn, hl⟩
    · exact hl.at fun o e => F.keep l o e
    · exact ⟨_, (N _ (hl c₀)).1, rfl, nn, rfl⟩
  obtain ⟨ol, hol, hrest⟩ := id hls
  have hne : l ≠ s.heap.objs.size := Nat.ne_of_lt (Heap.lt_size hol)
  have hnL : l ≠ env.locals := by
    rcases hl with hl | ⟨nn, hl⟩
    · obtain ⟨o2, ho2, _⟩ := hl
      exact Nat.ne_of_lt (Nat.lt_of_lt_of_le (Heap.lt_size ho2) F.above)
    · exact (N _ (hl c₀)).2.1
  refine wpAny_pyIter_list hls ?_
  have W := Walks.list (prog := prog) (w := w) hh s.heap.objs.size l hne vs.toArray
  have hlen : vs.toArray.size = vs.length := by simp
  rw [hlen] at W
  refine ⟨_, _, _, vs.length, _, _, m₀, Led c₀, (fun i m nx => ∃ c, nx = Led c ∧ (∀ z, z ≠ x → m z = G c z) ∧ P i c), rfl, W, ?_, ?_, ?_, ⟨⟨_, Heap.get?_push_size _ rfl, rfl, rfl⟩, hls.at fun o e => Heap.get?_push_of_some _ e⟩, F.push _, (fun p hp => ⟨Heap.get?_push_of_some _ (N p hp).1, (N p hp).2⟩), ⟨c₀, rfl, hm, hp⟩, ?_, ?_⟩
  · intro hm
    rcases List.mem_cons.mp hm with e | hm
    · exact absurd F.ns.lt (e ▸ Nat.lt_irrefl _)
    · exact hnL ((List.mem_singleton.mp hm).symm)
  · intro b hb
    rw [List.mem_singleton.mp hb]
    exact next_is_new F
  · intro p hp hI
    exact absurd (Heap.lt_size (N p hp).1) ((List.mem_singleton.mp hI) ▸ Nat.lt_irrefl _)
  · rintro i v m₁ news₁ s₁ own ⟨hh', tk', rfl⟩ hin hP ⟨c, rfl, hG, hPc⟩ hoff hown hget hfp hSt F₁ N₁
    have hvi : vs[i]? = some v := by simpa using hP
    have hit : hh'.IsListIter s.heap.objs.size l (i + 1) := hSt.1
    obtain ⟨it, hI, hIc, hId⟩ := id hit
    have hIn : (s.heap.objs.size, it) ∈ own := hfp _ (by simp) (next_is_new F) it hI
    rw [em c m₁ v hG] at F₁
    have N₂ : News h₀ env.locals hh' (Led c ++ [(s.heap.objs.size, it)]) := fun p hp => by
      rcases List.mem_append.mp hp with hp | hp
      · exact N₁ p (List.mem_append.mpr (.inr hp))
      · rw [List.mem_singleton.mp hp]; exact N₁ _ (List.mem_append.mpr (.inl hIn))
    refine turn i v c hh' tk' s.heap.objs.size it _ hvi hPc (fun p hp q => hoff p hp (q ▸ List.mem_singleton.mpr rfl)) F₁ N₂ (fun v s₂ q => .ret q) (fun s₂ q => .brk q) ?_
    rintro f c' h' tk₂ m' news' hf F' N' hG' hL' hI' hP'
    have step : LoopStepU h₀ env.locals [s.heap.objs.size] own (fun m nx => ∃ c, nx = Led c ∧ (∀ z, z ≠ x → m z = G c z) ∧ P (i + 1) c) { s with heap := hh', toks := tk' } .next { s with heap := h', toks := tk₂ } := by
      have hI2 := (N' _ hI').1
      refine ⟨rfl, h', tk₂, m', Led c', rfl, F', fun p hp => ?_, fun p hp hq => ?_, c', rfl, hG', hP'⟩
      · rcases List.mem_append.mp hp with hp | hp
        · rcases List.mem_cons.mp (hown p hp) with h1 | h1
          · have h2 := hget p hp
            have h3 : p = (s.heap.objs.size, it) := by
              obtain ⟨pa, po⟩ := p
              dsimp only at h1 h2
              subst h1
              rw [hI] at h2
              rw [Option.some.inj h2]
            rw [h3]; exact N' _ hI'
          · have h1 := List.mem_singleton.mp h1
            rcases hl with hl | ⟨nn, hl⟩
            · exfalso
              obtain ⟨o2, ho2, _⟩ := hl
              have h3 := (N₁ p (List.mem_append.mpr (.inl hp))).2.2
              rw [h1, ho2] at h3; cases h3
            · have h2 := hget p hp
              have h4 := (N₁ _ (List.mem_append.mpr (.inr (hl c)))).1
              have h3 : p = (l, listOf vs.toArray nn) := by
                obtain ⟨pa, po⟩ := p
                dsimp only at h1 h2 h4
                subst h1
                rw [h4] at h2
                rw [Option.some.inj h2]
              rw [h3]; exact N' _ (hL' _ (hl c'))
        · exact N' p (hL' p hp)
      · have h1 := List.mem_singleton.mp hq
        have h2 := (N' p (hL' p hp)).1
        rw [h1, hI2] at h2
        have h3 := Option.some.inj h2
        rcases hcls c' p hp with h4 | h4
        · exact h4 (by rw [← h3]; exact hIc)
        · exact h4 _ (by rw [← h3]; exact hId)
    rcases hf with rfl | rfl
    · exact .next step
    · exact .cont step
  · rintro h' tk m' news' F' N' _ ⟨c, rfl, hG, hPc⟩
    refine done c m' h' tk hPc ?_ N'
    have : (fun y => if y = x then m' y else G c y) = m' := by
      funext y
      by_cases hy : y = x
      · rw [if_pos hy]
      · rw [if_neg hy, hG y hy]
    rw [this]; exact F'
theorem for_it {iter : Expr} {px pos : Pos} (R : Addr → Shared → Prop)
    (hx : env.kindOf x = some .local) (hpc : (env.scope.kind == .class || (env.scope.kind == .module && env.locals != env.globals)) = false) (hE : PassesOwn (model prog w) A env E)
    (hit : wpAny (model prog w) A (eval iter env) (fun v s₁ => ∃ wl, v = .ref wl ∧ R wl s₁) E s)
    (hgo : ∀ wl s₁, R wl s₁ → wpAny (model prog w) A (pyIter (.ref wl)) (fun it s₂ => LoopAtV prog w A h₀ env x body Q E it s₂) E s₁)
    (hs : ∀ v, foldedSetIterable iter env v = pure v := by intro _; rfl) :
    wpAny (model prog w) A (exec (.For (.Name x px) iter body [] pos) env) Q E s := by
  refine For_invV h₀ hx hpc (wpAny_mono hit ?_ fun _ _ e => e) hs hE
  rintro v s₁ ⟨wl, rfl, hR⟩
  exact hgo wl s₁ hR
end
section
variable {M : Model} {A : Around} {E : Value → Shared → Prop} {s : Shared} {K : Frag} {h₀ : Heap} {L : Addr} {m mg mb : Str → Option Value} {p : Program} {loose : List Str} {x : Str} {pos : Pos} {v : Value} {Q : Value → Shared → Prop} {scope : Scope} {cl : List (Str × Addr)} {C : Addr} {env : Env}
theorem nameC_K (F : Fr h₀ L s.heap m) (X : K.In h₀) (T : TopRead p loose mg mb h₀) (e : nsIn K mainGlobals x = some (some v)) (h : Q v s) (hg : env.globals = mainGlobals := by rfl)
    (hk : (compEnvC scope cl C env).scope.kind = .function := by rfl) (hx : (compEnvC scope cl C env).kindOf x = some .globalImplicit := by rfl) (hd : (x == ("__debug__" : Str)) = false := by decide) :
    wpAny M A (eval (.Name x pos) (compEnvC scope cl C env)) Q E s := Name_function_global hk hx (loadGlobal_global (env := compEnvC scope cl C env) (show s.heap.Ns env.globals mg from hg ▸ T.g.keeps F.keep) (mg_of X T.g e) h) hd
end
/-- what the loop over the parts carries -/
structure LT where
  left : Addr
  nl : Nat
  lvs : List Value
  nt : Nat
  tvs : List Value
  fits : Option Value
  rest : Option Value
  osg : Obj
  vsg : Option Value
  dsg : osg.data = .cell vsg
noncomputable def mW (mz : Str → Option Value) (tl : Addr) (hf : Nat) (th : Tok) (c : LT) : Str → Option Value := fun y => if y = (Str.ofString "rest") then c.rest else if y = (Str.ofString "fits") then c.fits else if y = (Str.ofString "taking") then some (.ref tl) else if y = (Str.ofString "left") then some (.ref c.left) else if y = (Str.ofString "half") then some (.int (hf : Int) th) else mz y
theorem mW_keys {mz f : Str → Option Value} {tl : Addr} {hf : Nat} {th : Tok} {c : LT} (h1 : f ((Str.ofString "rest")) = c.rest) (h2 : f ((Str.ofString "fits")) = c.fits) (h3 : f ((Str.ofString "taking")) = some (.ref tl)) (h4 : f ((Str.ofString "left")) = some (.ref c.left)) (h5 : f ((Str.ofString "half")) = some (.int (hf : Int) th))
    (h7 : ∀ z, z ≠ (Str.ofString "rest") → z ≠ (Str.ofString "fits") → z ≠ (Str.ofString "taking") → z ≠ (Str.ofString "left") → z ≠ (Str.ofString "half") → z ≠ (Str.ofString "part") → f z = mz z) : ∀ z, z ≠ (Str.ofString "part") → f z = mW mz tl hf th c z := by
  intro z kp
  unfold mW
  by_cases k1 : z = (Str.ofString "rest")
  · subst k1; exact h1
  by_cases k2 : z = (Str.ofString "fits")
  · subst k2; rw [if_neg k1, if_pos rfl]; exact h2
  by_cases k3 : z = (Str.ofString "taking")
  · subst k3; rw [if_neg k1, if_neg k2, if_pos rfl]; exact h3
  by_cases k4 : z = (Str.ofString "left")
  · subst k4; rw [if_neg k1, if_neg k2, if_neg k3, if_pos rfl]; exact h4
  by_cases k5 : z = (Str.ofString "half")
  · subst k5; rw [if_neg k1, if_neg k2, if_neg k3, if_neg k4, if_pos rfl]; exact h5
  rw [if_neg k1, if_neg k2, if_neg k3, if_neg k4, if_neg k5]
  exact h7 z k1 k2 k3 k4 k5 kp
theorem mW_all {mz f : Str → Option Value} {tl : Addr} {hf : Nat} {th : Tok} {c : LT} (h8 : f ((Str.ofString "part")) = mz ((Str.ofString "part"))) (h1 : f ((Str.ofString "rest")) = c.rest) (h2 : f ((Str.ofString "fits")) = c.fits) (h3 : f ((Str.ofString "taking")) = some (.ref tl)) (h4 : f ((Str.ofString "left")) = some (.ref c.left)) (h5 : f ((Str.ofString "half")) = some (.int (hf : Int) th))
    (h7 : ∀ z, z ≠ (Str.ofString "rest") → z ≠ (Str.ofString "fits") → z ≠ (Str.ofString "taking") → z ≠ (Str.ofString "left") → z ≠ (Str.ofString "half") → z ≠ (Str.ofString "part") → f z = mz z) : ∀ z, f z = mW mz tl hf th c z := by
  intro z
  by_cases k : z = (Str.ofString "part")
  · subst k; rw [h8]; rfl
  · exact mW_keys h1 h2 h3 h4 h5 h7 z k
noncomputable def nW (tl wl Dp L0 : Addr) (pts pvs : List Value) (np ep : Nat) (o5 o4 ow op : Obj) (c : LT) : List (Addr × Obj) :=
  [(tl, listOf c.tvs.toArray c.nt), (c.left, listOf c.lvs.toArray c.nl), (wl, listOf pts.toArray np), (Dp, listOf pvs.toArray ep), (L0 + 1 + 1 + 1 + 1 + 1, o5), (L0 + 1 + 1 + 1 + 1, o4), (L0 + 1 + 1 + 1, c.osg), (L0 + 1 + 1, ow), (L0 + 1, op), (57, tabObj #[])]
noncomputable def PW (l : Ltr) (bs : List Bool) (hf : Nat) (as : List Addr) (i : Nat) (c : LT) : Prop :=
  Txs c.lvs ((leftB bs.length bs ((wordsB hf).take i)).map l.tx) ∧ Txs c.tvs ((((wordsB hf).take i).filter fun q => subB q bs).map l.tx) ∧ ∀ a ∈ as, Apart a c.left
theorem PW_start {l : Ltr} {bs : List Bool} {hf : Nat} {as : List Addr} {c : LT} (h1 : Txs c.lvs ((wordsB bs.length).map l.tx)) (h2 : c.tvs = []) (h3 : ∀ a ∈ as, Apart a c.left) : PW l bs hf as 0 c := by
  refine ⟨?_, ?_, h3⟩
  · rw [show leftB bs.length bs ((wordsB hf).take 0) = wordsB bs.length from List.filter_eq_self.mpr fun _ _ => rfl]
    exact h1
  · rw [h2]; exact .nil
theorem nW_cls {tl wl Dp L0 : Addr} {pts pvs : List Value} {np ep : Nat} {o5 o4 ow op : Obj} {v5 v4 vw vp : Option Value} (d5 : o5.data = .cell v5) (d4 : o4.data = .cell v4) (dw : ow.data = .cell vw) (dp : op.data = .cell vp) (c : LT) :
    ∀ p ∈ nW tl wl Dp L0 pts pvs np ep o5 o4 ow op c, p.2.cls ≠ .type "list_iterator" ∨ ∀ us, p.2.data ≠ .fields us := by
  have hl : (Value.type "list") ≠ .type "list_iterator" := by intro e; injection e with e; exact absurd e (by decide)
  have hc : ∀ {o : Obj} {v : Option Value}, o.data = .cell v → ∀ us, o.data ≠ .fields us := fun h us e => by rw [h] at e; cases e
  intro p hp
  simp only [nW, List.mem_cons, List.not_mem_nil, or_false] at hp
  rcases hp with rfl | rfl | rfl | rfl | rfl | rfl | rfl | rfl | rfl | rfl
  · exact .inl hl
  · exact .inl hl
  · exact .inl hl
  · exact .inl hl
  · exact .inr (hc d5)
  · exact .inr (hc d4)
  · exact .inr (hc c.dsg)
  · exact .inr (hc dw)
  · exact .inr (hc dp)
  · exact .inl (by intro e; injection e)
end Mine
end
section
open PySem PySem.W PyProof.Rows PySem.Calls PySem.Spec
open PySem.SeqAt
namespace Mine
theorem SpecX.go {w : World} {mean : ExcName → Option Value} {mg mb : Str → Option Value} {f : Addr} {args : List Value} {Pre : Heap → Prop} {Post : Heap → Heap → Value → Prop} (h : SpecX w mean mg mb f args Pre Post)
    {dp un : Nat} {gd : Option (List Code)} {cn : Str} {cs : Scope} {L a : Addr} {ccd : Value} {cl : List (Str × Addr)} {A₀ : Around} {h₀ : Heap} {m : Str → Option Value} {s : Shared} {Q E : Value → Shared → Prop}
    (B : Below A₀ h₀ [] h₀) (F : Fr h₀ L s.heap m) (X : (KK w.params).In h₀) (T : Top topProg LL mean mg mb h₀) (hk : cs.kind = .function) (hd : dp + 40 < recursionLimit) (hu : un + 200 < cLine) (hpre : Pre s.heap)
    (hret : ∀ r h' tk', Fr h₀ L h' m → (∀ news, News h₀ L s.heap news → News h₀ L h' news) → Post s.heap h' r → Q r { s with heap := h', toks := tk' }) :
    wpAny (model PySem.Challenge.rw_kt0017_01.row.prog w) (ktrTop dp un gd cn cs L a ccd cl []) (call (.ref f) args) Q E s :=
  h dp un gd cn cs L a ccd cl A₀ h₀ m s Q E B F X T hk hd hu hpre hret
theorem paired_eq {vs ys : List Value} (h : Paired (fun v y => y = v) vs ys) : ys = vs := by
  induction h with
  | nil => rfl
  | cons h _ ih => rw [h, ih]
theorem txs_filter {l : Ltr} {p : Value → Bool} {P : List Bool → Bool} : ∀ {vs : List Value} {bs : List (List Bool)}, Txs vs (bs.map l.tx) → (∀ b t, b ∈ bs → p (.str (l.tx b) t) = P b) → Txs (vs.filter p) ((bs.filter P).map l.tx)
  | _, [], h, _ => by cases h; exact .nil
  | _, b :: bs, h, hp => by
    rw [List.map_cons] at h
    cases h with
    | @cons _ t _ _ h =>
      have ih := txs_filter h fun b t hb => hp b t (List.mem_cons_of_mem _ hb)
      have e := hp b t List.mem_cons_self
      cases hb : P b with
      | true => rw [List.filter_cons_of_pos (by rw [e, hb]), List.filter_cons_of_pos hb]; exact .cons ih
      | false => rw [List.filter_cons_of_neg (by rw [e, hb]; simp), List.filter_cons_of_neg (by rw [hb]; simp)]; exact ih
theorem cps_beq (l : Ltr) (x y : List Bool) : ((l.tx x).cps.toList == (l.tx y).cps.toList) = (x == y) := by
  by_cases h : x = y
  · subst h; simp
  · rw [beq_false_of_ne h]
    refine beq_false_of_ne fun e => h (l.tx_inj ?_)
    have : (l.tx x).cps = (l.tx y).cps := by simpa using e
    show Str.mk (l.tx x).cps = Str.mk (l.tx y).cps
    rw [this]
theorem hasV_tx {l : Ltr} {b : List Bool} {t : Tok} : ∀ {vs : List Value} {bs : List (List Bool)}, Txs vs (bs.map l.tx) → hasV vs (.str (l.tx b) t) = bs.contains b
  | _, [], h => by cases h; simp [hasV]
  | _, c :: bs, h => by
    rw [List.map_cons] at h
    cases h with
    | cons h =>
      have ih := hasV_tx (b := b) (t := t) h
      unfold hasV at ih ⊢
      simp only [List.any_toArray, List.any_cons, List.contains_cons] at ih ⊢
      rw [ih, cps_beq, Bool.beq_comm (a := c)] <;> rfl
theorem in_texts {prog : Program} {w : World} {A : Around} {E : Value → Shared → Prop} {s : Shared} {l : Ltr} {a : Addr} {b : List Bool} {t : Tok} {vs : List Value} {bs : List (List Bool)} {Q : Value → Shared → Prop}
    (hl : s.heap.IsList a vs.toArray) (hv : Txs vs (bs.map l.tx)) (h : Q (.bool (bs.contains b)) s) : wpAny (model prog w) A (compareOp .In (.str (l.tx b) t) (.ref a)) Q E s := by
  refine in_listAt (fun v => match v with | .str y _ => y == l.tx b | _ => false) hl (fun y hy => ?_) ?_
  · obtain ⟨i, hi⟩ := List.mem_iff_getElem?.mp (by simpa using hy)
    obtain ⟨z, u, rfl, _⟩ := hv.at hi
    exact EqAt.str_str z u (l.tx b) t
  · have e : ∀ {vs : List Value} {bs : List (List Bool)}, Txs vs (bs.map l.tx) → vs.toArray.any (fun v => match v with | .str y _ => y == l.tx b | _ => false) = bs.contains b := by
      intro vs bs
      induction bs generalizing vs with
      | nil => intro h; cases h; simp
      | cons c bs ih =>
        intro h
        rw [List.map_cons] at h
        cases h with
        | cons h =>
          have := ih h
          simp only [List.any_toArray, List.any_cons, List.contains_cons] at this ⊢
          rw [this]
          congr 1
          by_cases hc : c = b
          · subst hc; simp
          · rw [beq_false_of_ne fun e => hc (l.tx_inj e), beq_false_of_ne fun e => hc e.symm]
    rw [e hv]; exact h
theorem leftB_succ (n : Nat) (w q : List Bool) (qs : List (List Bool)) : leftB n w (qs ++ [q]) = (leftB n w qs).filter fun x => subB q x == subB q w := by
  unfold leftB
  rw [List.filter_filter]
  refine List.filter_congr fun x _ => ?_
  simp [Bool.and_comm]
theorem mem_leftB {bs : List Bool} {qs : List (List Bool)} : bs ∈ leftB bs.length bs qs := List.mem_filter.mpr ⟨mem_wordsB _ _ rfl, List.all_eq_true.mpr fun _ _ => beq_self_eq_true _⟩
theorem leftB_len {n : Nat} {w : List Bool} {qs : List (List Bool)} (hn : n ≤ 5) : (leftB n w qs).length ≤ 32 := by
  have h1 : (leftB n w qs).length ≤ (wordsB n).length := List.length_filter_le _ _
  rw [count_wordsB] at h1
  have : 2 ^ n ≤ 2 ^ 5 := Nat.pow_le_pow_right (by omega) hn
  omega
theorem contains_filter {bs : List (List Bool)} {b : List Bool} {P : List Bool → Bool} (h : b ∈ bs) : (bs.filter P).contains b = P b := by
  cases hp : P b with
  | true => exact List.contains_iff_mem.mpr (List.mem_filter.mpr ⟨h, hp⟩)
  | false =>
    rw [← Bool.not_eq_true]
    intro e
    have := (List.mem_filter.mp (List.contains_iff_mem.mp e)).2
    rw [hp] at this; cases this
theorem take_next {hf i : Nat} {q : List Bool} (hq : (wordsB hf)[i]? = some q) : (wordsB hf).take (i + 1) = (wordsB hf).take i ++ [q] := by rw [List.take_add_one, hq]; rfl
theorem left_true {n hf i : Nat} {w q : List Bool} (hq : (wordsB hf)[i]? = some q) (hw : subB q w = true) : leftB n w ((wordsB hf).take (i + 1)) = (leftB n w ((wordsB hf).take i)).filter (subB q) := by
  rw [take_next hq, leftB_succ]
  refine List.filter_congr fun x _ => ?_
  rw [hw]; simp
theorem left_false {n hf i : Nat} {w q : List Bool} (hq : (wordsB hf)[i]? = some q) (hw : subB q w = false) : leftB n w ((wordsB hf).take (i + 1)) = (leftB n w ((wordsB hf).take i)).filter (fun x => !subB q x) := by
  rw [take_next hq, leftB_succ]
  refine List.filter_congr fun x _ => ?_
  rw [hw]; simp
theorem taking_next {hf i : Nat} {w q : List Bool} (hq : (wordsB hf)[i]? = some q) : ((wordsB hf).take (i + 1)).filter (fun q => subB q w) = ((wordsB hf).take i).filter (fun q => subB q w) ++ (if subB q w then [q] else []) := by
  rw [take_next hq, List.filter_append]
  congr 1
  cases h : subB q w <;> simp [h]
theorem left_nodup (l : Ltr) {n : Nat} (hn : n ≤ 5) (w : List Bool) (qs : List (List Bool)) : ((leftB n w qs).map l.tx).Nodup := (l.left_order hn w qs).imp fun h => ltS_ne h
theorem contains_tx (l : Ltr) (bs : List (List Bool)) (b : List Bool) : (bs.map l.tx).contains (l.tx b) = bs.contains b := by
  induction bs with
  | nil => rfl
  | cons c r ih =>
    rw [List.map_cons, List.contains_cons, List.contains_cons, ih]
    congr 1
    by_cases h : b = c
    · subst h; simp
    · rw [beq_false_of_ne h, beq_false_of_ne fun e => h (l.tx_inj e)]
theorem sld_two (l : Ltr) {lB : List (List Bool)} (ho : (lB.map l.tx).Pairwise (fun a b => ltS a b = true)) (P : List Bool → Bool) :
    sldF (lB.map l.tx) ((lB.filter fun b => !P b).map l.tx) = ((lB.filter P).map l.tx, []) ∧ sldF ((lB.filter P).map l.tx) (lB.map l.tx) = ([], (lB.filter fun b => !P b).map l.tx) := by
  have e : ∀ b ∈ lB, ((lB.filter P).map l.tx).contains (l.tx b) = P b := fun b hb => by rw [contains_tx, contains_filter hb]
  have e1 : (lB.map l.tx).filter (fun x => ((lB.filter P).map l.tx).contains x) = (lB.filter P).map l.tx := by
    rw [List.filter_map]
    congr 1
    exact List.filter_congr fun b hb => e b hb
  have e2 : (lB.map l.tx).filter (fun x => !((lB.filter P).map l.tx).contains x) = (lB.filter fun b => !P b).map l.tx := by
    rw [List.filter_map]
    congr 1
    refine List.filter_congr fun b hb => ?_
    show (!((lB.filter P).map l.tx).contains (l.tx b)) = _
    rw [e b hb]
  have h1 := (sld_left (p := fun x => !((lB.filter P).map l.tx).contains x) ho).1
  have h2 := (sld_left (p := fun x => ((lB.filter P).map l.tx).contains x) ho).2
  simp only [Bool.not_not] at h1
  rw [e1, e2] at h1 h2
  exact ⟨h1, h2⟩
end Mine
end
section
open PySem PySem.W PyProof.Rows PySem.Calls PySem.Spec
namespace Mine
section
variable {prog : Program} {w : World} {A : Around} {E : Value → Shared → Prop} {s : Shared} {env : Env} {h₀ : Heap} {L : Addr} {x : Str} {px : Pos} {body : List Stmt} {Q : Flow → Shared → Prop}
/-- a loop over a range whose name lives in a cell -/
theorem loop_cell {σ : Type} {r cA : Addr} {t₀ u₀ v₀ : Tok} {n : Nat} (G : σ → Str → Option Value) (Led : σ → List (Addr × Obj)) (P : Nat → σ → Prop) (c₀ : σ) {oc₀ : Obj} {w₀ : Option Value}
    (hh : A.handled = none) (hr : IsRange s.heap r 0 (n : Int) 1 t₀ u₀ v₀) (hsmall : Builtin.Range.small 0 (n : Int) 1 = true) (hn : Builtin.Range.rangeSize 0 (n : Int) 1 = (n : Int)) (hL : env.locals = L)
    (hk : env.scope.kind = .function) (hx : env.kindOf x = some .cell) (hc : env.cells.lookup x = some cA) (hE : PassesOwn (model prog w) A env E)
    (F : Fr h₀ L s.heap (G c₀)) (d₀ : oc₀.data = .cell w₀) (N : News h₀ L s.heap ((cA, oc₀) :: Led c₀)) (hp : P 0 c₀) (hoff : ∀ c, ∀ p ∈ Led c, p.1 ≠ cA)
    (hcls : ∀ c, ∀ p ∈ Led c, p.2.cls ≠ .type "range_iterator" ∨ ∀ us, p.2.data ≠ .fields us)
    (turn : ∀ i c h tk t oc (I : Addr) (it : Obj) (Q' : Flow → Shared → Prop), i < n → P i c → oc.data = .cell (some (.int (i : Int) t)) → cA ≠ I → (∀ p ∈ Led c, p.1 ≠ I) → Fr h₀ L h (G c) → News h₀ L h ((cA, oc) :: (Led c ++ [(I, it)])) →
      (∀ v s₂, Q (.ret v) s₂ → Q' (.ret v) s₂) → (∀ s₂, Q .next s₂ → Q' .brk s₂) →
      (∀ f c' h' tk' m' news', (f = .next ∨ f = .cont) → Fr h₀ L h' m' → News h₀ L h' news' → (∀ z, m' z = G c' z) → (cA, oc) ∈ news' → (∀ p ∈ Led c', p ∈ news') → (I, it) ∈ news' → P (i + 1) c' → Q' f { s with heap := h', toks := tk' }) →
      wpAny (model prog w) A (execs body env) Q' E { s with heap := h, toks := tk })
    (done : ∀ c h tk oc v, P n c → oc.data = .cell v → Fr h₀ L h (G c) → News h₀ L h ((cA, oc) :: Led c) → Q .next { s with heap := h, toks := tk }) :
    wpAny (model prog w) A (pyIter (.ref r)) (fun it s₂ => codeAny (model prog w) A (.forLoop (.Name x px) it body [] env) (fun res s' => match res with | .ok f => Q f s' | .error e => cameBackBy (model prog w) A env E e s') s₂) E s := by
  subst hL
  refine wpAny_pyIter_range hr hsmall ?_
  have W := Walks.range (prog := prog) (w := w) hh s.heap.objs.size 0 1 n
  have hI0 : h₀.get? s.heap.objs.size = none ∧ s.heap.objs.size ≠ env.locals := by
    refine ⟨?_, Nat.ne_of_gt F.ns.lt⟩
    exact next_is_new F
  have hEn : ∀ {α : Type} {t : Sem α} {Q₁ : α → Shared → Prop} {s₁ : Shared}, wpAny (model prog w) A t Q₁ E s₁ → wpAny (model prog w) A t Q₁ (notedBy (model prog w) A env fun e s' => cameBackBy (model prog w) A env E e s') s₁ := fun h => wpAny_passesOwn hE h
  have hw : ∀ b ∈ [s.heap.objs.size], h₀.get? b = none ∧ b ≠ env.locals := fun b hb => by rw [List.mem_singleton.mp hb]; exact hI0
  refine codeAny_forLoop (fun k s' => ∃ i c h tk oc v, k = n - i ∧ i ≤ n ∧ s' = { s with heap := h, toks := tk } ∧ oc.data = .cell v ∧ Fr h₀ env.locals h (G c) ∧ News h₀ env.locals h ((cA, oc) :: Led c) ∧ (∀ p ∈ (cA, oc) :: Led c, p.1 ≠ s.heap.objs.size) ∧
    IsRangeIter h s.heap.objs.size ((0 : Int) + (i : Int) * 1) ((n : Int) - (i : Int)) 1 ∧ P i c) ?turn n ⟨0, c₀, _, _, oc₀, w₀, rfl, Nat.zero_le _, rfl, d₀, F.push _, (fun p hp => ⟨Heap.get?_push_of_some _ (N p hp).1, (N p hp).2⟩), (fun p hp => Nat.ne_of_lt (Heap.lt_size (N p hp).1)), ?st0, hp⟩
  case st0 =>
    show IsRangeIter _ _ _ _ _
    rw [hn]; simpa using Heap.get?_push_size _ rfl
  case turn =>
    rintro k s' ⟨i, c, h, tk, oc, v, rfl, hi, rfl, dv, F1, N1, off1, hst, hP⟩
    have hw2 : ∀ b ∈ [s.heap.objs.size], ∀ q ∈ (cA, oc) :: Led c, q.1 ≠ b := fun b hb q hq => by rw [List.mem_singleton.mp hb]; exact off1 q hq
    by_cases hlt : i < n
    · refine hEn (W.item i _ _ _ hlt hst fun u h1 tk1 hPu hst1 hk1 => ?_)
      obtain ⟨t, rfl⟩ := hPu
      have F2 := Fr.off F1 hw hk1
      have N2 := News.off N1 hw2 hk1
      have hm := N2 _ List.mem_cons_self
      refine hEn (wpAny_assign_Name (wpAny_storeName_cell hk hx hc ⟨oc, hm.1, dv⟩ fun h2 hv2 hs2 => ?_))
      obtain ⟨oc2, ho2, hd2⟩ := hv2
      have hcI : cA ≠ s.heap.objs.size := off1 _ List.mem_cons_self
      have F3 : Fr h₀ env.locals h2 (G c) := ⟨F2.ns.sameBut hs2 (Ne.symm hm.2.1), fun b ob e => (hs2.2 b (fun q => by rw [q, hm.2.2] at e; cases e)).trans (F2.keep b ob e), F2.above⟩
      obtain ⟨it, hI, hIc, hId⟩ : ∃ it, h1.get? s.heap.objs.size = some it ∧ it.cls = .type "range_iterator" ∧ it.data = .fields #[rawInt ((0 : Int) + ((i + 1 : Nat) : Int) * 1), rawInt ((n : Int) - ((i + 1 : Nat) : Int)), rawInt 1] := ⟨_, hst1, rfl, rfl⟩
      have hI2 : h2.get? s.heap.objs.size = some it := (hs2.2 _ (Ne.symm hcI)).trans hI
      have N3 : News h₀ env.locals h2 ((cA, oc2) :: (Led c ++ [(s.heap.objs.size, it)])) := by
        intro p hp
        rcases List.mem_cons.mp hp with rfl | hp
        · exact ⟨ho2, hm.2⟩
        · rcases List.mem_append.mp hp with hp | hp
          · have z := N2 p (List.mem_cons_of_mem _ hp)
            exact ⟨(hs2.2 _ (hoff c p hp)).trans z.1, z.2⟩
          · rw [List.mem_singleton.mp hp]
            exact ⟨hI2, hI0.2, hI0.1⟩
      have e1 : (0 : Int) + (i : Int) * 1 = (i : Int) := by omega
      rw [e1] at hd2
      refine hEn (turn i c h2 tk1 t oc2 s.heap.objs.size it _ hlt hP hd2 hcI (fun p hp => off1 p (List.mem_cons_of_mem _ hp)) F3 N3 (fun v s₂ q => q) (fun s₂ q => q) ?_)
      rintro f c' h' tk' m' news' hf F4 N4 hG hc4 hL4 hI4 hP4
      have em : m' = G c' := funext hG
      subst em
      have hIn := (N4 _ hI4).1
      have fin : ∃ m, m < n - i ∧ ∃ i c h tk oc v, m = n - i ∧ i ≤ n ∧ ({ s with heap := h', toks := tk' } : Shared) = { s with heap := h, toks := tk } ∧ oc.data = .cell v ∧ Fr h₀ env.locals h (G c) ∧ News h₀ env.locals h ((cA, oc) :: Led c) ∧ (∀ p ∈ (cA, oc) :: Led c, p.1 ≠ s.heap.objs.size) ∧
          IsRangeIter h s.heap.objs.size ((0 : Int) + (i : Int) * 1) ((n : Int) - (i : Int)) 1 ∧ P i c := by
        refine ⟨n - (i + 1), by omega, i + 1, c', h', tk', oc2, _, rfl, hlt, rfl, hd2, F4, ?_, ?_, ?_, hP4⟩
        · intro p hp
          rcases List.mem_cons.mp hp with rfl | hp
          · exact N4 _ hc4
          · exact N4 p (hL4 p hp)
        · intro p hp
          rcases List.mem_cons.mp hp with rfl | hp
          · exact hcI
          · intro hq
            have h2 := (N4 p (hL4 p hp)).1
            rw [hq, hIn] at h2
            have h3 := Option.some.inj h2
            rcases hcls c' p hp with h4 | h4
            · exact h4 (by rw [← h3]; exact hIc)
            · exact h4 _ (by rw [← h3]; exact hId)
        · have e2 : h'.get? s.heap.objs.size = h1.get? s.heap.objs.size := hIn.trans hI.symm
          unfold IsRangeIter at hst1 ⊢
          rw [e2]
          exact hst1
      rcases hf with rfl | rfl
      · exact fin
      · exact fin
    · have hie : i = n := by omega
      subst hie
      refine hEn (W.done _ _ _ hst fun h1 tk1 hk1 => ?_)
      refine wpAny_execs_nil (done c h1 tk1 oc v hP dv (Fr.off F1 hw hk1) (News.off N1 hw2 hk1))
theorem for_cell {iter : Expr} {pos : Pos} (R : Addr → Shared → Prop)
    (hit : wpAny (model prog w) A (eval iter env) (fun v s₁ => ∃ r, v = .ref r ∧ R r s₁) E s)
    (hgo : ∀ r s₁, R r s₁ → wpAny (model prog w) A (pyIter (.ref r)) (fun it s₂ => codeAny (model prog w) A (.forLoop (.Name x px) it body [] env) (fun res s' => match res with | .ok f => Q f s' | .error e => cameBackBy (model prog w) A env E e s') s₂) E s₁)
    (hs : ∀ v, foldedSetIterable iter env v = pure v := by intro _; rfl) :
    wpAny (model prog w) A (exec (.For (.Name x px) iter body [] pos) env) Q E s := by
  refine wpAny_For (wpAny_mono hit (fun v s₁ hR => ?_) fun _ _ e => e) hs
  obtain ⟨r, rfl, hR⟩ := hR
  exact hgo r s₁ hR
end
section
variable {prog : Program} {w : World} {A : Around} {E : Value → Shared → Prop} {env : Env} {h₀ : Heap} {L : Addr}
theorem comp_rng {s : Shared} {elt iter : Expr} {x : Str} {px : Pos} {ifs : List Expr} {scope : Scope} {cl : List (Str × Addr)} {pos : Pos} {Q : Value → Shared → Prop} {n : Nat} (p : Value → Bool) (G : Value → Value → Prop) (R : Addr → Shared → Prop)
    (hclos : closureFor scope env = pure cl) (hcell : ∀ y ∈ scope.names, y.2 ≠ .cell) (hkind : scope.kind = .function)
    (hnames : ∀ y ∈ scope.names, y.2 = .local → scope.names.lookup y.1 = some .local) (hx : scope.names.lookup x = some .local) (hh : A.handled = none)
    (hsmall : Builtin.Range.small 0 (n : Int) 1 = true) (hn : Builtin.Range.rangeSize 0 (n : Int) 1 = (n : Int)) (hz : n ≤ sizeLine)
    (hit : wpAny (model prog w) A (eval iter env) (fun xv s₁ => ∃ r, xv = .ref r ∧ R r s₁) E s)
    (hgo : ∀ r s₁, R r s₁ → ∃ (m : Str → Option Value) (news : List (Addr × Obj)) (t₀ u₀ v₀ : Tok), Fr h₀ L s₁.heap m ∧ News h₀ L s₁.heap news ∧ IsRange s₁.heap r 0 (n : Int) 1 t₀ u₀ v₀ ∧
      (∀ C (i : Nat) t s₃ m₃ E', i < n → s₃.heap.Ns C m₃ → m₃ x = some (.int (i : Int) t) → Fr h₀ L s₃.heap m → News h₀ L s₃.heap news → testsOf prog w A env scope cl ifs C (p (.int (i : Int) t)) E' s₃) ∧
      (∀ C (i : Nat) t s₃ m₃ E', i < n → p (.int (i : Int) t) = true → s₃.heap.Ns C m₃ → m₃ x = some (.int (i : Int) t) → Fr h₀ L s₃.heap m → News h₀ L s₃.heap news → wpAny (model prog w) A (eval elt (compEnvC scope cl C env)) (fun y s₄ => G (.int (i : Int) t) y ∧ Keeps s₃ s₄) E' s₃) ∧
      (∀ D nn h' tk (ys vs : List Value), vs.length = n → (∀ (j : Nat) v, vs[j]? = some v → ∃ t, v = .int (j : Int) t) → Fr h₀ L h' m → News h₀ L h' ((D, listOf ys.toArray nn) :: news) → (∀ q ∈ news, Apart q.1 D) → Paired G (vs.filter p) ys → Q (.ref D) { s₁ with heap := h', toks := tk }))
    (hs : ∀ x, foldedSetIterable iter env x = pure x := by intro _; rfl) :
    wpAny (model prog w) A (eval (.ListComp elt [⟨.Name x px, iter, ifs, 0⟩] scope pos) env) Q E s := by
  refine wpAny_ListComp_free p G hclos hcell hkind hnames hx (wpAny_mono hit (fun xv s₁ hR => ?_) fun _ _ e => e) hs
  obtain ⟨r, rfl, hR⟩ := hR
  obtain ⟨m, news, t₀, u₀, v₀, F, N, hr, tests, elts, fin⟩ := hgo r s₁ hR
  refine wpAny_pyIter_range hr hsmall ?_
  have hI0 : h₀.get? s₁.heap.objs.size = none := by
    cases e : h₀.get? s₁.heap.objs.size with
    | none => rfl
    | some o' => exact absurd (Heap.lt_size (F.keep _ _ e)) (Nat.lt_irrefl _)
  have W : Walks prog w A s₁.heap.objs.size [s₁.heap.objs.size] [s₁.heap.objs.size] n (fun i v => i < n ∧ ∃ t, v = .int ((0 : Int) + (i : Int) * 1) t) (fun i h => IsRangeIter h s₁.heap.objs.size ((0 : Int) + (i : Int) * 1) ((n : Int) - (i : Int)) 1) := (Walks.range hh s₁.heap.objs.size 0 1 n).bound
  have e0 : ∀ i : Nat, (0 : Int) + (i : Int) * 1 = (i : Int) := fun i => by omega
  refine comp_core W hz ?_ ?_ (Fr.push F _) (fun q hq => ⟨Heap.get?_push_of_some _ (N q hq).1, (N q hq).2⟩) ?_ ?_ ?_ ?_ ?_
  · show IsRangeIter _ _ _ _ _
    rw [hn]; simpa using Heap.get?_push_size _ rfl
  · intro b hb
    rw [List.mem_singleton.mp hb, Heap.size_push]
    exact Nat.lt_succ_self _
  · intro b hb
    rw [List.mem_singleton.mp hb]
    exact ⟨hI0, Nat.ne_of_gt F.ns.lt⟩
  · intro b hb q hq
    rw [List.mem_singleton.mp hb]
    exact Nat.ne_of_lt (Heap.lt_size (N q hq).1)
  · rintro C i v s₃ m₃ E' ⟨hi, t, rfl⟩ hns hm F3 N3
    rw [e0] at hm ⊢
    exact tests C i t s₃ m₃ E' hi hns hm F3 N3
  · rintro C i v s₃ m₃ E' ⟨hi, t, rfl⟩ hp hns hm F3 N3
    rw [e0] at hm hp ⊢
    exact elts C i t s₃ m₃ E' hi hp hns hm F3 N3
  · intro D nn h' tk ys vs' hlen hP F' N' off hG
    refine fin D nn h' tk ys vs' hlen (fun j v hv => ?_) F' N' off hG
    obtain ⟨_, t, rfl⟩ := hP j v hv
    exact ⟨t, by rw [e0]⟩
end
noncomputable def mR (mo : Str → Option Value) (tl lf : Addr) (hf : Nat) (th : Tok) (k : Option Value) : Str → Option Value := fun y => if y = (Str.ofString "kept") then k else if y = (Str.ofString "taking") then some (.ref tl) else if y = (Str.ofString "left") then some (.ref lf) else if y = (Str.ofString "half") then some (.int (hf : Int) th) else mo y
theorem mR_keys {mo f : Str → Option Value} {tl lf : Addr} {hf : Nat} {th : Tok} {k : Option Value} (h0 : f ((Str.ofString "kept")) = k) (h1 : f ((Str.ofString "taking")) = some (.ref tl)) (h2 : f ((Str.ofString "left")) = some (.ref lf)) (h3 : f ((Str.ofString "half")) = some (.int (hf : Int) th))
    (h7 : ∀ z, z ≠ (Str.ofString "kept") → z ≠ (Str.ofString "taking") → z ≠ (Str.ofString "left") → z ≠ (Str.ofString "half") → f z = mo z) : ∀ z, f z = mR mo tl lf hf th k z := by
  intro z
  unfold mR
  by_cases k0 : z = (Str.ofString "kept")
  · subst k0; rw [if_pos rfl]; exact h0
  by_cases k1 : z = (Str.ofString "taking")
  · subst k1; rw [if_neg k0, if_pos rfl]; exact h1
  by_cases k2 : z = (Str.ofString "left")
  · subst k2; rw [if_neg k0, if_neg k1, if_pos rfl]; exact h2
  by_cases k3 : z = (Str.ofString "half")
  · subst k3; rw [if_neg k0, if_neg k1, if_neg k2, if_pos rfl]; exact h3
  rw [if_neg k0, if_neg k1, if_neg k2, if_neg k3]
  exact h7 z k0 k1 k2 k3
/-- what the loop over the numbers carries -/
structure NT where
  svs : List Value
  ns : Nat
  kept : Option Value
noncomputable def nR (sl tl lf Dp L0 : Addr) (tvs lvs pvs : List Value) (nt nl ep : Nat) (o4 o3 ow op : Obj) (c : NT) : List (Addr × Obj) :=
  [(sl, listOf c.svs.toArray c.ns), (tl, listOf tvs.toArray nt), (lf, listOf lvs.toArray nl), (Dp, listOf pvs.toArray ep), (L0 + 1 + 1 + 1 + 1, o4), (L0 + 1 + 1 + 1, o3), (L0 + 1 + 1, ow), (L0 + 1, op), (57, tabObj #[])]
theorem nR_cls {sl tl lf Dp L0 : Addr} {tvs lvs pvs : List Value} {nt nl ep : Nat} {o4 o3 ow op : Obj} {v4 v3 vw vp : Option Value} (d4 : o4.data = .cell v4) (d3 : o3.data = .cell v3) (dw : ow.data = .cell vw) (dp : op.data = .cell vp) (c : NT) :
    ∀ p ∈ nR sl tl lf Dp L0 tvs lvs pvs nt nl ep o4 o3 ow op c, p.2.cls ≠ .type "range_iterator" ∨ ∀ us, p.2.data ≠ .fields us := by
  have hl : (Value.type "list") ≠ .type "range_iterator" := by intro e; injection e with e; exact absurd e (by decide)
  have hc : ∀ {o : Obj} {v : Option Value}, o.data = .cell v → ∀ us, o.data ≠ .fields us := fun h us e => by rw [h] at e; cases e
  intro p hp
  simp only [nR, List.mem_cons, List.not_mem_nil, or_false] at hp
  rcases hp with rfl | rfl | rfl | rfl | rfl | rfl | rfl | rfl | rfl
  · exact .inl hl
  · exact .inl hl
  · exact .inl hl
  · exact .inl hl
  · exact .inr (hc d4)
  · exact .inr (hc d3)
  · exact .inr (hc dw)
  · exact .inr (hc dp)
  · exact .inl (by intro e; injection e)
theorem paired_split {α β : Type} {F : α → β → Prop} : ∀ {a b : List α} {ys : List β}, Paired F (a ++ b) ys → ∃ y1 y2, ys = y1 ++ y2 ∧ Paired F a y1 ∧ Paired F b y2
  | [], _, ys, h => ⟨[], ys, rfl, .nil, h⟩
  | x :: a, b, _, h => by
    rw [List.cons_append] at h
    cases h with
    | cons h1 h2 =>
      obtain ⟨y1, y2, rfl, k1, k2⟩ := paired_split h2
      exact ⟨_ :: y1, y2, rfl, .cons h1 k1, k2⟩
/-- the kept letters of a number, in values -/
noncomputable def bitV (k : Nat) : Value → Bool
  | .int i _ => ((k : Int) / 2 ^ i.toNat) % 2 == 1
  | _ => false
noncomputable def keptG (l : Ltr) (bs : List Bool) (v y : Value) : Prop := ∃ (k : Nat) (t u : Tok), v = .int (k : Int) t ∧ y = .str (l.tx [bs.getD k false]) u
theorem kept_txs {l : Ltr} {bs : List Bool} {k : Nat} {vs ys : List Value} (hlen : vs.length = bs.length) (hv : ∀ (j : Nat) v, vs[j]? = some v → ∃ t, v = .int (j : Int) t) (h : Paired (keptG l bs) (vs.filter (bitV k)) ys) : Txs ys ((keptB bs k).map fun b => l.tx [b]) := by
  have e1 : ∀ (n : Nat) (vs : List Value), vs.length = n → (∀ (j : Nat) v, vs[j]? = some v → ∃ t, v = .int (j : Int) t) → ∀ ys, Paired (keptG l bs) (vs.filter (bitV k)) ys → Txs ys ((((List.range n).filter fun i => k / 2 ^ i % 2 == 1).map fun i => bs.getD i false).map fun b => l.tx [b]) := by
    intro n
    induction n with
    | zero =>
      intro vs hl _ ys h
      rw [List.length_eq_zero_iff.mp hl] at h
      cases h
      exact .nil
    | succ n ih =>
      intro vs hl hv ys h
      rcases List.eq_nil_or_concat vs with rfl | ⟨a, b, rfl⟩
      · simp at hl
      · rw [List.concat_eq_append] at hl hv h
        have ha : a.length = n := by simpa using hl
        obtain ⟨t, rfl⟩ := hv n b (by rw [List.getElem?_append_right (by omega), ha]; simp)
        have ih' := ih a ha (fun j v hj => hv j v (by rw [List.getElem?_append_left (List.getElem?_eq_some_iff.mp hj).1]; exact hj))
        rw [List.filter_append] at h
        rw [List.range_succ, List.filter_append, List.map_append, List.map_append]
        have hb : bitV k (.int (n : Int) t) = (k / 2 ^ n % 2 == 1) := by
          show (((k : Int) / 2 ^ ((n : Int).toNat)) % 2 == 1) = _
          rw [Int.toNat_natCast]
          have : ((k : Int) / 2 ^ n) % 2 = ((k / 2 ^ n % 2 : Nat) : Int) := by push_cast; rfl
          rw [this]
          cases hq : (k / 2 ^ n % 2 == 1) with
          | true => rw [eq_of_beq hq]; rfl
          | false =>
            refine beq_false_of_ne fun e => ?_
            have : k / 2 ^ n % 2 = 1 := by exact_mod_cast e
            rw [this] at hq; cases hq
        cases hq : (k / 2 ^ n % 2 == 1) with
        | false =>
          rw [hq] at hb
          rw [List.filter_cons_of_neg (by rw [hb]; simp), List.filter_nil, List.append_nil] at h
          simp only [List.filter_cons, hq, List.filter_nil, Bool.false_eq_true, if_false, List.map_nil, List.append_nil]
          exact ih' ys h
        | true =>
          rw [hq] at hb
          rw [List.filter_cons_of_pos hb, List.filter_nil] at h
          obtain ⟨y1, y2, rfl, h1, h2⟩ := paired_split h
          cases h2 with
          | cons h2 h3 =>
            cases h3
            obtain ⟨k2, t2, u2, e, rfl⟩ := h2
            have : k2 = n := by injection e with e; omega
            subst this
            simp only [List.filter_cons, hq, List.filter_nil, if_true, List.map_cons, List.map_nil]
            exact (ih' y1 h1).append (.cons .nil)
  exact e1 bs.length vs hlen hv ys h
noncomputable def PR (l : Ltr) (bs : List Bool) (hf : Nat) (i : Nat) (c : NT) : Prop := Txs c.svs ((((List.range i).map (keptB bs)).filter fun x => x.length == hf).map l.tx)
theorem PR_next {l : Ltr} {bs : List Bool} {hf i : Nat} {c c' : NT} (h : PR l bs hf i c) {t : Tok} (hs : c'.svs = if (keptB bs i).length = hf then c.svs ++ [.str (l.tx (keptB bs i)) t] else c.svs) : PR l bs hf (i + 1) c' := by
  unfold PR at h ⊢
  rw [List.range_succ, List.map_append, List.filter_append, List.map_append, hs]
  simp only [List.map_cons, List.map_nil, List.filter_cons, List.filter_nil]
  by_cases e : (keptB bs i).length = hf
  · rw [if_pos e, if_pos (by simpa using e)]
    exact h.append (.cons .nil)
  · rw [if_neg e, if_neg (by simpa using e)]
    simpa using h
theorem range_ok : ∀ n : Nat, n ≤ 5 → Builtin.Range.small 0 ((2 ^ n : Nat) : Int) 1 = true ∧ Builtin.Range.rangeSize 0 ((2 ^ n : Nat) : Int) 1 = ((2 ^ n : Nat) : Int) ∧ Builtin.Range.small 0 (n : Int) 1 = true ∧ Builtin.Range.rangeSize 0 (n : Int) 1 = (n : Int) := by
  intro n h
  match n, h with
  | 0, _ => decide +kernel
  | 1, _ => decide +kernel
  | 2, _ => decide +kernel
  | 3, _ => decide +kernel
  | 4, _ => decide +kernel
  | 5, _ => decide +kernel
theorem tx_at (l : Ltr) {bs : List Bool} {k : Nat} (h : k < bs.length) : (l.tx bs).cps.toList[k]? = some (l.f (bs.getD k false)) := by
  simp [Ltr.tx, h]
theorem kept_len (bs : List Bool) (k : Nat) : (keptB bs k).length ≤ bs.length := by
  unfold keptB
  rw [List.length_map]
  have := List.length_filter_le (fun i => k / 2 ^ i % 2 == 1) (List.range bs.length)
  rwa [List.length_range] at this
theorem bit_eq (i k : Nat) (t : Tok) : ((((i : Int)).fdiv (2 ^ ((k : Int)).toNat)).fmod 2 == 1) = bitV i (.int (k : Int) t) := by
  show _ = (((i : Int) / 2 ^ ((k : Int).toNat)) % 2 == 1)
  rw [Int.fmod_eq_emod_of_nonneg _ (by omega), Int.fdiv_eq_ediv_of_nonneg _ (Int.le_of_lt (Int.pow_pos (by omega)))]
noncomputable def lawDef : List Stmt × Scope := match PySem.Challenge.pw_kt0017_01.main.body with
  | _ :: _ :: _ :: _ :: _ :: _ :: r => match r.reverse with
    | .FunctionDef _ _ body _ _ _ scope _ _ _ :: _ => (body, scope)
    | _ => ([], default)
  | _ => ([], default)
/-- the law's loop over the parts: what it turns -/
noncomputable def partBody : List Stmt := match lawDef.1 with
  | _ :: _ :: _ :: _ :: _ :: _ :: _ :: _ :: _ :: .For _ _ body _ _ :: _ => body
  | _ => []
/-- what stands behind that loop -/
noncomputable def lawTail : List Stmt := match lawDef.1 with
  | _ :: _ :: _ :: _ :: _ :: _ :: _ :: _ :: _ :: _ :: r => r
  | _ => []
noncomputable abbrev lawEnv (L0 fa : Addr) (cd : Value) : Env := envOfC ((Str.ofString "law")) lawDef.2 L0 fa cd
end Mine
end
section
open PySem PySem.W PyProof.Rows PySem.Calls PySem.Spec
namespace Mine
local macro_rules | `(tactic| k_room) => `(tactic| ktr_room)
local macro_rules | `(tactic| walk_at "M enter") => `(tactic| (k_dflt (refine' enterP ?k1 ?k2 ?k3 ?k5 ?kA ?kF ?kK ?k6 ?k7 ?k8 ?k9 ?kB ?_ ?c2 ?c3 ?c4 ?c5; (case kA => exact rfl); (case kF => exact rfl); (case kK => assumption); (case k1 => k_asm); (case k2 => k_asm); (case k3 => k_asm); (case k5 => k_asm); (case k6 => k_is); (case k7 => k_is); (case k8 => ktr_room); (case k9 => exact BindsTo.of_eq rfl); (case c5 => decide); (case kB => exact locs rfl); (case c2 => exact rfl); (case c3 => exact rfl); (case c4 => exact rfl); k_whole)))
local macro_rules | `(tactic| walk_at "M frame") => `(tactic| (intro z hz; (try dsimp only); (repeat' split) <;> first | rfl | contradiction | (exfalso; simp_all; done) | (simp_all; done)))
local macro_rules | `(tactic| walk_at "M frame0") => `(tactic| (intro z; (try dsimp only); (repeat' split) <;> first | rfl | contradiction | (exfalso; simp_all; done) | (subst_vars; first | rfl | (exfalso; simp_all (config := { decide := true }); done) | (simp (config := { decide := true }) at *; done)) | (simp_all; done)))
local macro_rules | `(tactic| walk_at "M led") => `(tactic| (intro p hp; first | exact absurd hp List.not_mem_nil | ((simp only [List.mem_cons, List.mem_append, List.not_mem_nil, or_false, false_or] at hp ⊢); ((repeat (rcases hp with hp | hp)) <;> first | (simp only [hp, true_or, or_true]; done) | (simp; done)))))
local macro_rules | `(tactic| walk_at "M mem") => `(tactic| first | (simp only [List.mem_cons, List.mem_append, List.not_mem_nil, or_false, false_or, true_or, or_true]; done) | (simp; done))
local macro_rules | `(tactic| walk_at "M enterC") => `(tactic| (k_dflt (refine' enterC ?k1 ?k2 ?k3 ?k5 ?kA ?kF ?kK ?k6 ?k7 ?k8 ?k9 ?kB ?kD ?_ ?c2 ?c3 ?c4; (case kA => exact rfl); (case kF => exact rfl); (case kK => assumption); (case k1 => k_asm); (case k2 => k_asm); (case k3 => k_asm); (case k5 => k_asm); (case k6 => k_is); (case k7 => k_is); (case k8 => ktr_room); (case k9 => exact BindsTo.of_eq rfl); (case kB => exact rfl); (case kD => decide +kernel); (case c2 => exact rfl); (case c3 => exact rfl); (case c4 => exact rfl); k_whole)))
local macro_rules | `(tactic| walk_at "M steps") => `(tactic| repeat' (first | (k_unfold; (try dsimp only)) | (k_end; wrow_close) | ((fail_if_success (with_reducible show wpAny _ _ (exec (Stmt.While _ _ _ _) _) _ _ _)); (fail_if_success (with_reducible show wpAny _ _ (exec (Stmt.For _ _ _ _ _) _) _ _ _)); first | walk1 | (dsimp only; walk1) | (leave1; walk_say "STEP leave1"; try dsimp only) | fail "no step")))
local macro_rules | `(tactic| walk_at "M ss") => `(tactic| repeat' (first | (k_unfold; (try dsimp only)) | (k_end; wrow_close) | ((fail_if_success (with_reducible show wpAny _ _ (exec (Stmt.While _ _ _ _) _) _ _ _)); (fail_if_success (with_reducible show wpAny _ _ (exec (Stmt.For _ _ _ _ _) _) _ _ _)); (fail_if_success (with_reducible show wpAny _ _ (subscriptTail _ _ (Value.ref _) _) _ _ _)); (fail_if_success (with_reducible show wpAny _ _ (callWith _ (Value.ref _) _ _ _) _ _ _)); (fail_if_success (with_reducible show wpAny _ _ (truthy (Value.ref _)) _ _ _)); first | walk1 | (dsimp only; walk1) | (leave1; walk_say "STEP leave1"; try dsimp only) | fail "no step")))
local macro_rules | `(tactic| walk_at "M halt") => `(tactic| repeat' (first | (k_unfold; (try dsimp only)) | (k_end; wrow_close) | ((fail_if_success (with_reducible show wpAny _ _ (exec (Stmt.While _ _ _ _) _) _ _ _)); (fail_if_success (with_reducible show wpAny _ _ (call (Value.ref _) _) _ _ _)); (fail_if_success (with_reducible show wpAny _ _ (subscriptTail _ _ (Value.str _ _) (Value.int _ _)) _ _ _)); (fail_if_success (with_reducible show wpAny _ _ (exec (Stmt.For _ _ _ _ _) _) _ _ _)); first | walk1 | (dsimp only; walk1) | (leave1; walk_say "STEP leave1"; try dsimp only) | fail "no step")))
local macro_rules | `(tactic| walk_at "M hs") => `(tactic| repeat' (first | (k_unfold; (try dsimp only)) | (k_end; wrow_close) | ((fail_if_success (with_reducible show wpAny _ _ (exec (Stmt.While _ _ _ _) _) _ _ _)); (fail_if_success (with_reducible show wpAny _ _ (call (Value.ref _) _) _ _ _)); (fail_if_success (with_reducible show wpAny _ _ (subscriptTail _ _ (Value.str _ _) (Value.int _ _)) _ _ _)); (fail_if_success (with_reducible show wpAny _ _ (exec (Stmt.For _ _ _ _ _) _) _ _ _)); (fail_if_success (with_reducible show wpAny _ _ (subscriptTail _ _ (Value.ref _) _) _ _ _)); (fail_if_success (with_reducible show wpAny _ _ (callWith _ (Value.ref _) _ _ _) _ _ _)); (fail_if_success (with_reducible show wpAny _ _ (truthy (Value.ref _)) _ _ _)); first | walk1 | (dsimp only; walk1) | (leave1; walk_say "STEP leave1"; try dsimp only) | fail "no step")))

local macro_rules | `(tactic| walk_at "M one") => `(tactic| (first | (k_unfold; (try dsimp only)) | (k_end; wrow_close) | ((fail_if_success (with_reducible show wpAny _ _ (exec (Stmt.While _ _ _ _) _) _ _ _)); (fail_if_success (with_reducible show wpAny _ _ (call (Value.ref _) _) _ _ _)); (fail_if_success (with_reducible show wpAny _ _ (call (Value.builtin "sorted") _) _ _ _)); (fail_if_success (with_reducible show wpAny _ _ (eval (Expr.ListComp _ _ _ _) _) _ _ _)); (fail_if_success (with_reducible show wpAny _ _ (exec (Stmt.Assign _ (Expr.ListComp _ _ _ _) _) _) _ _ _)); (fail_if_success (with_reducible show wpAny _ _ (subscriptTail _ _ (Value.str _ _) _) _ _ _)); (fail_if_success (with_reducible show wpAny _ _ (subscriptTail _ _ (Value.ref _) (Value.ref _)) _ _ _)); (fail_if_success (with_reducible show wpAny _ _ (pyIter (Value.ref _)) _ _ _)); (fail_if_success (with_reducible show wpAny _ _ (call (Value.builtin "str.join") _) _ _ _)); (fail_if_success (with_reducible show wpAny _ _ (compareOp _ (Value.ref _) (Value.ref _)) _ _ _)); (fail_if_success (with_reducible show wpAny _ _ (compareOp _ (Value.str _ _) (Value.ref _)) _ _ _)); (fail_if_success (with_reducible show wpAny _ _ (exec (Stmt.For _ _ _ _ _) _) _ _ _)); first | walk1 | (dsimp only; walk1) | (leave1; walk_say "STEP leave1"; try dsimp only) | fail "no step")))
local macro_rules | `(tactic| walk_at "M sub") => `(tactic| (refine fun p hp => List.Sublist.subset (?_ : List.Sublist _ _) hp; first | ((with_reducible (repeat (first | exact List.nil_sublist _ | refine List.Sublist.cons_cons _ ?_ | refine List.Sublist.cons _ ?_))); done) | (repeat (first | exact List.nil_sublist _ | refine List.Sublist.cons_cons _ ?_ | refine List.Sublist.cons _ ?_))))
local macro_rules | `(tactic| walk_at "M perm") => `(tactic| ((try unfold nW); (try dsimp only); (repeat (refine List.forall_mem_cons.mpr ⟨?_, ?_⟩; focus (walk_at "M at"))); exact List.forall_mem_nil _))
local macro_rules | `(tactic| walk_at "M wkeys") => `(tactic| (refine mW_keys ?_ ?_ ?_ ?_ ?_ ?_ <;> first | rfl | (intro z z0 z1 z2 z3 z4 z5; (try dsimp only); simp only [mW, if_neg z0, if_neg z1, if_neg z2, if_neg z3, if_neg z4, if_neg z5])))
local macro_rules | `(tactic| walk_at "M wall") => `(tactic| (refine mW_all ?_ ?_ ?_ ?_ ?_ ?_ ?_ <;> first | rfl | (intro z z0 z1 z2 z3 z4 z5; (try dsimp only); simp only [mW, if_neg z0, if_neg z1, if_neg z2, if_neg z3, if_neg z4, if_neg z5])))
local macro_rules | `(tactic| walk_at "M law") => `(tactic| repeat' walk_at "M one")
local macro_rules | `(tactic| k_ne) => `(tactic| ((try dsimp only); first | exact Apart.ne (by with_reducible assumption) | exact Ne.symm (Apart.ne (by with_reducible assumption))))
local macro_rules | `(tactic| walk_at "M at") => `(tactic| first | ((with_reducible (repeat (first | exact List.mem_cons_self | refine List.mem_cons_of_mem _ ?_))); done) | (repeat (first | exact List.mem_cons_self | refine List.mem_cons_of_mem _ ?_)))

noncomputable def goesV (sgs : List Str) : Value → Bool
  | .str y _ => goesF y sgs 0
  | _ => false
set_option maxRecDepth 100000 in
set_option maxHeartbeats 8000000 in
theorem turn_spec (w : World) (mean : ExcName → Option Value) (mg mb : Str → Option Value) (g0 : Heap) (L0 : Nat) (fa : Addr) (cd : Value) (X0 : (KK w.params).In g0) (T0 : Top topProg LL mean mg mb g0) (K0 : Below callerA g0 [] g0) (l57 : 57 < L0)
    (l : Ltr) (bs : List Bool) (hn5 : bs.length ≤ 5) (hf : Nat) (hhf : bs.length / 2 + 1 = hf) (mz : Str → Option Value) (tl wl Dp : Addr) (pts pvs : List Value) (np ep : Nat) (o5 o4 ow op : Obj) (th tw : Tok)
    (dw : ow.data = .cell (some (.str (l.tx bs) tw))) (ltl : @LT.lt Nat _ Dp tl) (lDp : @LT.lt Nat _ (L0 + 1 + 1 + 1 + 1 + 1) Dp)
    (offw : ∀ q ∈ [tl, Dp, L0 + 1 + 1 + 1 + 1 + 1, L0 + 1 + 1 + 1 + 1, L0 + 1 + 1 + 1, L0 + 1 + 1, L0 + 1, 57], Apart q wl) (hpt : Txs pts ((wordsB hf).map l.tx))
    (i : Nat) (v : Value) (c : LT) (h : Heap) (tk : Nat) (I : Addr) (it : Obj) (s1 : Shared) (Q2 : Flow → Shared → Prop) (E : Value → Shared → Prop) (hvi : pts[i]? = some v)
    (hP : PW l bs hf [tl, wl, Dp, L0 + 1 + 1 + 1 + 1 + 1, L0 + 1 + 1 + 1 + 1, L0 + 1 + 1 + 1, L0 + 1 + 1, L0 + 1, 57] i c)
    (offI : ∀ p ∈ nW tl wl Dp L0 pts pvs np ep o5 o4 ow op c, Apart p.1 I)
    (F2 : Fr g0 L0 h (fun y => if y = (Str.ofString "part") then some v else mW mz tl hf th c y)) (N2 : News g0 L0 h (nW tl wl Dp L0 pts pvs np ep o5 o4 ow op c ++ [(I, it)]))
    (hn : ∀ c' h' tk' m' news', Fr g0 L0 h' m' → News g0 L0 h' news' → (∀ z, z ≠ (Str.ofString "part") → m' z = mW mz tl hf th c' z) → (∀ p ∈ nW tl wl Dp L0 pts pvs np ep o5 o4 ow op c', p ∈ news') → (I, it) ∈ news' →
      PW l bs hf [tl, wl, Dp, L0 + 1 + 1 + 1 + 1 + 1, L0 + 1 + 1 + 1 + 1, L0 + 1 + 1 + 1, L0 + 1 + 1, L0 + 1, 57] (i + 1) c' → Q2 .next { s1 with heap := h', toks := tk' }) :
    wpAny (model PySem.Challenge.rw_kt0017_01.row.prog w) (callerA.deeper (lawEnv L0 fa cd)) (execs partBody (lawEnv L0 fa cd)) Q2 E { s1 with heap := h, toks := tk } := by
  have ta1 : Apart Dp tl := Nat.ne_of_lt ltl
  have ta2 : Apart (L0 + 1 + 1 + 1 + 1 + 1) tl := Nat.ne_of_lt (by omega)
  have ta3 : Apart (L0 + 1 + 1 + 1 + 1) tl := Nat.ne_of_lt (by omega)
  have ta4 : Apart (L0 + 1 + 1 + 1) tl := Nat.ne_of_lt (by omega)
  have ta5 : Apart (L0 + 1 + 1) tl := Nat.ne_of_lt (by omega)
  have ta6 : Apart (L0 + 1) tl := Nat.ne_of_lt (by omega)
  have ta7 : Apart 57 tl := Nat.ne_of_lt (by omega)
  have gb1 : Apart (L0 + 1 + 1 + 1) Dp := Nat.ne_of_lt (by omega)
  have gb2 : Apart (L0 + 1 + 1 + 1) (L0 + 1 + 1 + 1 + 1 + 1) := Nat.ne_of_lt (by omega)
  have gb3 : Apart (L0 + 1 + 1 + 1) (L0 + 1 + 1 + 1 + 1) := Nat.ne_of_lt (by omega)
  have gb4 : Apart (L0 + 1 + 1) (L0 + 1 + 1 + 1) := Nat.ne_of_lt (by omega)
  have gb5 : Apart (L0 + 1) (L0 + 1 + 1 + 1) := Nat.ne_of_lt (by omega)
  have gb6 : Apart 57 (L0 + 1 + 1 + 1) := Nat.ne_of_lt (by omega)
  revert X0
  k_fill
  intro X0
  unfold lawEnv
  dsimp only [partBody, lawDef, PySem.Challenge.pw_kt0017_01, List.reverse, List.reverseAux]
  obtain ⟨hP1, hP2, hP3⟩ := hP
  obtain ⟨x, tx, rfl, hx⟩ := hpt.at hvi
  obtain ⟨q, hq, rfl⟩ : ∃ q, (wordsB hf)[i]? = some q ∧ l.tx q = x := by
    rw [List.getElem?_map] at hx
    cases hw : (wordsB hf)[i]? with
    | none => rw [hw] at hx; cases hx
    | some q => rw [hw] at hx; exact ⟨q, rfl, Option.some.inj hx⟩
  have hql : q.length = hf := len_wordsB hf q (List.mem_of_getElem? hq)
  have dsg := c.dsg
  unfold mW at F2
  unfold nW at N2 offI
  simp only [List.cons_append, List.nil_append] at N2
  simp only [List.forall_mem_cons] at offI hP3 offw
  obtain ⟨i1, i2, i3, i4, i5, i6, i7, i8, i9, i10, _⟩ := offI
  obtain ⟨p1, p2, p3, p4, p5, p6, p7, p8, p9, _⟩ := hP3
  obtain ⟨w1, w2, w3, w4, w5, w6, w7, w8, _⟩ := offw
  walk_at "M law"
  (rename Fr _ _ _ _ => F9); (rename News _ _ _ _ => N9)
  have hsg : (l.tx q).cps.toList = q.map l.f := by simp [Ltr.tx]
  have hcs : ∀ c ∈ q.map l.f, c ∈ marks := by
    intro c hc
    obtain ⟨b, _, rfl⟩ := List.mem_map.mp hc
    exact l.mem b
  have hsl : (q.map l.f).length = hf := by rw [List.length_map, hql]
  have hchr : (q.map fun b => l.tx [b]) = (q.map l.f).map fun c => (⟨#[c]⟩ : Str) := by rw [List.map_map]; rfl
  refine MineJ.join_text rfl (by rw [l.tx_len]; omega) (by decide) fun h3 tk3 t3 hk3 => ?_
  replace F9 := Fr.keeps F9 hk3
  replace N9 := News.keeps N9 hk3
  rw [hsg]
  have hJ := star_join (q.map l.f) (by intro e; rw [e] at hsl; simp at hsl; omega)
  generalize hJd : Txt.join ((Str.ofString "*")) ((q.map l.f).map fun c => (⟨#[c]⟩ : Str)) = J at hJ
  have hJl : J.length ≤ 20 := by
    have e1 : ((Str.ofString "*") ++ J ++ (Str.ofString "*")).length = 2 * hf + 1 := by rw [hJ, length_mk, patL_len, hsl]
    rw [Str.length_append, Str.length_append] at e1
    omega
  generalize hsgd : q.map l.f = sg at *
  walk_at "M law"
  (rename Fr _ _ _ _ => F9); (rename News _ _ _ _ => N9)
  rw [hJ]
  refine SpecD.go (trans_spec w mean mg mb sg _ hcs (by omega)) K0 F9 X0 T0 rfl ?r1 ?r2 trivial ?_
  case r1 => decide
  case r2 => decide
  rintro r h4 tk4 hst4 ⟨t4, rfl⟩
  rw [transS_eq sg hcs]
  replace F9 := Fr.keeps F9 hst4
  replace N9 := News.keeps N9 hst4
  walk_at "M law"
  (rename Fr _ _ _ _ => F9); (rename News _ _ _ _ => N9)
  refine Spec.go (signs_spec w mean mg mb sg _ hcs (by omega)) K0 F9 X0 T0 rfl ?r3 ?r4 trivial ?_
  case r3 => decide
  case r4 => decide
  rintro r h5 tk5 hst5 ⟨sl, ns, svs, rfl, hn1, hn2, hst⟩
  have F5 := Fr.keeps F9 hst5
  have N5 := News.more F9 (News.keeps N9 hst5) hn1 hn2
  have off5 := News.apart N9 hn1
  simp only [List.forall_mem_cons] at off5
  obtain ⟨x1, x2, x3, x4, x5, x6, x7, x8, x9, x10, x11, _⟩ := off5
  clear F9 N9
  walk_at "M law"
  (rename Fr _ _ _ _ => F9); (rename News _ _ _ _ => N9)
  refine comp_listA (h₀ := g0) (L := L0) (cl := [((Str.ofString "signs"), L0 + 1 + 1 + 1)]) (goesV (sg.map fun c => (⟨#[c]⟩ : Str))) (fun v y => y = v) (fun a s₁ => a = c.left ∧ ∃ h tk og, s₁ = { s1 with heap := h, toks := tk } ∧ og.data = .cell (some (.ref sl)) ∧ Fr g0 L0 h (fun y => if y = (Str.ofString "part") then some (.str (l.tx q) tx) else mW mz tl hf th c y) ∧
      News g0 L0 h [(sl, listOf svs.toArray ns), (tl, listOf c.tvs.toArray c.nt), (c.left, listOf c.lvs.toArray c.nl), (wl, listOf pts.toArray np), (Dp, listOf pvs.toArray ep), (L0 + 1 + 1 + 1 + 1 + 1, o5), (L0 + 1 + 1 + 1 + 1, o4), (L0 + 1 + 1 + 1, og), (L0 + 1 + 1, ow), (L0 + 1, op), (57, tabObj #[]), (I, it)]) rfl rfl (by decide) rfl (by decide) rfl rfl rfl rfl rfl ?hit ?hgo
  case hit =>
    walk_at "M law"
    · exact F9
    · exact N9
  case hgo =>
    clear F9 N9
    rintro _ _ ⟨rfl, h6, tk6, og, rfl, dog, F9, N9⟩
    refine ⟨_, _, c.lvs, F9, N9, ⟨_, (N9 (c.left, listOf c.lvs.toArray c.nl) (by walk_at "M at")).1, rfl, _, rfl⟩, ?z5, ?tests, ?elts, ?fin⟩
    case z5 => exact Nat.le_trans (by rw [hP1.length, List.length_map]; exact leftB_len hn5) (show 32 ≤ sizeLine by unfold sizeLine; decide)
    case tests =>
      intro C v s₃ m₃ E'' hv hns hm F3 N3
      clear F9 N9
      refine wpAny_tests_one ?_
      have hve : ∃ y t, v = .str (l.tx y) t := by
        obtain ⟨iv, hiv⟩ := List.mem_iff_getElem?.mp hv
        obtain ⟨y, t, rfl, hy⟩ := hP1.at hiv
        rw [List.getElem?_map] at hy
        cases hw : (leftB bs.length bs ((wordsB hf).take i))[iv]? with
        | none => rw [hw] at hy; cases hy
        | some z => rw [hw] at hy; exact ⟨z, t, by rw [← Option.some.inj hy]⟩
      obtain ⟨y, t, rfl⟩ := hve
      walk_at "M law"
      refine Spec.go (goes_spec w mean mg mb sl svs (sg.map fun c => (⟨#[c]⟩ : Str)) (l.tx y) t hst) K0 F3 X0 T0 rfl ?q1 ?q2 ⟨_, (N3 (sl, listOf svs.toArray ns) (by walk_at "M at")).1, rfl, _, rfl⟩ ?_
      case q1 => decide
      case q2 => decide
      rintro r h7 tk7 hst7 rfl
      walk_at "M law"
      exact ⟨_, _, rfl, hst7⟩
    case elts =>
      intro C v s₃ m₃ E'' hv _ hns hm F3 N3
      exact wpAny_Name (wpAny_loadName_local rfl rfl hns hm ⟨rfl, _, _, rfl, fun _ _ e => e⟩) (by decide)
    case fin =>
      clear F9 N9
      intro fl nf h7 tk7 ys F7 N7 off7 hG
      have hys := paired_eq hG
      subst hys
      simp only [List.forall_mem_cons] at off7
      obtain ⟨y1, y2, y3, y4, y5, y6, y7, y8, y9, y10, y11, y12, _⟩ := off7
      have hU : ∀ {env : Env}, (callerA.deeper env).units < cLine := fun {_} => by simp only [units_in1, units_deeper, units_caller]; decide
      have hU1 : ∀ {env : Env}, (callerA.deeper env).in1.units < cLine := fun {_} => by simp only [units_in1, units_deeper, units_caller]; decide
      have hgo : ∀ b t, goesV (sg.map fun c => (⟨#[c]⟩ : Str)) (.str (l.tx b) t) = subB q b := by
        intro b t
        show goesF (l.tx b) (sg.map fun c => (⟨#[c]⟩ : Str)) 0 = _
        rw [← hchr, l.goes]
      have hft := txs_filter (P := subB q) hP1 (fun b t _ => hgo b t)
      have hLl := leftB_len (n := bs.length) (w := bs) (qs := (wordsB hf).take i) hn5
      have hlvl : c.lvs.length ≤ 32 := by rw [hP1.length, List.length_map]; exact hLl
      generalize hfv : c.lvs.filter (goesV (sg.map fun c => (⟨#[c]⟩ : Str))) = fvs at F7 N7 hft
      walk_at "M law"
      (rename Fr _ _ _ _ => F9); (rename News _ _ _ _ => N9)
      refine SpecX.go (filter_spec w mean mg mb c.left fl c.lvs fvs _ _ hP1 hft (by unfold sizeLine; omega)) K0 F9 X0 T0 rfl ?r5 ?r6 ⟨⟨_, (N9 (c.left, listOf c.lvs.toArray c.nl) (by walk_at "M at")).1⟩, ⟨_, (N9 (fl, listOf fvs.toArray nf) (by walk_at "M at")).1⟩⟩ ?_
      case r5 => decide
      case r6 => decide
      rintro r h8 tk8 F8 NK ⟨rl, nr, rfl, hn3, hn4⟩
      have N8 := News.more F9 (NK _ N9) hn3 hn4
      have offr : ∀ a ∈ [tl, wl, Dp, L0 + 1 + 1 + 1 + 1 + 1, L0 + 1 + 1 + 1 + 1, L0 + 1 + 1 + 1, L0 + 1 + 1, L0 + 1, 57], Apart a rl := News.apartA (as := [(tl, listOf c.tvs.toArray c.nt), (wl, listOf pts.toArray np), (Dp, listOf pvs.toArray ep), (L0 + 1 + 1 + 1 + 1 + 1, o5), (L0 + 1 + 1 + 1 + 1, o4), (L0 + 1 + 1 + 1, og), (L0 + 1 + 1, ow), (L0 + 1, op), (57, tabObj #[])]) (News.sub N9 (by walk_at "M perm")) hn3
      have off8 := News.apart N9 hn3
      simp only [List.forall_mem_cons] at off8
      obtain ⟨u1, u2, u3, u4, u5, u6, u7, u8, u9, u10, u11, u12, u13, _⟩ := off8
      clear F9 N9 NK
      have hrt := txs_filter (P := fun b => !subB q b) (p := keepV fvs) hP1 (fun b t hb => by
        show (!hasV fvs _) = _
        rw [hasV_tx hft, contains_filter hb])
      have hrl : (c.lvs.filter (keepV fvs)).length ≤ 32 := Nat.le_trans (List.length_filter_le _ _) hlvl
      have hfl : fvs.length ≤ 32 := by rw [← hfv]; exact Nat.le_trans (List.length_filter_le _ _) hlvl
      generalize hrv : c.lvs.filter (keepV fvs) = rvs at N8 hrt hrl
      have hord := l.left_order hn5 bs ((wordsB hf).take i)
      have hnd := left_nodup l hn5 bs ((wordsB hf).take i)
      obtain ⟨hs1, hs2⟩ := sld_two l hord (subB q)
      have hnd1 : (((leftB bs.length bs ((wordsB hf).take i)).filter (subB q)).map l.tx).Nodup := hnd.sublist (List.Sublist.map _ List.filter_sublist)
      have hnd2 : (((leftB bs.length bs ((wordsB hf).take i)).filter fun b => !subB q b).map l.tx).Nodup := hnd.sublist (List.Sublist.map _ List.filter_sublist)
      walk_at "M law"
      (rename Fr _ _ _ _ => F9); (rename News _ _ _ _ => N9)
      refine SpecX.go (sld_spec w mean mg mb c.left rl c.lvs rvs _ _ hP1 hrt hnd hnd2 (by rw [← hP1.length]; omega) (by rw [← hrt.length]; omega)) K0 F9 X0 T0 rfl ?r7 ?r8 ⟨⟨_, (N9 (c.left, listOf c.lvs.toArray c.nl) (by walk_at "M at")).1, rfl, _, rfl⟩, ⟨_, (N9 (rl, listOf rvs.toArray nr) (by walk_at "M at")).1, rfl, _, rfl⟩⟩ ?_
      case r7 => decide
      case r8 => decide
      rintro r h9 tk9 FS NK ⟨tp, ml, ul, mvs, uvs, n1, n2, n3, rfl, e1, e2, e3, hm, hu, f1, f2, f3⟩
      rw [hs1] at hm hu
      have NS := News.more F9 (News.more F9 (News.more F9 (NK _ N9) f3 e3) f2 e2) f1 e1
      clear F9 N9 NK e1 e2 e3 f1 f2 f3
      walk_at "M law"
      (rename Fr _ _ _ _ => F9); (rename News _ _ _ _ => N9)
      refine ne_pairs (N9 (tp, { cls := .type "tuple", data := .seq #[.ref ml, .ref ul] n3 }) (by walk_at "M at")).1 (N9 _ List.mem_cons_self).1 hU (eqat_texts ⟨_, (N9 (ml, listOf mvs.toArray n1) (by walk_at "M at")).1, rfl, _, rfl⟩ ⟨_, (N9 (fl, listOf fvs.toArray nf) (by walk_at "M at")).1, rfl, _, rfl⟩ hm hft hU1)
        (eqat_texts (ws := []) ⟨_, (N9 (ul, listOf uvs.toArray n2) (by walk_at "M at")).1, rfl, _, rfl⟩ ⟨_, (N9 _ (List.mem_cons_of_mem _ List.mem_cons_self)).1, rfl, _, rfl⟩ hu .nil hU1) ?_
      replace N9 := News.sub (as := [(rl, listOf rvs.toArray nr), (fl, listOf fvs.toArray nf), (tl, listOf c.tvs.toArray c.nt), (c.left, listOf c.lvs.toArray c.nl), (wl, listOf pts.toArray np), (Dp, listOf pvs.toArray ep), (L0 + 1 + 1 + 1 + 1 + 1, o5), (L0 + 1 + 1 + 1 + 1, o4), (L0 + 1 + 1 + 1, og), (L0 + 1 + 1, ow), (L0 + 1, op), (57, tabObj #[]), (I, it)]) N9 (by walk_at "M perm")
      walk_at "M law"
      (rename Fr _ _ _ _ => F9); (rename News _ _ _ _ => N9)
      refine SpecX.go (sld_spec w mean mg mb fl c.left fvs c.lvs _ _ hft hP1 hnd1 hnd (by rw [← hft.length]; omega) (by rw [← hP1.length]; omega)) K0 F9 X0 T0 rfl ?ra ?rb ⟨⟨_, (N9 (fl, listOf fvs.toArray nf) (by walk_at "M at")).1, rfl, _, rfl⟩, ⟨_, (N9 (c.left, listOf c.lvs.toArray c.nl) (by walk_at "M at")).1, rfl, _, rfl⟩⟩ ?_
      case ra => decide
      case rb => decide
      rintro r ha tka FT NK ⟨tq, mk, uk, mws, uws, k1, k2, k3, rfl, e1, e2, e3, hm2, hu2, f1, f2, f3⟩
      rw [hs2] at hm2 hu2
      have NT := News.more F9 (News.more F9 (News.more F9 (NK _ N9) f3 e3) f2 e2) f1 e1
      clear F9 N9 NK e1 e2 e3 f1 f2 f3
      walk_at "M law"
      (rename Fr _ _ _ _ => F9); (rename News _ _ _ _ => N9)
      refine ne_pairs (N9 (tq, { cls := .type "tuple", data := .seq #[.ref mk, .ref uk] k3 }) (by walk_at "M at")).1 (N9 _ List.mem_cons_self).1 hU (eqat_texts (ws := []) ⟨_, (N9 (mk, listOf mws.toArray k1) (by walk_at "M at")).1, rfl, _, rfl⟩ ⟨_, (N9 _ (List.mem_cons_of_mem _ List.mem_cons_self)).1, rfl, _, rfl⟩ hm2 .nil hU1)
        (eqat_texts ⟨_, (N9 (uk, listOf uws.toArray k2) (by walk_at "M at")).1, rfl, _, rfl⟩ ⟨_, (N9 (rl, listOf rvs.toArray nr) (by walk_at "M at")).1, rfl, _, rfl⟩ hu2 hrt hU1) ?_
      replace N9 := News.sub (as := [(rl, listOf rvs.toArray nr), (fl, listOf fvs.toArray nf), (tl, listOf c.tvs.toArray c.nt), (c.left, listOf c.lvs.toArray c.nl), (wl, listOf pts.toArray np), (Dp, listOf pvs.toArray ep), (L0 + 1 + 1 + 1 + 1 + 1, o5), (L0 + 1 + 1 + 1 + 1, o4), (L0 + 1 + 1 + 1, og), (L0 + 1 + 1, ow), (L0 + 1, op), (57, tabObj #[]), (I, it)]) N9 (by walk_at "M perm")
      walk_at "M law"
      (rename Fr _ _ _ _ => F9); (rename News _ _ _ _ => N9)
      refine in_texts ⟨_, (N9 (fl, listOf fvs.toArray nf) (by walk_at "M at")).1, rfl, _, rfl⟩ hft ?_
      rw [contains_filter mem_leftB]
      cases hw : subB q bs with
      | true =>
        walk_at "M law"
        (rename Fr _ _ _ _ => F9); (rename News _ _ _ _ => N9)
        replace N9 := News.sub (as := [(tl, listOf c.tvs.toArray c.nt), (rl, listOf rvs.toArray nr), (c.left, listOf c.lvs.toArray c.nl), (wl, listOf pts.toArray np), (Dp, listOf pvs.toArray ep), (L0 + 1 + 1 + 1 + 1 + 1, o5), (L0 + 1 + 1 + 1 + 1, o4), (L0 + 1 + 1 + 1, og), (L0 + 1 + 1, ow), (L0 + 1, op), (57, tabObj #[]), (I, it)]) N9 (by walk_at "M perm")
        have htl : c.tvs.length ≤ 8 := by
          have h1 := List.length_filter_le (fun q => subB q bs) ((wordsB hf).take i)
          have h2 := List.length_take_le' i (wordsB hf)
          have h3 : 2 ^ hf ≤ 2 ^ 3 := Nat.pow_le_pow_right (by decide) (show hf ≤ 3 by omega)
          rw [count_wordsB] at h2
          rw [hP2.length, List.length_map]
          exact Nat.le_trans h1 (Nat.le_trans h2 h3)
        refine append_in (own := []) (ys := c.tvs) F9 N9 (fun _ hp => nomatch hp) ?ap ?_ (by unfold sizeLine; omega)
        case ap => exact List.forall_mem_cons.mpr ⟨(Apart.ne u3).symm, List.forall_mem_cons.mpr ⟨(Apart.ne p1).symm, List.forall_mem_cons.mpr ⟨(Apart.ne w1).symm, List.forall_mem_cons.mpr ⟨ta1, List.forall_mem_cons.mpr ⟨ta2, List.forall_mem_cons.mpr ⟨ta3, List.forall_mem_cons.mpr ⟨ta4, List.forall_mem_cons.mpr ⟨ta5, List.forall_mem_cons.mpr ⟨ta6, List.forall_mem_cons.mpr ⟨ta7, List.forall_mem_cons.mpr ⟨(Apart.ne i1).symm, List.forall_mem_nil _⟩⟩⟩⟩⟩⟩⟩⟩⟩⟩⟩
        clear F9 N9
        intro hb FB NB
        walk_at "M law"
        (rename Fr _ _ _ _ => F9); (rename News _ _ _ _ => N9)
        refine SpecX.go (filter_spec w mean mg mb c.left rl c.lvs rvs _ _ hP1 hrt (by unfold sizeLine; omega)) K0 F9 X0 T0 rfl ?rc ?rd ⟨⟨_, (N9 (c.left, listOf c.lvs.toArray c.nl) (by walk_at "M at")).1⟩, ⟨_, (N9 (rl, listOf rvs.toArray nr) (by walk_at "M at")).1⟩⟩ ?_
        case rc => decide
        case rd => decide
        rintro r hc tkc FC NK ⟨rz, nz, rfl, hz5, hz6⟩
        have offz : ∀ a ∈ [tl, wl, Dp, L0 + 1 + 1 + 1 + 1 + 1, L0 + 1 + 1 + 1 + 1, L0 + 1 + 1 + 1, L0 + 1 + 1, L0 + 1, 57], Apart a rz := News.apartA (as := [(tl, listOf (c.tvs ++ [Value.str (l.tx q) tx]).toArray (c.nt + 1)), (wl, listOf pts.toArray np), (Dp, listOf pvs.toArray ep), (L0 + 1 + 1 + 1 + 1 + 1, o5), (L0 + 1 + 1 + 1 + 1, o4), (L0 + 1 + 1 + 1, og), (L0 + 1 + 1, ow), (L0 + 1, op), (57, tabObj #[])]) (News.sub N9 (by walk_at "M perm")) hz5
        have NC := News.more F9 (NK _ N9) hz5 hz6
        clear F9 N9 NK
        have hzt := txs_filter (P := subB q) (p := keepV rvs) hP1 (fun b t hb => by
          show (!hasV rvs _) = _
          rw [hasV_tx hrt, contains_filter hb]
          simp)
        generalize c.lvs.filter (keepV rvs) = zvs at NC hzt
        walk_at "M law"
        (rename Fr _ _ _ _ => F9); (rename News _ _ _ _ => N9)
        refine hn ⟨rz, nz, zvs, c.nt + 1, c.tvs ++ [.str (l.tx q) tx], some (.ref fl), some (.ref rl), og, some (.ref sl), dog⟩ _ _ _ _ F9 N9 (by walk_at "M wkeys") (by walk_at "M perm") (by walk_at "M at") ⟨?_, ?_, offz⟩
        · rw [left_true hq hw]; exact hzt
        · rw [taking_next hq, hw]; simpa using hP2.append (.cons .nil)
      | false =>
        walk_at "M law"
        (rename Fr _ _ _ _ => F9); (rename News _ _ _ _ => N9)
        refine hn ⟨rl, nr, rvs, c.nt, c.tvs, some (.ref fl), some (.ref rl), og, some (.ref sl), dog⟩ _ _ _ _ F9 N9 (by walk_at "M wkeys") (by walk_at "M perm") (by walk_at "M at") ⟨?_, ?_, offr⟩
        · rw [left_false hq hw]; exact hrt
        · rw [taking_next hq, hw]; simpa using hP2
end Mine
end
section
open PySem PySem.W PyProof.Rows PySem.Calls PySem.Spec
namespace Mine
local macro_rules | `(tactic| k_room) => `(tactic| ktr_room)
local macro_rules | `(tactic| walk_at "M enter") => `(tactic| (k_dflt (refine' enterP ?k1 ?k2 ?k3 ?k5 ?kA ?kF ?kK ?k6 ?k7 ?k8 ?k9 ?kB ?_ ?c2 ?c3 ?c4 ?c5; (case kA => exact rfl); (case kF => exact rfl); (case kK => assumption); (case k1 => k_asm); (case k2 => k_asm); (case k3 => k_asm); (case k5 => k_asm); (case k6 => k_is); (case k7 => k_is); (case k8 => ktr_room); (case k9 => exact BindsTo.of_eq rfl); (case c5 => decide); (case kB => exact locs rfl); (case c2 => exact rfl); (case c3 => exact rfl); (case c4 => exact rfl); k_whole)))
local macro_rules | `(tactic| walk_at "M frame") => `(tactic| (intro z hz; (try dsimp only); (repeat' split) <;> first | rfl | contradiction | (exfalso; simp_all; done) | (simp_all; done)))
local macro_rules | `(tactic| walk_at "M frame0") => `(tactic| (intro z; (try dsimp only); (repeat' split) <;> first | rfl | contradiction | (exfalso; simp_all; done) | (subst_vars; first | rfl | (exfalso; simp_all (config := { decide := true }); done) | (simp (config := { decide := true }) at *; done)) | (simp_all; done)))
local macro_rules | `(tactic| walk_at "M led") => `(tactic| (intro p hp; first | exact absurd hp List.not_mem_nil | ((simp only [List.mem_cons, List.mem_append, List.not_mem_nil, or_false, false_or] at hp ⊢); ((repeat (rcases hp with hp | hp)) <;> first | (simp only [hp, true_or, or_true]; done) | (simp; done)))))
local macro_rules | `(tactic| walk_at "M mem") => `(tactic| first | (simp only [List.mem_cons, List.mem_append, List.not_mem_nil, or_false, false_or, true_or, or_true]; done) | (simp; done))
local macro_rules | `(tactic| walk_at "M enterC") => `(tactic| (k_dflt (refine' enterC ?k1 ?k2 ?k3 ?k5 ?kA ?kF ?kK ?k6 ?k7 ?k8 ?k9 ?kB ?kD ?_ ?c2 ?c3 ?c4; (case kA => exact rfl); (case kF => exact rfl); (case kK => assumption); (case k1 => k_asm); (case k2 => k_asm); (case k3 => k_asm); (case k5 => k_asm); (case k6 => k_is); (case k7 => k_is); (case k8 => ktr_room); (case k9 => exact BindsTo.of_eq rfl); (case kB => exact rfl); (case kD => decide +kernel); (case c2 => exact rfl); (case c3 => exact rfl); (case c4 => exact rfl); k_whole)))
local macro_rules | `(tactic| walk_at "M steps") => `(tactic| repeat' (first | (k_unfold; (try dsimp only)) | (k_end; wrow_close) | ((fail_if_success (with_reducible show wpAny _ _ (exec (Stmt.While _ _ _ _) _) _ _ _)); (fail_if_success (with_reducible show wpAny _ _ (exec (Stmt.For _ _ _ _ _) _) _ _ _)); first | walk1 | (dsimp only; walk1) | (leave1; walk_say "STEP leave1"; try dsimp only) | fail "no step")))
local macro_rules | `(tactic| walk_at "M ss") => `(tactic| repeat' (first | (k_unfold; (try dsimp only)) | (k_end; wrow_close) | ((fail_if_success (with_reducible show wpAny _ _ (exec (Stmt.While _ _ _ _) _) _ _ _)); (fail_if_success (with_reducible show wpAny _ _ (exec (Stmt.For _ _ _ _ _) _) _ _ _)); (fail_if_success (with_reducible show wpAny _ _ (subscriptTail _ _ (Value.ref _) _) _ _ _)); (fail_if_success (with_reducible show wpAny _ _ (callWith _ (Value.ref _) _ _ _) _ _ _)); (fail_if_success (with_reducible show wpAny _ _ (truthy (Value.ref _)) _ _ _)); first | walk1 | (dsimp only; walk1) | (leave1; walk_say "STEP leave1"; try dsimp only) | fail "no step")))
local macro_rules | `(tactic| walk_at "M halt") => `(tactic| repeat' (first | (k_unfold; (try dsimp only)) | (k_end; wrow_close) | ((fail_if_success (with_reducible show wpAny _ _ (exec (Stmt.While _ _ _ _) _) _ _ _)); (fail_if_success (with_reducible show wpAny _ _ (call (Value.ref _) _) _ _ _)); (fail_if_success (with_reducible show wpAny _ _ (subscriptTail _ _ (Value.str _ _) (Value.int _ _)) _ _ _)); (fail_if_success (with_reducible show wpAny _ _ (exec (Stmt.For _ _ _ _ _) _) _ _ _)); first | walk1 | (dsimp only; walk1) | (leave1; walk_say "STEP leave1"; try dsimp only) | fail "no step")))
local macro_rules | `(tactic| walk_at "M hs") => `(tactic| repeat' (first | (k_unfold; (try dsimp only)) | (k_end; wrow_close) | ((fail_if_success (with_reducible show wpAny _ _ (exec (Stmt.While _ _ _ _) _) _ _ _)); (fail_if_success (with_reducible show wpAny _ _ (call (Value.ref _) _) _ _ _)); (fail_if_success (with_reducible show wpAny _ _ (subscriptTail _ _ (Value.str _ _) (Value.int _ _)) _ _ _)); (fail_if_success (with_reducible show wpAny _ _ (exec (Stmt.For _ _ _ _ _) _) _ _ _)); (fail_if_success (with_reducible show wpAny _ _ (subscriptTail _ _ (Value.ref _) _) _ _ _)); (fail_if_success (with_reducible show wpAny _ _ (callWith _ (Value.ref _) _ _ _) _ _ _)); (fail_if_success (with_reducible show wpAny _ _ (truthy (Value.ref _)) _ _ _)); first | walk1 | (dsimp only; walk1) | (leave1; walk_say "STEP leave1"; try dsimp only) | fail "no step")))

local macro_rules | `(tactic| walk_at "M one") => `(tactic| (first | (k_unfold; (try dsimp only)) | (k_end; wrow_close) | ((fail_if_success (with_reducible show wpAny _ _ (exec (Stmt.While _ _ _ _) _) _ _ _)); (fail_if_success (with_reducible show wpAny _ _ (call (Value.ref _) _) _ _ _)); (fail_if_success (with_reducible show wpAny _ _ (call (Value.builtin "sorted") _) _ _ _)); (fail_if_success (with_reducible show wpAny _ _ (eval (Expr.ListComp _ _ _ _) _) _ _ _)); (fail_if_success (with_reducible show wpAny _ _ (exec (Stmt.Assign _ (Expr.ListComp _ _ _ _) _) _) _ _ _)); (fail_if_success (with_reducible show wpAny _ _ (subscriptTail _ _ (Value.str _ _) _) _ _ _)); (fail_if_success (with_reducible show wpAny _ _ (subscriptTail _ _ (Value.ref _) (Value.ref _)) _ _ _)); (fail_if_success (with_reducible show wpAny _ _ (pyIter (Value.ref _)) _ _ _)); (fail_if_success (with_reducible show wpAny _ _ (call (Value.builtin "str.join") _) _ _ _)); (fail_if_success (with_reducible show wpAny _ _ (compareOp _ (Value.ref _) (Value.ref _)) _ _ _)); (fail_if_success (with_reducible show wpAny _ _ (compareOp _ (Value.str _ _) (Value.ref _)) _ _ _)); (fail_if_success (with_reducible show wpAny _ _ (exec (Stmt.For _ _ _ _ _) _) _ _ _)); first | walk1 | (dsimp only; walk1) | (leave1; walk_say "STEP leave1"; try dsimp only) | fail "no step")))
local macro_rules | `(tactic| walk_at "M sub") => `(tactic| (refine fun p hp => List.Sublist.subset (?_ : List.Sublist _ _) hp; first | ((with_reducible (repeat (first | exact List.nil_sublist _ | refine List.Sublist.cons_cons _ ?_ | refine List.Sublist.cons _ ?_))); done) | (repeat (first | exact List.nil_sublist _ | refine List.Sublist.cons_cons _ ?_ | refine List.Sublist.cons _ ?_))))
local macro_rules | `(tactic| walk_at "M perm") => `(tactic| ((try unfold nW); (try dsimp only); (repeat (refine List.forall_mem_cons.mpr ⟨?_, ?_⟩; focus (walk_at "M at"))); exact List.forall_mem_nil _))
local macro_rules | `(tactic| walk_at "M wkeys") => `(tactic| (refine mW_keys ?_ ?_ ?_ ?_ ?_ ?_ <;> first | rfl | (intro z z0 z1 z2 z3 z4 z5; (try dsimp only); simp only [mW, if_neg z0, if_neg z1, if_neg z2, if_neg z3, if_neg z4, if_neg z5])))
local macro_rules | `(tactic| walk_at "M wall") => `(tactic| (refine mW_all ?_ ?_ ?_ ?_ ?_ ?_ ?_ <;> first | rfl | (intro z z0 z1 z2 z3 z4 z5; (try dsimp only); simp only [mW, if_neg z0, if_neg z1, if_neg z2, if_neg z3, if_neg z4, if_neg z5])))
local macro_rules | `(tactic| walk_at "M law") => `(tactic| repeat' walk_at "M one")
local macro_rules | `(tactic| k_ne) => `(tactic| ((try dsimp only); first | exact Apart.ne (by with_reducible assumption) | exact Ne.symm (Apart.ne (by with_reducible assumption))))
local macro_rules | `(tactic| walk_at "M at") => `(tactic| first | ((with_reducible (repeat (first | exact List.mem_cons_self | refine List.mem_cons_of_mem _ ?_))); done) | (repeat (first | exact List.mem_cons_self | refine List.mem_cons_of_mem _ ?_)))

local macro_rules | `(tactic| walk_at "M rkeys") => `(tactic| (refine mR_keys ?_ ?_ ?_ ?_ ?_ <;> first | rfl | (intro z z0 z1 z2 z3; (try dsimp only); simp only [mR, if_neg z0, if_neg z1, if_neg z2, if_neg z3])))
set_option maxRecDepth 100000 in
set_option maxHeartbeats 8000000 in
theorem rest_spec (w : World) (mean : ExcName → Option Value) (mg mb : Str → Option Value) (g0 : Heap) (L0 : Nat) (fa : Addr) (cd : Value) (X0 : (KK w.params).In g0) (T0 : Top topProg LL mean mg mb g0) (K0 : Below callerA g0 [] g0) (l57 : 57 < L0)
    (l : Ltr) (bs : List Bool) (hn5 : bs.length ≤ 5) (hf : Nat) (hhf : bs.length / 2 + 1 = hf) (mo : Str → Option Value) (tl Dp : Addr) (pvs : List Value) (ep : Nat) (o5 o4 o3 ow op : Obj) (v3 : Option Value) (th tw : Tok)
    (d5 : o5.data = .cell none) (d4 : o4.data = .cell none) (d3 : o3.data = .cell v3) (dw : ow.data = .cell (some (.str (l.tx bs) tw))) (dp : op.data = .cell (some (.ref Dp))) (ltl : @LT.lt Nat _ Dp tl) (lDp : @LT.lt Nat _ (L0 + 1 + 1 + 1 + 1 + 1) Dp)
    (hpv : Txs pvs [l.tx [false], l.tx [true]]) (lf : Addr) (lvs tvs : List Value) (nl nt : Nat) (hlv : Txs lvs [l.tx bs]) (htv : Txs tvs (((wordsB hf).filter fun q => subB q bs).map l.tx))
    (offl : ∀ a ∈ [tl, Dp, L0 + 1 + 1 + 1 + 1 + 1, L0 + 1 + 1 + 1 + 1, L0 + 1 + 1 + 1, L0 + 1 + 1, L0 + 1, 57], Apart a lf)
    (h : Heap) (tk : Nat) (s1 : Shared) (Q2 : Flow → Shared → Prop) (E : Value → Shared → Prop) (hpo : PassesOwn (model PySem.Challenge.rw_kt0017_01.row.prog w) (callerA.deeper (lawEnv L0 fa cd)) (lawEnv L0 fa cd) E)
    (hmt : mo ((Str.ofString "taking")) = some (.ref tl)) (hml : mo ((Str.ofString "left")) = some (.ref lf)) (hmh : mo ((Str.ofString "half")) = some (.int (hf : Int) th)) (F2 : Fr g0 L0 h mo)
    (N2 : News g0 L0 h [(tl, listOf tvs.toArray nt), (lf, listOf lvs.toArray nl), (Dp, listOf pvs.toArray ep), (L0 + 1 + 1 + 1 + 1 + 1, o5), (L0 + 1 + 1 + 1 + 1, o4), (L0 + 1 + 1 + 1, o3), (L0 + 1 + 1, ow), (L0 + 1, op), (57, tabObj #[])])
    (hQ : ∀ h' tk' m', Fr g0 L0 h' m' → News g0 L0 h' [(57, tabObj #[])] → Q2 (.ret (.bool true)) { s1 with heap := h', toks := tk' }) :
    wpAny (model PySem.Challenge.rw_kt0017_01.row.prog w) (callerA.deeper (lawEnv L0 fa cd)) (execs lawTail (lawEnv L0 fa cd)) Q2 E { s1 with heap := h, toks := tk } := by
  have gc : ∀ k : Nat, L0 < k → Apart 57 k := fun k hk => Nat.ne_of_lt (by omega)
  have hlt5 : (l.tx bs).length ≤ 5 := by rw [l.tx_len]; exact hn5
  revert X0
  k_fill
  intro X0
  unfold lawEnv at hpo ⊢
  dsimp only [lawTail, lawDef, PySem.Challenge.pw_kt0017_01, List.reverse, List.reverseAux] at hpo ⊢
  simp only [List.forall_mem_cons] at offl
  obtain ⟨p1, p2, p3, p4, p5, p6, p7, p8, _⟩ := offl
  have ta1 : Apart Dp (L0 + 1 + 1 + 1 + 1) := Nat.ne_of_gt (by omega)
  have ta2 : Apart tl (L0 + 1 + 1 + 1 + 1) := Nat.ne_of_gt (by omega)
  have ta3 : Apart (L0 + 1 + 1 + 1 + 1) (L0 + 1 + 1 + 1 + 1 + 1) := Nat.ne_of_lt (by omega)
  have ta4 : Apart (L0 + 1 + 1 + 1) (L0 + 1 + 1 + 1 + 1) := Nat.ne_of_lt (by omega)
  have ta5 : Apart (L0 + 1 + 1) (L0 + 1 + 1 + 1 + 1) := Nat.ne_of_lt (by omega)
  have ta6 : Apart (L0 + 1) (L0 + 1 + 1 + 1 + 1) := Nat.ne_of_lt (by omega)
  have ta7 : Apart 57 (L0 + 1 + 1 + 1 + 1) := Nat.ne_of_lt (by omega)
  replace F2 : Fr g0 L0 h (mR mo tl lf hf th (mo ((Str.ofString "kept")))) := Fr.cong F2 (mR_keys rfl hmt hml hmh fun _ _ _ _ _ => rfl)
  unfold mR at F2
  walk_at "M law"
  (rename Fr _ _ _ _ => F9); (rename News _ _ _ _ => N9)
  rename (_ : Obj).data = Data.cell (some (Value.ref _)) => dsl
  rename tl < _ ∧ _ => lt9
  obtain ⟨sl, o4', dsl, N8, lsl⟩ : ∃ (sl : Addr) (o4' : Obj), o4'.data = .cell (some (.ref sl)) ∧ News g0 L0 _ ((L0 + 1 + 1 + 1 + 1 + 1, o5) :: nR sl tl lf Dp L0 tvs lvs pvs nt nl ep o4' o3 ow op ⟨[], 0, mo ((Str.ofString "kept"))⟩) ∧ (∀ a ∈ [tl, lf, Dp, L0 + 1 + 1 + 1 + 1 + 1, L0 + 1 + 1 + 1 + 1, L0 + 1 + 1 + 1, L0 + 1 + 1, L0 + 1, 57], Apart a sl) := ⟨_, _, dsl, News.sub N9 (by unfold nR; walk_at "M perm"), List.forall_mem_cons.mpr ⟨Nat.ne_of_lt lt9.1, List.forall_mem_cons.mpr ⟨Nat.ne_of_lt lt9.2.1, List.forall_mem_cons.mpr ⟨Nat.ne_of_lt lt9.2.2.1, List.forall_mem_cons.mpr ⟨Nat.ne_of_lt lt9.2.2.2.1, List.forall_mem_cons.mpr ⟨Nat.ne_of_lt lt9.2.2.2.2.1, List.forall_mem_cons.mpr ⟨Nat.ne_of_lt lt9.2.2.2.2.2.1, List.forall_mem_cons.mpr ⟨Nat.ne_of_lt lt9.2.2.2.2.2.2.1, List.forall_mem_cons.mpr ⟨Nat.ne_of_lt lt9.2.2.2.2.2.2.2.1, List.forall_mem_cons.mpr ⟨Nat.ne_of_lt lt9.2.2.2.2.2.2.2.2, List.forall_mem_nil _⟩⟩⟩⟩⟩⟩⟩⟩⟩⟩
  have F8 := F9
  clear F9 N9 lt9
  refine for_cell (fun r s₁ => ∃ h tk t0 u0 v0, s₁ = { s1 with heap := h, toks := tk } ∧ Fr g0 L0 h (mR mo tl lf hf th (mo ((Str.ofString "kept")))) ∧ News g0 L0 h ((L0 + 1 + 1 + 1 + 1 + 1, o5) :: nR sl tl lf Dp L0 tvs lvs pvs nt nl ep o4' o3 ow op ⟨[], 0, mo ((Str.ofString "kept"))⟩) ∧ IsRange h r 0 ((2 ^ bs.length : Nat) : Int) 1 t0 u0 v0) ?hit ?hgo
  case hit =>
    unfold nR at N8
    walk_at "M law"
    · rename Fr _ _ _ _ => F9; exact F9
    · rename News _ _ _ _ => N9; exact N9
    · have e2 : (2 : Int) ^ ((((l.tx bs).length : Nat) : Int).toNat) = ((2 ^ bs.length : Nat) : Int) := by rw [Int.toNat_natCast, l.tx_len]; push_cast; rfl
      rename IsRange _ _ _ _ _ _ _ _ => R9
      rw [e2] at R9
      exact R9
  case hgo =>
    clear F8 N8
    rintro r _ ⟨h5, tk5, t0, u0, v0, rfl, F5, N5, hr⟩
    obtain ⟨rk1, rk2, rk3, rk4⟩ := range_ok bs.length hn5
    simp only [List.forall_mem_cons] at lsl
    obtain ⟨q1, q2, q3, q4, q5, q6, q7, q8, q9, _⟩ := lsl
    have hoffs : ∀ {c : NT}, ∀ p ∈ nR sl tl lf Dp L0 tvs lvs pvs nt nl ep o4' o3 ow op c, p.1 ≠ L0 + 1 + 1 + 1 + 1 + 1 := fun {c} => List.forall_mem_cons.mpr ⟨(Apart.ne q4).symm, List.forall_mem_cons.mpr ⟨Nat.ne_of_gt (by omega), List.forall_mem_cons.mpr ⟨(Apart.ne p3).symm, List.forall_mem_cons.mpr ⟨Nat.ne_of_gt (by omega), List.forall_mem_cons.mpr ⟨Nat.ne_of_lt (by omega), List.forall_mem_cons.mpr ⟨Nat.ne_of_lt (by omega), List.forall_mem_cons.mpr ⟨Nat.ne_of_lt (by omega), List.forall_mem_cons.mpr ⟨Nat.ne_of_lt (by omega), List.forall_mem_cons.mpr ⟨Nat.ne_of_lt (by omega), List.forall_mem_nil _⟩⟩⟩⟩⟩⟩⟩⟩⟩
    refine loop_cell (fun c : NT => mR mo tl lf hf th c.kept) (nR sl tl lf Dp L0 tvs lvs pvs nt nl ep o4' o3 ow op) (PR l bs hf) ⟨[], 0, mo ((Str.ofString "kept"))⟩ rfl hr rk1 rk2 rfl rfl rfl rfl hpo F5 d5 N5 .nil ?hoffs (nR_cls dsl d3 dw dp) ?turn ?done
    case hoffs => exact fun c => hoffs
    case done =>
      clear F5 N5
      intro c h6 tk6 oc v hP doc F6 N6
      have hU : ∀ {env : Env}, (callerA.deeper env).units < cLine := fun {_} => by simp only [units_deeper, units_caller]; decide
      have hl1 : ∀ y ∈ [l.tx [false], l.tx [true]], y.length = 1 := by
        intro y hy
        rcases List.mem_cons.mp hy with rfl | hy
        · rfl
        · rw [List.mem_singleton.mp hy]; rfl
      have hcn : ∀ q ∈ wordsB hf, ((((List.range (2 ^ bs.length)).map (keptB bs)).filter fun x => x.length == hf).contains q) = subB q bs := fun q hq => by
        have := struck_end hn5 rfl (hhf ▸ hq)
        rw [hhf] at this
        exact this
      unfold mR at F6
      unfold nR at N6
      walk_at "M law"
      refine comp_list (h₀ := g0) (L := L0) (cl := [((Str.ofString "struck"), L0 + 1 + 1 + 1 + 1)]) (hasV c.svs) (fun v y => y = v) (fun a s₁ => ∃ h tk pts np, s₁ = { s1 with heap := h, toks := tk } ∧ Fr g0 L0 h (mR mo tl lf hf th c.kept) ∧
        News g0 L0 h ((a, listOf (List.toArray pts) np) :: (L0 + 1 + 1 + 1 + 1 + 1, oc) :: nR sl tl lf Dp L0 tvs lvs pvs nt nl ep o4' o3 ow op c) ∧ Txs pts ((wordsB hf).map l.tx)) rfl (by decide) rfl (by decide) rfl rfl ?hit3 ?hgo3
      case hit3 =>
        walk_at "M law"
        (rename Fr _ _ _ _ => F9); (rename News _ _ _ _ => N9)
        refine Spec.go (all_spec w mean mg mb Dp pvs [l.tx [false], l.tx [true]] hf _ hpv rfl hl1 (by omega)) K0 F9 X0 T0 rfl ?r1 ?r2 ⟨_, (N9 (Dp, listOf pvs.toArray ep) (by walk_at "M at")).1, rfl, _, rfl⟩ ?_
        case r1 => decide
        case r2 => decide
        rintro r h9 tk9 hst ⟨wl, np, pts, rfl, hn1, hn2, hpt⟩
        rw [l.words] at hpt
        exact ⟨wl, rfl, h9, tk9, pts, np, rfl, Fr.keeps F9 hst, News.more F9 (News.keeps N9 hst) hn1 hn2, hpt⟩
      case hgo3 =>
        rintro wl _ ⟨h7, tk7, pts, np, rfl, F7, N7, hpt⟩
        refine ⟨_, _, pts, F7, N7, N7.isList List.mem_cons_self, ?z9, ?tests3, ?elts3, ?fin3⟩
        case z9 =>
          have h1 := Txs.length hpt
          have h3 : 2 ^ hf ≤ 2 ^ 3 := Nat.pow_le_pow_right (by decide) (show hf ≤ 3 by omega)
          rw [List.length_map, count_wordsB] at h1
          exact Nat.le_trans (Nat.le_of_eq h1) (Nat.le_trans h3 (show 2 ^ 3 ≤ sizeLine by unfold sizeLine; decide))
        case tests3 =>
          intro C v s₃ m₃ E'' hv hns hm F3 N3
          obtain ⟨y, t, rfl⟩ : ∃ y t, v = .str (l.tx y) t := by
            obtain ⟨iv, hiv⟩ := List.mem_iff_getElem?.mp hv
            obtain ⟨y, t, rfl, hy⟩ := hpt.at hiv
            rw [List.getElem?_map] at hy
            cases hw : (wordsB hf)[iv]? with
            | none => rw [hw] at hy; cases hy
            | some z => rw [hw] at hy; exact ⟨z, t, by rw [← Option.some.inj hy]⟩
          unfold nR at N3
          refine wpAny_tests_one ?_
          walk_at "M law"
          refine in_texts ⟨_, (N3 (sl, listOf c.svs.toArray c.ns) (by walk_at "M at")).1, rfl, _, rfl⟩ hP ?_
          rw [← hasV_tx hP (t := t)]
          walk_at "M law"
          exact ⟨_, _, rfl, fun _ _ e => e⟩
        case elts3 =>
          intro C v s₃ m₃ E'' hv _ hns hm F3 N3
          exact wpAny_Name (wpAny_loadName_local rfl rfl hns hm ⟨rfl, _, _, rfl, fun _ _ e => e⟩) (by decide)
        case fin3 =>
          intro D nn h8 tk8 ys F8 N8 off8 hG
          have hys := paired_eq hG
          subst hys
          have hft := txs_filter (P := fun q => subB q bs) (p := hasV c.svs) hpt (fun b t hb => by rw [hasV_tx hP]; exact hcn b hb)
          generalize pts.filter (hasV c.svs) = zs at N8 hft
          clear F6 N6 F7 N7
          unfold mR at F8
          unfold nR at N8
          walk_at "M law"
          (rename Fr _ _ _ _ => F9); (rename News _ _ _ _ => N9)
          refine rcne_texts ⟨_, (N9 (tl, listOf tvs.toArray nt) (by walk_at "M at")).1, rfl, _, rfl⟩ ⟨_, (N9 (D, listOf zs.toArray nn) (by walk_at "M at")).1, rfl, _, rfl⟩ htv hft hU _ _ _ _ ?_
          walk_at "M law"
          (rename Fr _ _ _ _ => F9); (rename News _ _ _ _ => N9)
          refine rc_texts (ws := [.str (l.tx bs) tw]) ⟨_, (N9 (lf, listOf lvs.toArray nl) (by walk_at "M at")).1, rfl, _, rfl⟩ ⟨_, (N9 _ List.mem_cons_self).1, rfl, _, rfl⟩ hlv (.cons .nil) hU _ _ _ _ ?_
          walk_at "M law"
          (rename Fr _ _ _ _ => F9); (rename News _ _ _ _ => N9)
          exact hQ _ _ _ F9 (News.sub N9 (by walk_at "M perm"))
    case turn =>
      clear F5 N5
      intro i c h6 tk6 t6 oc I it Q3 hi hP doc cI offI F6 N6 hrr hbb hn
      unfold mR at F6
      unfold nR at N6 offI
      simp only [List.cons_append, List.nil_append] at N6
      simp only [List.forall_mem_cons] at offI
      obtain ⟨i1, i2, i3, i4, i5, i6, i7, i8, i9, _⟩ := offI
      walk_at "M law"
      refine comp_rng (h₀ := g0) (L := L0) (n := bs.length) (cl := [((Str.ofString "word"), L0 + 1 + 1), ((Str.ofString "number"), L0 + 1 + 1 + 1 + 1 + 1)]) (bitV i) (keptG l bs) (fun r s₁ => ∃ h tk t0 u0 v0, s₁ = { s1 with heap := h, toks := tk } ∧ Fr g0 L0 h (mR mo tl lf hf th c.kept) ∧
        News g0 L0 h ((L0 + 1 + 1 + 1 + 1 + 1, oc) :: (nR sl tl lf Dp L0 tvs lvs pvs nt nl ep o4' o3 ow op c ++ [(I, it)])) ∧ IsRange h r 0 (bs.length : Int) 1 t0 u0 v0) rfl (by decide) rfl (by decide) rfl rfl rk3 rk4 (by unfold sizeLine; omega) ?hit2 ?hgo2
      case hit2 =>
        walk_at "M law"
        · rename Fr _ _ _ _ => F9; exact F9
        · rename News _ _ _ _ => N9; exact N9
        · rename IsRange _ _ _ _ _ _ _ _ => R9
          rw [l.tx_len] at R9
          exact R9
      case hgo2 =>
        rintro r2 _ ⟨h7, tk7, t1, u1, v1, rfl, F7, N7, hr2⟩
        refine ⟨_, _, _, _, _, F7, N7, hr2, ?tests, ?elts, ?fin⟩
        case tests =>
          intro C k t s₃ m₃ E'' hk hns hm F3 N3
          refine wpAny_tests_one ?_
          unfold nR at N3
          simp only [List.cons_append, List.nil_append] at N3
          walk_at "M law"
          · exact bit_eq i k t
          · exact ⟨_, _, rfl, fun _ _ e => e⟩
        case elts =>
          intro C k t s₃ m₃ E'' hk _ hns hm F3 N3
          unfold nR at N3
          simp only [List.cons_append, List.nil_append] at N3
          walk_at "M law"
          refine item_cp (tx_at l hk) (by omega) ?_
          exact ⟨⟨k, t, _, rfl, rfl⟩, _, _, rfl, fun _ _ e => e⟩
        case fin =>
          intro D nn h' tk ys vs' hlen hvs F9 N9 off9 hG
          have hyt := kept_txs hlen hvs hG
          have hkl : (l.tx (keptB bs i)).length ≤ 5 := by
            rw [l.tx_len]
            exact Nat.le_trans (kept_len bs i) hn5
          clear F6 N6 F7 N7
          walk_at "M law"
          (rename Fr _ _ _ _ => F9); (rename News _ _ _ _ => N9)
          refine join_listW (items := ys.toArray) (N9.isList List.mem_cons_self) (by simpa using hyt.strs) (by decide) ?wt ?_
          case wt =>
            have := sum_le ((keptB bs i).map fun b => l.tx [b]) (fun x hx => by
              obtain ⟨b, _, rfl⟩ := List.mem_map.mp hx
              rw [l.tx_len]; exact Nat.le_of_ble_eq_true rfl)
            have h5 := kept_len bs i
            simp only [List.length_map] at this ⊢
            omega
          intro t8 k8
          rw [join_bits]
          replace N9 := News.sub N9 (fun p hp => List.mem_cons_of_mem _ hp)
          unfold nR at N9
          simp only [List.cons_append, List.nil_append] at N9
          have hsl : c.svs.length ≤ 32 := by
            have h1 := Txs.length hP
            have h2 := List.length_filter_le (fun x : List Bool => x.length == hf) ((List.range i).map (keptB bs))
            have h3 : 2 ^ bs.length ≤ 2 ^ 5 := Nat.pow_le_pow_right (by decide) hn5
            rw [List.length_map] at h1
            rw [List.length_map, List.length_range] at h2
            exact Nat.le_trans (Nat.le_of_eq h1) (Nat.le_trans h2 (Nat.le_trans (Nat.le_of_lt hi) h3))
          walk_at "M law"
          all_goals (rename Fr _ _ _ _ => F9); (rename News _ _ _ _ => N9)
          · have hkf : (keptB bs i).length = hf := by
              rw [← l.tx_len]; omega
            replace N9 := News.sub (as := [(sl, listOf c.svs.toArray c.ns), (tl, listOf tvs.toArray nt), (lf, listOf lvs.toArray nl), (Dp, listOf pvs.toArray ep), (L0 + 1 + 1 + 1 + 1 + 1, oc), (L0 + 1 + 1 + 1 + 1, o4'), (L0 + 1 + 1 + 1, o3), (L0 + 1 + 1, ow), (L0 + 1, op), (57, tabObj #[]), (I, it)]) N9 (by walk_at "M perm")
            refine append_in (own := []) (ys := c.svs) F9 N9 (fun _ hp => nomatch hp) (List.forall_mem_cons.mpr ⟨q1, List.forall_mem_cons.mpr ⟨q2, List.forall_mem_cons.mpr ⟨q3, List.forall_mem_cons.mpr ⟨q4, List.forall_mem_cons.mpr ⟨q5, List.forall_mem_cons.mpr ⟨q6, List.forall_mem_cons.mpr ⟨q7, List.forall_mem_cons.mpr ⟨q8, List.forall_mem_cons.mpr ⟨q9, List.forall_mem_cons.mpr ⟨(Ne.symm i1), List.forall_mem_nil _⟩⟩⟩⟩⟩⟩⟩⟩⟩⟩) ?_ (Nat.le_trans hsl (show 32 ≤ sizeLine by unfold sizeLine; decide))
            clear F9 N9
            intro hb FB NB
            walk_at "M law"
            (rename Fr _ _ _ _ => F9); (rename News _ _ _ _ => N9)
            refine hn .next ⟨c.svs ++ [.str (l.tx (keptB bs i)) t8], c.ns + 1, some (.str (l.tx (keptB bs i)) t8)⟩ _ _ _ _ (.inl rfl) F9 N9 (by walk_at "M rkeys") (by walk_at "M at") (by unfold nR; walk_at "M perm") (by walk_at "M at") (PR_next hP (t := t8) ?_)
            rw [if_pos hkf]
          · have hkf : ¬ (keptB bs i).length = hf := by
              rw [← l.tx_len]; omega
            refine hn .next ⟨c.svs, c.ns, some (.str (l.tx (keptB bs i)) t8)⟩ _ _ _ _ (.inl rfl) F9 N9 (by walk_at "M rkeys") (by walk_at "M at") (by unfold nR; walk_at "M perm") (by walk_at "M at") (PR_next hP (t := t8) ?_)
            rw [if_neg hkf]
end Mine
end
section
open PySem PySem.W PyProof.Rows PySem.Calls PySem.Spec
namespace Mine
local macro_rules | `(tactic| k_room) => `(tactic| ktr_room)
local macro_rules | `(tactic| walk_at "M enter") => `(tactic| (k_dflt (refine' enterP ?k1 ?k2 ?k3 ?k5 ?kA ?kF ?kK ?k6 ?k7 ?k8 ?k9 ?kB ?_ ?c2 ?c3 ?c4 ?c5; (case kA => exact rfl); (case kF => exact rfl); (case kK => assumption); (case k1 => k_asm); (case k2 => k_asm); (case k3 => k_asm); (case k5 => k_asm); (case k6 => k_is); (case k7 => k_is); (case k8 => ktr_room); (case k9 => exact BindsTo.of_eq rfl); (case c5 => decide); (case kB => exact locs rfl); (case c2 => exact rfl); (case c3 => exact rfl); (case c4 => exact rfl); k_whole)))
local macro_rules | `(tactic| walk_at "M frame") => `(tactic| (intro z hz; (try dsimp only); (repeat' split) <;> first | rfl | contradiction | (exfalso; simp_all; done) | (simp_all; done)))
local macro_rules | `(tactic| walk_at "M frame0") => `(tactic| (intro z; (try dsimp only); (repeat' split) <;> first | rfl | contradiction | (exfalso; simp_all; done) | (subst_vars; first | rfl | (exfalso; simp_all (config := { decide := true }); done) | (simp (config := { decide := true }) at *; done)) | (simp_all; done)))
local macro_rules | `(tactic| walk_at "M led") => `(tactic| (intro p hp; first | exact absurd hp List.not_mem_nil | ((simp only [List.mem_cons, List.mem_append, List.not_mem_nil, or_false, false_or] at hp ⊢); ((repeat (rcases hp with hp | hp)) <;> first | (simp only [hp, true_or, or_true]; done) | (simp; done)))))
local macro_rules | `(tactic| walk_at "M mem") => `(tactic| first | (simp only [List.mem_cons, List.mem_append, List.not_mem_nil, or_false, false_or, true_or, or_true]; done) | (simp; done))
local macro_rules | `(tactic| walk_at "M enterC") => `(tactic| (k_dflt (refine' enterC ?k1 ?k2 ?k3 ?k5 ?kA ?kF ?kK ?k6 ?k7 ?k8 ?k9 ?kB ?kD ?_ ?c2 ?c3 ?c4; (case kA => exact rfl); (case kF => exact rfl); (case kK => assumption); (case k1 => k_asm); (case k2 => k_asm); (case k3 => k_asm); (case k5 => k_asm); (case k6 => k_is); (case k7 => k_is); (case k8 => ktr_room); (case k9 => exact BindsTo.of_eq rfl); (case kB => exact rfl); (case kD => decide +kernel); (case c2 => exact rfl); (case c3 => exact rfl); (case c4 => exact rfl); k_whole)))
local macro_rules | `(tactic| walk_at "M steps") => `(tactic| repeat' (first | (k_unfold; (try dsimp only)) | (k_end; wrow_close) | ((fail_if_success (with_reducible show wpAny _ _ (exec (Stmt.While _ _ _ _) _) _ _ _)); (fail_if_success (with_reducible show wpAny _ _ (exec (Stmt.For _ _ _ _ _) _) _ _ _)); first | walk1 | (dsimp only; walk1) | (leave1; walk_say "STEP leave1"; try dsimp only) | fail "no step")))
local macro_rules | `(tactic| walk_at "M ss") => `(tactic| repeat' (first | (k_unfold; (try dsimp only)) | (k_end; wrow_close) | ((fail_if_success (with_reducible show wpAny _ _ (exec (Stmt.While _ _ _ _) _) _ _ _)); (fail_if_success (with_reducible show wpAny _ _ (exec (Stmt.For _ _ _ _ _) _) _ _ _)); (fail_if_success (with_reducible show wpAny _ _ (subscriptTail _ _ (Value.ref _) _) _ _ _)); (fail_if_success (with_reducible show wpAny _ _ (callWith _ (Value.ref _) _ _ _) _ _ _)); (fail_if_success (with_reducible show wpAny _ _ (truthy (Value.ref _)) _ _ _)); first | walk1 | (dsimp only; walk1) | (leave1; walk_say "STEP leave1"; try dsimp only) | fail "no step")))
local macro_rules | `(tactic| walk_at "M halt") => `(tactic| repeat' (first | (k_unfold; (try dsimp only)) | (k_end; wrow_close) | ((fail_if_success (with_reducible show wpAny _ _ (exec (Stmt.While _ _ _ _) _) _ _ _)); (fail_if_success (with_reducible show wpAny _ _ (call (Value.ref _) _) _ _ _)); (fail_if_success (with_reducible show wpAny _ _ (subscriptTail _ _ (Value.str _ _) (Value.int _ _)) _ _ _)); (fail_if_success (with_reducible show wpAny _ _ (exec (Stmt.For _ _ _ _ _) _) _ _ _)); first | walk1 | (dsimp only; walk1) | (leave1; walk_say "STEP leave1"; try dsimp only) | fail "no step")))
local macro_rules | `(tactic| walk_at "M hs") => `(tactic| repeat' (first | (k_unfold; (try dsimp only)) | (k_end; wrow_close) | ((fail_if_success (with_reducible show wpAny _ _ (exec (Stmt.While _ _ _ _) _) _ _ _)); (fail_if_success (with_reducible show wpAny _ _ (call (Value.ref _) _) _ _ _)); (fail_if_success (with_reducible show wpAny _ _ (subscriptTail _ _ (Value.str _ _) (Value.int _ _)) _ _ _)); (fail_if_success (with_reducible show wpAny _ _ (exec (Stmt.For _ _ _ _ _) _) _ _ _)); (fail_if_success (with_reducible show wpAny _ _ (subscriptTail _ _ (Value.ref _) _) _ _ _)); (fail_if_success (with_reducible show wpAny _ _ (callWith _ (Value.ref _) _ _ _) _ _ _)); (fail_if_success (with_reducible show wpAny _ _ (truthy (Value.ref _)) _ _ _)); first | walk1 | (dsimp only; walk1) | (leave1; walk_say "STEP leave1"; try dsimp only) | fail "no step")))

local macro_rules | `(tactic| walk_at "M one") => `(tactic| (first | (k_unfold; (try dsimp only)) | (k_end; wrow_close) | ((fail_if_success (with_reducible show wpAny _ _ (exec (Stmt.While _ _ _ _) _) _ _ _)); (fail_if_success (with_reducible show wpAny _ _ (call (Value.ref _) _) _ _ _)); (fail_if_success (with_reducible show wpAny _ _ (call (Value.builtin "sorted") _) _ _ _)); (fail_if_success (with_reducible show wpAny _ _ (eval (Expr.ListComp _ _ _ _) _) _ _ _)); (fail_if_success (with_reducible show wpAny _ _ (exec (Stmt.Assign _ (Expr.ListComp _ _ _ _) _) _) _ _ _)); (fail_if_success (with_reducible show wpAny _ _ (subscriptTail _ _ (Value.str _ _) _) _ _ _)); (fail_if_success (with_reducible show wpAny _ _ (subscriptTail _ _ (Value.ref _) (Value.ref _)) _ _ _)); (fail_if_success (with_reducible show wpAny _ _ (pyIter (Value.ref _)) _ _ _)); (fail_if_success (with_reducible show wpAny _ _ (call (Value.builtin "str.join") _) _ _ _)); (fail_if_success (with_reducible show wpAny _ _ (compareOp _ (Value.ref _) (Value.ref _)) _ _ _)); (fail_if_success (with_reducible show wpAny _ _ (compareOp _ (Value.str _ _) (Value.ref _)) _ _ _)); (fail_if_success (with_reducible show wpAny _ _ (exec (Stmt.For _ _ _ _ _) _) _ _ _)); first | walk1 | (dsimp only; walk1) | (leave1; walk_say "STEP leave1"; try dsimp only) | fail "no step")))
local macro_rules | `(tactic| walk_at "M sub") => `(tactic| (refine fun p hp => List.Sublist.subset (?_ : List.Sublist _ _) hp; first | ((with_reducible (repeat (first | exact List.nil_sublist _ | refine List.Sublist.cons_cons _ ?_ | refine List.Sublist.cons _ ?_))); done) | (repeat (first | exact List.nil_sublist _ | refine List.Sublist.cons_cons _ ?_ | refine List.Sublist.cons _ ?_))))
local macro_rules | `(tactic| walk_at "M perm") => `(tactic| ((try unfold nW); (try dsimp only); (repeat (refine List.forall_mem_cons.mpr ⟨?_, ?_⟩; focus (walk_at "M at"))); exact List.forall_mem_nil _))
local macro_rules | `(tactic| walk_at "M wkeys") => `(tactic| (refine mW_keys ?_ ?_ ?_ ?_ ?_ ?_ <;> first | rfl | (intro z z0 z1 z2 z3 z4 z5; (try dsimp only); simp only [mW, if_neg z0, if_neg z1, if_neg z2, if_neg z3, if_neg z4, if_neg z5])))
local macro_rules | `(tactic| walk_at "M wall") => `(tactic| (refine mW_all ?_ ?_ ?_ ?_ ?_ ?_ ?_ <;> first | rfl | (intro z z0 z1 z2 z3 z4 z5; (try dsimp only); simp only [mW, if_neg z0, if_neg z1, if_neg z2, if_neg z3, if_neg z4, if_neg z5])))
local macro_rules | `(tactic| walk_at "M law") => `(tactic| repeat' walk_at "M one")
local macro_rules | `(tactic| k_ne) => `(tactic| ((try dsimp only); first | exact Apart.ne (by with_reducible assumption) | exact Ne.symm (Apart.ne (by with_reducible assumption))))
local macro_rules | `(tactic| walk_at "M at") => `(tactic| first | ((with_reducible (repeat (first | exact List.mem_cons_self | refine List.mem_cons_of_mem _ ?_))); done) | (repeat (first | exact List.mem_cons_self | refine List.mem_cons_of_mem _ ?_)))

noncomputable def law_holds.tw2446358144275080391 : Nat := 0
noncomputable def law_holds.tw18261290160731607033 : Nat := 0
noncomputable def law_holds.tw5389484754426515990 : Nat := 0
noncomputable def law_holds.tw17666726286645218419 : Nat := 0
noncomputable def law_holds.tw15759456685926392790 : Nat := 0
noncomputable def law_holds.tw3627736009189107299 : Nat := 0
noncomputable def law_holds.tw1368703845052558925 : Nat := 0
noncomputable def law_holds.tw14455624779970515874 : Nat := 0
noncomputable def law_holds.tw2403936638168957523 : Nat := 0
noncomputable def law_holds.tw2717642912124139242 : Nat := 0
noncomputable def law_holds.tw10958410103948607464 : Nat := 0
noncomputable def law_holds.tw14160533322030094474 : Nat := 0
noncomputable def law_holds.tw1622690429015379626 : Nat := 0
noncomputable def law_holds.tw6564709946809587534 : Nat := 0
noncomputable def law_holds.tw16465408903239670219 : Nat := 0
noncomputable def law_holds.tw1905533677188600702 : Nat := 0
noncomputable def law_holds.tw7636989558263936852 : Nat := 0
noncomputable def law_holds.tw13780023080261437657 : Nat := 0
noncomputable def law_holds.tw8666519363043736892 : Nat := 0
noncomputable def law_holds.tw13878215891399581383 : Nat := 0
noncomputable def law_holds.tw3912811242725288453 : Nat := 0
noncomputable def law_holds.tw13800757232730249582 : Nat := 0
noncomputable def law_holds.tw2442502879453312968 : Nat := 0
noncomputable def law_holds.tw4946720094412051239 : Nat := 0
noncomputable def law_holds.tw7421483335098213213 : Nat := 0
noncomputable def law_holds.tw14167736204761360315 : Nat := 0
noncomputable def law_holds.tw16182259748660777344 : Nat := 0
noncomputable def law_holds.tw7421514118734006257 : Nat := 0
noncomputable def law_holds.tw2882485010973397480 : Nat := 0
noncomputable def law_holds.tw1608705131773203619 : Nat := 0
noncomputable def law_holds.tw11162154702790232392 : Nat := 0
noncomputable def law_holds.tw11966672015165255308 : Nat := 0
noncomputable def law_holds.tw4524032621918665186 : Nat := 0
noncomputable def law_holds.tw15298196793531828919 : Nat := 0
noncomputable def law_holds.tw5640673133297012132 : Nat := 0
noncomputable def law_holds.tw11470271118054631628 : Nat := 0
noncomputable def law_holds.tw13766487248619392586 : Nat := 0
noncomputable def law_holds.tw16273140198857503625 : Nat := 0
noncomputable def law_holds.tw6704310671800884803 : Nat := 0
noncomputable def law_holds.tw15012669898789001497 : Nat := 0
noncomputable def law_holds.tw15802469936163623734 : Nat := 0
noncomputable def law_holds.tw14390095281932903014 : Nat := 0
noncomputable def law_holds.tw3850404396616230974 : Nat := 0
noncomputable def law_holds.tw11789484784352828139 : Nat := 0
noncomputable def law_holds.tw2269544990204364226 : Nat := 0
noncomputable def law_holds.tw14561673929254271789 : Nat := 0
noncomputable def law_holds.tw3253820488102484341 : Nat := 0
noncomputable def law_holds.tw6507877686720480950 : Nat := 0
noncomputable def law_holds.tw3186734533307500241 : Nat := 0
noncomputable def law_holds.tw16106779387088534511 : Nat := 0
noncomputable def law_holds.tw14822640431511872941 : Nat := 0
noncomputable def law_holds.tw6934448944433832347 : Nat := 0
noncomputable def law_holds.tw8441880690091102137 : Nat := 0
noncomputable def law_holds.tw9877673877710030480 : Nat := 0
noncomputable def law_holds.tw9261925671935455067 : Nat := 0
noncomputable def law_holds.tw2124134355350193313 : Nat := 0
noncomputable def law_holds.tw447027507633508388 : Nat := 0
noncomputable def law_holds.tw4037582482628031876 : Nat := 0
noncomputable def law_holds.tw14498155544194170393 : Nat := 0
noncomputable def law_holds.tw10368410895845634921 : Nat := 0
noncomputable def law_holds.tw653560878884961445 : Nat := 0
noncomputable def law_holds.tw11404014056486942332 : Nat := 0
noncomputable def law_holds.tw5506821171919863439 : Nat := 0
noncomputable def law_holds.tw3438298445031660282 : Nat := 0
noncomputable def law_holds.tw10164210789698999147 : Nat := 0
noncomputable def law_holds.tw12336541308636382938 : Nat := 0
noncomputable def law_holds.tw5704573470221299744 : Nat := 0
noncomputable def law_holds.tw16720094985154256693 : Nat := 0
noncomputable def law_holds.tw12977093529070104392 : Nat := 0
noncomputable def law_holds.tw11182679623053108816 : Nat := 0
noncomputable def law_holds.tw15014403891855920072 : Nat := 0
noncomputable def law_holds.tw16978406815995349258 : Nat := 0
noncomputable def law_holds.tw9992725586745946429 : Nat := 0
noncomputable def law_holds.tw5716139906906698068 : Nat := 0
noncomputable def law_holds.tw14997073306097389879 : Nat := 0
noncomputable def law_holds.tw17891701833085026040 : Nat := 0
noncomputable def law_holds.tw17237755526102222789 : Nat := 0
noncomputable def law_holds.tw745255978533919091 : Nat := 0
noncomputable def law_holds.tw6265907326580845545 : Nat := 0
noncomputable def law_holds.tw15806970514647361693 : Nat := 0
noncomputable def law_holds.tw17942709131360195518 : Nat := 0
noncomputable def law_holds.tw2075624079617657780 : Nat := 0
noncomputable def law_holds.tw10028117763298573888 : Nat := 0
noncomputable def law_holds.tw16406091861079842607 : Nat := 0
noncomputable def law_holds.tw1689763614830377041 : Nat := 0
noncomputable def law_holds.tw11690447701083486646 : Nat := 0
noncomputable def law_holds.tw14983226153234331074 : Nat := 0
noncomputable def law_holds.tw14872900085578418628 : Nat := 0
noncomputable def law_holds.tw10841264019214440115 : Nat := 0
noncomputable def law_holds.tw10925196988822745173 : Nat := 0
noncomputable def law_holds.tw445335354869643106 : Nat := 0
noncomputable def law_holds.tw11781800970755023335 : Nat := 0
noncomputable def law_holds.tw1819975233463548508 : Nat := 0
noncomputable def law_holds.tw16893121556090616931 : Nat := 0
noncomputable def law_holds.tw9456803100559308350 : Nat := 0
noncomputable def law_holds.tw11097158420108258118 : Nat := 0
noncomputable def law_holds.tw5274592661964301406 : Nat := 0
noncomputable def law_holds.tw14237007407634236972 : Nat := 0
noncomputable def law_holds.tw3882201998751590657 : Nat := 0
noncomputable def law_holds.tw5523756206651706831 : Nat := 0
noncomputable def law_holds.tw15154110283740273250 : Nat := 0
noncomputable def law_holds.tw15607887362523206001 : Nat := 0
noncomputable def law_holds.tw8970147916757833333 : Nat := 0
noncomputable def law_holds.tw545109181885906688 : Nat := 0
noncomputable def law_holds.tw11100686419730198450 : Nat := 0
noncomputable def law_holds.tw2842810181116790245 : Nat := 0
set_option Elab.async true
set_option maxRecDepth 100000 in
set_option maxHeartbeats 8000000 in
theorem law_holds : PySem.Challenge.rw_kt0017_01.Holds := by
    w_on; o_law; k_head; (case hw => w_witness2)
    w_strict
      (k_go0
       all_goals try k_fold
       rename_i wW s0 s1 mg mb G Y fa ob pm cd doc ho hcd hg XX VV TT BB TE TW ws hs hlay0 hL0 hr0 hl2 a31 a32 wl wvs a35 hlw ra w1 r0 hI0 hrr hc1 hc2 hD h1 tk1 o5 o4 o3 o2 o1 d5 d4 d3 d2 d1 XC X0 T0 K0 F0 N0 l57
       have XK : PLift ((KK wW.params).In _) := ⟨X0⟩
       have TK : PLift (Top topProg LL _ _ _ _) := ⟨T0⟩
       refine wpAny_mono (Q := LawQ s1) ?body ?mono fun _ _ e => e
       case mono =>
         rintro f s' ⟨rfl, h', tk', m', rfl, F9, N9⟩
         clear F0 N0
         try dsimp only
         refine ⟨?_, GrownAt.of N9 List.mem_cons_self, trivial⟩
         (k_end; wrow_close)
       refine cut_E (fun E' => PassesOwn _ _ _ E') (by passes_own) ?_
       intro E' hpo
       clear XC codeHd hD hrr r0 w1 ra hlw hl2 hr0 hL0 hlay0 hs hT9 TW TE BB TT VV XX hT8 hg hcd ho Y G hc2
       replace d1 : o1.data = .cell none := d1
       replace d2 : o2.data = .cell none := d2
       replace d3 : o3.data = .cell none := d3
       replace d4 : o4.data = .cell none := d4
       replace d5 : o5.data = .cell none := d5
       replace F0 : Fr _ _ _ (fun y => if y = (Str.ofString "script") then some (.ref wl) else none) := F0
       generalize hg0 : ghostOf s1.heap [(61, 57)] = g0 at *
       generalize hLL : s1.heap.objs.size = LL at *
       walk_at "M law"
       (rename Fr _ _ _ _ => F9); (rename News _ _ _ _ => N9)
       rename IntsAre _ _ => hI2
       obtain ⟨d0, d1, hdd⟩ := take_two _
       have hI3 := kmk_upto (y := 2) hI2 (by omega)
       rw [show (2 : Int).toNat = 2 from rfl, hdd] at hI3
       obtain ⟨t0, t1, hzs⟩ := ints_two hI3
       refine kba_turn (value' := PySem.Expr.Name ((Str.ofString "_")) ⟨0, 0, 0, 0⟩) (fun _ => rfl) ?_
       refine kmk_slice_lit F9 N9 (N9.isList List.mem_cons_self) .none (IsPart.int _ _) hzs ?_ (by with_unfolding_all rfl) (fun _ => rfl) ?z1
       case z1 =>
         have e1 := hI2.length
         have e2 := hI0.length
         simp only [List.size_toArray, List.length_append, List.length_cons, List.length_nil] at e1 ⊢
         unfold sizeLine
         omega
       clear F9 N9
       intro D3 h3 F3 N3 l3
       k_lt l3
       walk_at "M law"
       obtain ⟨i1, i2, c1, c2, e1, e2, g1, g2, m1, m2, hne⟩ := draws_ok d0 d1
       refine item_cpI (by exact e1) g1 (by decide +kernel) ?_
       walk_at "M law"
       refine item_cpI (by exact e2) g2 (by decide +kernel) ?_
       walk_at "M law"
       (rename Fr _ _ _ _ => F9); (rename News _ _ _ _ => N9)
       refine pair_K F9 N9 (N9 _ List.mem_cons_self).1 m1 m2 hne ?_
       clear F9 N9
       intro Dp h4 pvs ep l F4 N4 lp hpv
       k_lt lp
       walk_at "M law"
       rename (_ : Obj).data = Data.cell (some (Value.ref Dp)) => dp1
       (rename Fr _ _ _ _ => F9); (rename News _ _ _ _ => N9)
       have hk2 := kmk_run (x := 2) (y := 7) hI0 (by omega) (by omega)
       generalize hxs : (ws.drop (2 : Int).toNat).take (min (7 : Int).toNat ws.length - (2 : Int).toNat) = xs at hk2
       have hxs5 : xs.length ≤ 5 := by
         rw [← hxs, List.length_take]
         show min (min 7 _ - 2) _ ≤ 5
         omega
       refine comp_list (h₀ := g0) (L := LL) (cl := [((Str.ofString "pair"), LL + 1)]) (fun _ => true) (WordG l) (fun wl s₁ => ∃ h tk xvs m op, s₁ = { s1 with heap := h, toks := tk } ∧ Fr g0 LL h m ∧ op.data = .cell (some (.ref Dp)) ∧ News g0 LL h [(wl, listOf (List.toArray xvs) 0), (Dp, listOf pvs.toArray ep), (LL + 1 + 1 + 1 + 1 + 1, o5), (LL + 1 + 1 + 1 + 1, o4), (LL + 1 + 1 + 1, o3), (LL + 1 + 1, o2), (LL + 1, op), (57, tabObj #[])] ∧ IntsAre xvs xs ∧ LL + 1 + 1 + 1 + 1 + 1 < Dp) rfl (by decide) rfl (by decide) rfl rfl ?hit ?hgo
       case hit =>
         walk_at "M law"
         refine kmk_slice_ints F9 N9 (lifted.at fun o e => F9.keep _ o e) (IsPart.int _ _) (IsPart.int _ _) hI0 hk2 rfl ?_ (by with_unfolding_all rfl) (fun _ => rfl) ?z2
         case z2 =>
           have e2 := hI0.length
           simp only [List.size_toArray]
           unfold sizeLine
           omega
         clear F9 N9
         intro D5 xvs h5 F5 N5 l5 hxI hxl hxle
         exact ⟨D5, rfl, h5, _, xvs, _, _, rfl, F5, dp1, News.sub N5 (by walk_at "M sub"), hxI, by omega⟩
       case hgo =>
         clear F9 N9 dp1
         rintro D5 _ ⟨h5, tk5, xvs, mz, op, rfl, F5, dp1, N5, hxI, lDp⟩
         have e5 := hxI.length
         refine ⟨mz, _, xvs, F5, N5, N5.isList List.mem_cons_self, ?z3, ?tests, ?elts, ?fin⟩
         case z3 => unfold sizeLine; omega
         case tests =>
           intro C v s₃ m₃ E'' hv hn hm F3 N3
           exact wpAny_pure ⟨rfl, s₃.heap, s₃.toks, rfl, fun _ _ e => e⟩
         case elts =>
           intro C v s₃ m₃ E'' hv _ hn hm F3 N3
           obtain ⟨n, t, rfl⟩ := ints_mem hxI hv
           refine Subscript_ (wpAny_Name (wpAny_loadName_cell (c := LL + 1) (v := .ref Dp) rfl rfl rfl ⟨_, (N3 (LL + 1, op) (by walk_at "M at")).1, dp1⟩ ?_) (by decide))
           refine wpAny_BinOp (wpAny_Name (wpAny_loadName_local rfl rfl hn hm ?_) (by decide))
           (iterate 2 (all_goals (try walk_at "M one")))
           have hlp : s₃.heap.IsList Dp pvs.toArray := ⟨_, (N3 (Dp, listOf pvs.toArray ep) (by walk_at "M at")).1, rfl, _, rfl⟩
           obtain ⟨tf, tt, rfl⟩ := ltr_two hpv
           have e2 : n.fmod 2 = 0 ∨ n.fmod 2 = 1 := by
             rw [Int.fmod_eq_emod_of_nonneg _ (by omega)]; omega
           rcases e2 with e | e
           · exact item_litK (v := .str (l.tx [false]) tf) hlp (by omega) (by omega) (by rw [e]; rfl) ⟨⟨n, t, tf, rfl, by rw [e]; rfl⟩, _, _, rfl, fun _ _ e => e⟩
           · exact item_litK (v := .str (l.tx [true]) tt) hlp (by omega) (by omega) (by rw [e]; rfl) ⟨⟨n, t, tt, rfl, by rw [e]; rfl⟩, _, _, rfl, fun _ _ e => e⟩
         case fin =>
           intro D6 n6 h6 tk6 ys F6 N6 off6 hG
           rw [show xvs.filter (fun _ => true) = xvs from List.filter_eq_self.mpr fun _ _ => rfl] at hG
           obtain ⟨bs, hbl, hbt⟩ := word_bits hG
           rw [e5] at hbl
           have hn5 : (l.tx bs).length ≤ 5 := by rw [l.tx_len]; omega
           (iterate 3 (all_goals (try walk_at "M one")))
           refine join_listW (items := ys.toArray) (N6.isList List.mem_cons_self) (by simpa using hbt.strs) (by decide) ?wt ?_
           case wt =>
             have := sum_le (bs.map fun b => l.tx [b]) (fun x hx => by
               obtain ⟨b, _, rfl⟩ := List.mem_map.mp hx
               rw [l.tx_len]; exact Nat.le_of_ble_eq_true rfl)
             simp only [List.length_map] at this ⊢
             omega
           intro t7 k7
           rw [join_bits]
           replace N6 := News.sub (as := [(Dp, listOf pvs.toArray ep), (LL + 1 + 1 + 1 + 1 + 1, o5), (LL + 1 + 1 + 1 + 1, o4), (LL + 1 + 1 + 1, o3), (LL + 1 + 1, o2), (LL + 1, op), (57, tabObj #[])]) N6 (by walk_at "M sub")
           walk_at "M law"
           (rename Fr _ _ _ _ => F9); (rename News _ _ _ _ => N9)
           have hl1 : ∀ y ∈ [l.tx [false], l.tx [true]], y.length = 1 := by
             intro y hy
             rcases List.mem_cons.mp hy with rfl | hy
             · rfl
             · rw [List.mem_singleton.mp hy]; rfl
           refine Spec.go (all_spec wW _ mg mb Dp pvs [l.tx [false], l.tx [true]] (l.tx bs).length _ hpv rfl hl1 hn5) K0 F9 XK.down TK.down rfl ?r1 ?r2 ⟨_, (N9 (Dp, listOf pvs.toArray ep) (by walk_at "M at")).1, rfl, _, rfl⟩ ?_
           case r1 => decide
           case r2 => decide
           rintro r h8 tk8 hst ⟨lf, nl, lvs, rfl, hn1, hn2, hlt⟩
           have F8 := Fr.keeps F9 hst
           have N8 := News.more F9 (News.keeps N9 hst) hn1 hn2
           have off8 : ∀ a ∈ [Dp, LL + 1 + 1 + 1 + 1 + 1, LL + 1 + 1 + 1 + 1, LL + 1 + 1 + 1, LL + 1 + 1, LL + 1, 57], Apart a lf := News.apartA N9 hn1
           rw [l.words, l.tx_len] at hlt
           clear F9 N9
           walk_at "M law"
           (rename Fr _ _ _ _ => F9); (rename News _ _ _ _ => N9)
           rename lf < _ ∧ _ => lt9
           rename Obj => ow
           rename (_ : Obj).data = Data.cell (some (Value.str _ _)) => dw
           have hhalf : ((l.tx bs).length : Int).fdiv 2 + 1 = ((bs.length / 2 + 1 : Nat) : Int) := by
             rw [l.tx_len, Int.fdiv_eq_ediv_of_nonneg _ (by omega)]; omega
           rw [hhalf] at F9
           rw [l.tx_len] at hn5
           generalize hhf : bs.length / 2 + 1 = hf at F9
           obtain ⟨tl, th, F8, N8, ltl⟩ : ∃ tl th, Fr g0 LL _ (fun y => if y = (Str.ofString "taking") then some (Value.ref tl) else if y = (Str.ofString "left") then some (.ref lf) else if y = (Str.ofString "half") then some (.int (hf : Int) th) else mz y) ∧
             News g0 LL _ [(tl, listOf #[] 0), (lf, listOf lvs.toArray nl), (Dp, listOf pvs.toArray ep), (LL + 1 + 1 + 1 + 1 + 1, o5), (LL + 1 + 1 + 1 + 1, o4), (LL + 1 + 1 + 1, o3), (LL + 1 + 1, ow), (LL + 1, op), (57, tabObj #[])] ∧
             (lf < tl ∧ Dp < tl ∧ LL + 1 + 1 + 1 + 1 + 1 < tl ∧ LL + 1 + 1 + 1 + 1 < tl ∧ LL + 1 + 1 + 1 < tl ∧ LL + 1 + 1 < tl ∧ LL + 1 < tl ∧ 57 < tl) := ⟨_, _, F9, N9, lt9⟩
           clear F9 N9 lt9
           refine for_it (h₀ := g0) (fun wl s₁ => ∃ h tk pts np, s₁ = { s1 with heap := h, toks := tk } ∧ Fr g0 LL h (mW mz tl hf th ⟨lf, nl, lvs, 0, [], mz ((Str.ofString "fits")), mz ((Str.ofString "rest")), o3, none, d3⟩) ∧
             News g0 LL h (nW tl wl Dp LL pts pvs np ep o5 o4 ow op ⟨lf, nl, lvs, 0, [], mz ((Str.ofString "fits")), mz ((Str.ofString "rest")), o3, none, d3⟩) ∧ Txs pts ((wordsB hf).map l.tx) ∧
             (∀ q ∈ [tl, lf, Dp, LL + 1 + 1 + 1 + 1 + 1, LL + 1 + 1 + 1 + 1, LL + 1 + 1 + 1, LL + 1 + 1, LL + 1, 57], Apart q wl)) rfl rfl hpo ?hitF ?hgoF
           case hitF =>
             walk_at "M law"
             (rename Fr _ _ _ _ => F9); (rename News _ _ _ _ => N9)
             refine Spec.go (all_spec wW _ mg mb Dp pvs [l.tx [false], l.tx [true]] hf _ hpv rfl hl1 (by omega)) K0 F9 XK.down TK.down rfl ?r1 ?r2 ⟨_, (N9 (Dp, listOf pvs.toArray ep) (by walk_at "M at")).1, rfl, _, rfl⟩ ?_
             case r1 => decide
             case r2 => decide
             rintro r h9 tk9 hst ⟨wl, np, pts, rfl, hn1, hn2, hpt⟩
             have F8 := Fr.keeps F9 hst
             have N8 := News.more F9 (News.keeps N9 hst) hn1 hn2
             rw [l.words] at hpt
             refine ⟨wl, rfl, h9, tk9, pts, np, rfl, Fr.cong F8 (by walk_at "M wall"), News.sub N8 (by walk_at "M perm"), hpt, ?nes⟩
             case nes => exact News.apartA N9 hn1
           case hgoF =>
             clear F8 N8
             rintro wl _ ⟨h, tk, pts, np, rfl, F9, N9, hpt, offw⟩
             refine iter_listX (x := (Str.ofString "part")) (mW mz tl hf th) (nW tl wl Dp LL pts pvs np ep o5 o4 ow op) (PW l bs hf [tl, wl, Dp, LL + 1 + 1 + 1 + 1 + 1, LL + 1 + 1 + 1 + 1, LL + 1 + 1 + 1, LL + 1 + 1, LL + 1, 57]) ⟨lf, nl, lvs, 0, [], mz ((Str.ofString "fits")), mz ((Str.ofString "rest")), o3, none, d3⟩ rfl (.inr ⟨np, fun _ => List.mem_cons_of_mem _ (List.mem_cons_of_mem _ List.mem_cons_self)⟩) F9 (fun _ _ => rfl) N9 (PW_start hlt rfl ?st) (nW_cls d5 d4 dw dp1) ?turn ?done
             case st => exact List.forall_mem_cons.mpr ⟨Nat.ne_of_gt ltl.1, List.forall_mem_cons.mpr ⟨(Apart.ne (offw lf (List.mem_cons_of_mem _ List.mem_cons_self))).symm, off8⟩⟩
             case done =>
               intro c u h tk hP F2 N2
               obtain ⟨hP1, hP2, hP3⟩ := hP
               have hpl : pts.length = (wordsB hf).length := by rw [hpt.length, List.length_map]
               rw [hpl, List.take_length] at hP1 hP2
               have hle := left_end hn5 (w := bs) rfl
               rw [hhf] at hle
               rw [hle] at hP1
               have hsub : ∀ p ∈ [tl, Dp, LL + 1 + 1 + 1 + 1 + 1, LL + 1 + 1 + 1 + 1, LL + 1 + 1 + 1, LL + 1 + 1, LL + 1, 57], p ∈ [tl, wl, Dp, LL + 1 + 1 + 1 + 1 + 1, LL + 1 + 1 + 1 + 1, LL + 1 + 1 + 1, LL + 1 + 1, LL + 1, 57] := by walk_at "M sub"
               exact rest_spec wW _ mg mb g0 LL fa cd XK.down TK.down K0 l57 l bs hn5 hf hhf (fun y => if y = (Str.ofString "part") then u y else mW mz tl hf th c y) tl Dp pvs ep o5 o4 c.osg ow op c.vsg th t7 d5 d4 c.dsg dw dp1 ltl.2.1 lDp hpv c.left c.lvs c.tvs c.nl c.nt hP1 hP2 (fun a ha => hP3 a (hsub a ha)) h tk s1 (LawQ s1) E' hpo rfl rfl rfl F2
                 (News.sub N2 (by unfold nW; walk_at "M sub")) (fun h' tk' m' F N => ⟨rfl, h', tk', m', rfl, by rw [hg0, hLL]; exact F, by rw [hg0, hLL]; exact N⟩)
             case turn =>
               intro i v c h tk I it Q2 hvi hP offI F2 N2 hr hb hn
               have hsub : ∀ p ∈ [tl, Dp, LL + 1 + 1 + 1 + 1 + 1, LL + 1 + 1 + 1 + 1, LL + 1 + 1 + 1, LL + 1 + 1, LL + 1, 57], p ∈ [tl, lf, Dp, LL + 1 + 1 + 1 + 1 + 1, LL + 1 + 1 + 1 + 1, LL + 1 + 1 + 1, LL + 1 + 1, LL + 1, 57] := by walk_at "M sub"
               exact turn_spec wW _ mg mb g0 LL fa cd XK.down TK.down K0 l57 l bs hn5 hf hhf mz tl wl Dp pts pvs np ep o5 o4 ow op th t7 dw ltl.2.1 lDp (fun q hq => offw q (hsub q hq)) hpt i v c h tk I it s1 Q2 E' hvi hP offI F2 N2 (fun c' h' tk' m' news' F N hk hl hI hP' => hn .next c' h' tk' m' news' (.inl rfl) F N hk hl hI hP'))
end Mine
end
theorem PySem.Challenge.cw_kt0017_01_holds : PySem.Challenge.rw_kt0017_01.Holds := by
  exact Mine.law_holds
