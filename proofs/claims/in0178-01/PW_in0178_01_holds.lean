import PyProof.Rows.All
import Wide.All
import OpenK.AllK
import Wide.FinOn
import PyProof.Rows.GenSrcRange
import PyProof.Rows.StrTemp
import PyProof.Rows.ReprOcc
import PyProof.Rows.SortStrRead
import KE.KUnpack
import KE.KItem
import KE.KLam
import KE.KIntText
import KE.KNestM
import KE.KStateDown
import PySem.Challenge.RW_in0178_01
set_option Elab.async false

section
open PySem PySem.W PyProof.Rows
namespace Mine
set_option maxRecDepth 100000
noncomputable def pwBody : List Stmt := PySem.Challenge.pw_in0178_01.main.body
noncomputable def pick : List Nat → List Stmt
  | [] => []
  | i :: r => match pwBody[i]? with
    | some x => x :: pick r
    | none => pick r
noncomputable def view : Program := { PySem.Challenge.pw_in0178_01 with main := { PySem.Challenge.pw_in0178_01.main with body := pick [0, 2, 3, 5, 6, 8, 10, 12, 13, 14, 15, 16, 17, 18] } }
noncomputable def fnO (i : Nat) (m c : Value) : Obj := match pwBody[i]? with
  | some (.FunctionDef name params body _ _ _ scope _ _ _) => { cls := .type "function", data := .func { name := name, qualname := name, params := params, body := .stmts body, scope := scope, globals := 3, closure := [], defaults := .none, kwdefaults := .none, pyModule := m, code := c } }
  | _ => default
noncomputable def KF (P : Params) : Frag := [
  (2, { cls := PySem.Value.none, data := PySem.Data.dict #[{ hash := PySem.PyData.keyHash P (PySem.Str.ofString "im\u0070ort.loaded._sre"), key := PySem.Value.str (PySem.Str.ofString "im\u0070ort.loaded._sre") 183, val := PySem.Value.bool true }, { hash := PySem.PyData.keyHash P (PySem.Str.ofString "class._frozen_im\u0070ortlib.BuiltinImporter"), key := PySem.Value.str (PySem.Str.ofString "class._frozen_im\u0070ortlib.BuiltinImporter") 185, val := PySem.Value.ref 14 }, { hash := PySem.PyData.keyHash P (PySem.Str.ofString "watched.im\u0070ort"), key := PySem.Value.str (PySem.Str.ofString "watched.im\u0070ort") 206, val := PySem.Value.ref 18 }, { hash := PySem.PyData.keyHash P (PySem.Str.ofString "class._frozen_im\u0070ortlib.ModuleSpec"), key := PySem.Value.str (PySem.Str.ofString "class._frozen_im\u0070ortlib.ModuleSpec") 216, val := PySem.Value.ref 22 }, { hash := PySem.PyData.keyHash P (PySem.Str.ofString "sys.modules.booked-epoch"), key := PySem.Value.str (PySem.Str.ofString "sys.modules.booked-epoch") 245, val := PySem.Value.int 3 0 }, { hash := PySem.PyData.keyHash P (PySem.Str.ofString "im\u0070ort.later-laid._sre"), key := PySem.Value.str (PySem.Str.ofString "im\u0070ort.later-laid._sre") 270, val := PySem.Value.bool true }, { hash := PySem.PyData.keyHash P (PySem.Str.ofString "watched.library"), key := PySem.Value.str (PySem.Str.ofString "watched.library") 272, val := PySem.Value.ref 27 }, { hash := PySem.PyData.keyHash P (PySem.Str.ofString "watched.library-objects"), key := PySem.Value.str (PySem.Str.ofString "watched.library-objects") 0, val := PySem.Value.str (PySem.Str.ofString "\x0c") 0 }, { hash := PySem.PyData.keyHash P (PySem.Str.ofString "watched.library-deep._sre"), key := PySem.Value.str (PySem.Str.ofString "watched.library-deep._sre") 273, val := PySem.Value.str (PySem.Str.ofString "\x04\x00\x00\x0b\x04\x00\x00\x0b\x04\x00\x00\x03\x04\x00\x00\x0b\x08\x04dict\x02") 0 }] 9 }),
  (3, { cls := PySem.Value.type "dict", data := PySem.Data.dict #[{ hash := PySem.PyData.keyHash P (PySem.Str.ofString "__name__"), key := PySem.Value.str (PySem.Str.ofString "__name__") 165, val := PySem.Value.str (PySem.Str.ofString "law_in0178_01") 521 }, { hash := PySem.PyData.keyHash P (PySem.Str.ofString "__doc__"), key := PySem.Value.str (PySem.Str.ofString "__doc__") 166, val := PySem.Value.none }, { hash := PySem.PyData.keyHash P (PySem.Str.ofString "__package__"), key := PySem.Value.str (PySem.Str.ofString "__package__") 167, val := PySem.Value.none }, { hash := PySem.PyData.keyHash P (PySem.Str.ofString "__loader__"), key := PySem.Value.str (PySem.Str.ofString "__loader__") 168, val := PySem.Value.builtin "__main__.__loader__#opaque" }, { hash := PySem.PyData.keyHash P (PySem.Str.ofString "__spec__"), key := PySem.Value.str (PySem.Str.ofString "__spec__") 169, val := PySem.Value.none }, { hash := PySem.PyData.keyHash P (PySem.Str.ofString "__annotations__"), key := PySem.Value.str (PySem.Str.ofString "__annotations__") 170, val := PySem.Value.ref 6 }, { hash := PySem.PyData.keyHash P (PySem.Str.ofString "__builtins__"), key := PySem.Value.str (PySem.Str.ofString "__builtins__") 171, val := PySem.Value.ref 4 }, { hash := PySem.PyData.keyHash P (PySem.Str.ofString "__file__"), key := PySem.Value.str (PySem.Str.ofString "__file__") 173, val := PySem.Value.str (PySem.Str.ofString "/claim/cut.py") 172 }, { hash := PySem.PyData.keyHash P (PySem.Str.ofString "__cached__"), key := PySem.Value.str (PySem.Str.ofString "__cached__") 174, val := PySem.Value.none }, { hash := PySem.PyData.keyHash P (PySem.Str.ofString "_sre"), key := PySem.Value.str (PySem.Str.ofString "_sre") 275, val := PySem.Value.ref 12 }, { hash := PySem.PyData.keyHash P (PySem.Str.ofString "restore"), key := PySem.Value.str (PySem.Str.ofString "restore") 294, val := PySem.Value.ref 38 }, { hash := PySem.PyData.keyHash P (PySem.Str.ofString "_twin_re_1"), key := PySem.Value.str (PySem.Str.ofString "_twin_re_1") 332, val := PySem.Value.ref 43 }, { hash := PySem.PyData.keyHash P (PySem.Str.ofString "_special_chars_map"), key := PySem.Value.str (PySem.Str.ofString "_special_chars_map") 480, val := PySem.Value.ref 45 }, { hash := PySem.PyData.keyHash P (PySem.Str.ofString "escape"), key := PySem.Value.str (PySem.Str.ofString "escape") 487, val := PySem.Value.ref 55 }, { hash := PySem.PyData.keyHash P (PySem.Str.ofString "_translate"), key := PySem.Value.str (PySem.Str.ofString "_translate") 508, val := PySem.Value.ref 62 }, { hash := PySem.PyData.keyHash P (PySem.Str.ofString "unorderable_list_difference"), key := PySem.Value.str (PySem.Str.ofString "unorderable_list_difference") 520, val := PySem.Value.ref 69 }, { hash := PySem.PyData.keyHash P (PySem.Str.ofString "_law_items"), key := PySem.Value.str (PySem.Str.ofString "_law_items") 528, val := PySem.Value.ref 74 }, { hash := PySem.PyData.keyHash P (PySem.Str.ofString "_law_step"), key := PySem.Value.str (PySem.Str.ofString "_law_step") 534, val := PySem.Value.ref 79 }, { hash := PySem.PyData.keyHash P (PySem.Str.ofString "_law_meant"), key := PySem.Value.str (PySem.Str.ofString "_law_meant") 546, val := PySem.Value.ref 86 }, { hash := PySem.PyData.keyHash P (PySem.Str.ofString "_law_taken"), key := PySem.Value.str (PySem.Str.ofString "_law_taken") 552, val := PySem.Value.ref 91 }, { hash := PySem.PyData.keyHash P (PySem.Str.ofString "_law_net"), key := PySem.Value.str (PySem.Str.ofString "_law_net") 558, val := PySem.Value.ref 96 }, { hash := PySem.PyData.keyHash P (PySem.Str.ofString "_law_third"), key := PySem.Value.str (PySem.Str.ofString "_law_third") 566, val := PySem.Value.ref 103 }, { hash := PySem.PyData.keyHash P (PySem.Str.ofString "law"), key := PySem.Value.str (PySem.Str.ofString "law") 572, val := PySem.Value.ref 108 }] 23 }),
  (6, { cls := PySem.Value.type "dict", data := PySem.Data.dict #[] }),
  (11, { cls := PySem.Value.type "dict", data := PySem.Data.dict #[{ hash := PySem.PyData.keyHash P (PySem.Str.ofString "__name__"), key := PySem.Value.str (PySem.Str.ofString "__name__") 247, val := PySem.Value.str (PySem.Str.ofString "_sre") 246 }, { hash := PySem.PyData.keyHash P (PySem.Str.ofString "__doc__"), key := PySem.Value.str (PySem.Str.ofString "__doc__") 248, val := PySem.Value.none }, { hash := PySem.PyData.keyHash P (PySem.Str.ofString "__package__"), key := PySem.Value.str (PySem.Str.ofString "__package__") 250, val := PySem.Value.str (PySem.Str.ofString "") 249 }, { hash := PySem.PyData.keyHash P (PySem.Str.ofString "__loader__"), key := PySem.Value.str (PySem.Str.ofString "__loader__") 251, val := PySem.Value.builtin "off-the-table:_sre.__loader__:shared#opaque" }, { hash := PySem.PyData.keyHash P (PySem.Str.ofString "__spec__"), key := PySem.Value.str (PySem.Str.ofString "__spec__") 252, val := PySem.Value.builtin "off-the-table:_sre.__spec__:shared#opaque" }, { hash := PySem.PyData.keyHash P (PySem.Str.ofString "compile"), key := PySem.Value.str (PySem.Str.ofString "compile") 253, val := PySem.Value.builtin "_sre.compile" }, { hash := PySem.PyData.keyHash P (PySem.Str.ofString "template"), key := PySem.Value.str (PySem.Str.ofString "template") 254, val := PySem.Value.builtin "off-the-table:_sre.template:shared#opaque" }, { hash := PySem.PyData.keyHash P (PySem.Str.ofString "getcodesize"), key := PySem.Value.str (PySem.Str.ofString "getcodesize") 255, val := PySem.Value.builtin "off-the-table:_sre.getcodesize:shared#opaque" }, { hash := PySem.PyData.keyHash P (PySem.Str.ofString "ascii_iscased"), key := PySem.Value.str (PySem.Str.ofString "ascii_iscased") 256, val := PySem.Value.builtin "off-the-table:_sre.ascii_iscased:shared#opaque" }, { hash := PySem.PyData.keyHash P (PySem.Str.ofString "unicode_iscased"), key := PySem.Value.str (PySem.Str.ofString "unicode_iscased") 257, val := PySem.Value.builtin "off-the-table:_sre.unicode_iscased:shared#opaque" }, { hash := PySem.PyData.keyHash P (PySem.Str.ofString "ascii_tolower"), key := PySem.Value.str (PySem.Str.ofString "ascii_tolower") 258, val := PySem.Value.builtin "off-the-table:_sre.ascii_tolower:shared#opaque" }, { hash := PySem.PyData.keyHash P (PySem.Str.ofString "unicode_tolower"), key := PySem.Value.str (PySem.Str.ofString "unicode_tolower") 259, val := PySem.Value.builtin "off-the-table:_sre.unicode_tolower:shared#opaque" }, { hash := PySem.PyData.keyHash P (PySem.Str.ofString "MAGIC"), key := PySem.Value.str (PySem.Str.ofString "MAGIC") 261, val := PySem.Value.int 20230612 260 }, { hash := PySem.PyData.keyHash P (PySem.Str.ofString "CODESIZE"), key := PySem.Value.str (PySem.Str.ofString "CODESIZE") 263, val := PySem.Value.int 4 262 }, { hash := PySem.PyData.keyHash P (PySem.Str.ofString "MAXREPEAT"), key := PySem.Value.str (PySem.Str.ofString "MAXREPEAT") 265, val := PySem.Value.int 4294967295 264 }, { hash := PySem.PyData.keyHash P (PySem.Str.ofString "MAXGROUPS"), key := PySem.Value.str (PySem.Str.ofString "MAXGROUPS") 267, val := PySem.Value.int 1073741823 266 }, { hash := PySem.PyData.keyHash P (PySem.Str.ofString "copyright"), key := PySem.Value.str (PySem.Str.ofString "copyright") 269, val := PySem.Value.str (PySem.Str.ofString " SRE 2.2.2 Copyright (c) 1997-2002 by Secret Labs AB ") 268 }] 17 }),
  (12, { cls := PySem.Value.type "module", dict := some 11 }),
  (32, { cls := PySem.Value.type "tuple", data := PySem.Data.seq #[] }),
  (34, { cls := PySem.Value.type "tuple", data := PySem.Data.seq #[PySem.Value.str (PySem.Str.ofString "delta") 287, PySem.Value.str (PySem.Str.ofString "which") 288, PySem.Value.str (PySem.Str.ofString "tag") 289, PySem.Value.str (PySem.Str.ofString "prefixes") 290, PySem.Value.str (PySem.Str.ofString "line") 291] }),
  (35, { cls := PySem.Value.type "tuple", data := PySem.Data.seq #[] }),
  (37, { cls := PySem.Value.type "code", data := PySem.Data.fields #[PySem.Value.str (PySem.Str.ofString "restore") 284, PySem.Value.str (PySem.Str.ofString "restore") 285, PySem.Value.str (PySem.Str.ofString "/claim/cut.py") 286, PySem.Value.int 3 0, PySem.Value.int 2 0, PySem.Value.int 0 0, PySem.Value.int 0 0, PySem.Value.int 35 0, PySem.Value.ref 32, PySem.Value.bool true, PySem.Value.int 276 0, PySem.Value.ref 33, PySem.Value.none, PySem.Value.ref 34, PySem.Value.ref 35, PySem.Value.ref 36, PySem.Value.int 292 0, PySem.Value.int 3 0, PySem.Value.str (PySem.Str.ofString "/claim/cut.py") 293] }),
  (38, fnO 2 (PySem.Value.str (PySem.Str.ofString "cpy313.difflib") 282) (PySem.Value.ref 37)),
  (42, { cls := PySem.Value.type "tuple", data := PySem.Data.seq #[PySem.Value.int 14 0, PySem.Value.int 14 0, PySem.Value.int 4 0, PySem.Value.int 1 0, PySem.Value.int 1 0, PySem.Value.int 9 0, PySem.Value.int 0 0, PySem.Value.int 64 0, PySem.Value.int 0 0, PySem.Value.int 1342177280 0, PySem.Value.int 0 0, PySem.Value.int 0 0, PySem.Value.int 0 0, PySem.Value.int 0 0, PySem.Value.int 0 0, PySem.Value.int 17 0, PySem.Value.int 0 0, PySem.Value.int 13 0, PySem.Value.int 11 0, PySem.Value.int 9 0, PySem.Value.int 0 0, PySem.Value.int 64 0, PySem.Value.int 0 0, PySem.Value.int 1342177280 0, PySem.Value.int 0 0, PySem.Value.int 0 0, PySem.Value.int 0 0, PySem.Value.int 0 0, PySem.Value.int 0 0, PySem.Value.int 17 0, PySem.Value.int 1 0, PySem.Value.int 1 0] }),
  (43, { cls := PySem.Value.type "re.Pattern", data := PySem.Data.fields #[PySem.Value.str (PySem.Str.ofString "([&~|])") 296, PySem.Value.int 32 331, PySem.Value.int 1 0, PySem.Value.none, PySem.Value.none, PySem.Value.ref 42, PySem.Value.int 0 0] }),
  (45, { cls := PySem.Value.type "dict", data := PySem.Data.dict #[{ hash := 40, key := PySem.Value.int 40 336, val := PySem.Value.str (PySem.Str.ofString "\\(") 340 }, { hash := 41, key := PySem.Value.int 41 342, val := PySem.Value.str (PySem.Str.ofString "\\)") 346 }, { hash := 91, key := PySem.Value.int 91 348, val := PySem.Value.str (PySem.Str.ofString "\\[") 352 }, { hash := 93, key := PySem.Value.int 93 354, val := PySem.Value.str (PySem.Str.ofString "\\]") 358 }, { hash := 123, key := PySem.Value.int 123 360, val := PySem.Value.str (PySem.Str.ofString "\\{") 364 }, { hash := 125, key := PySem.Value.int 125 366, val := PySem.Value.str (PySem.Str.ofString "\\}") 370 }, { hash := 63, key := PySem.Value.int 63 372, val := PySem.Value.str (PySem.Str.ofString "\\?") 376 }, { hash := 42, key := PySem.Value.int 42 378, val := PySem.Value.str (PySem.Str.ofString "\\*") 382 }, { hash := 43, key := PySem.Value.int 43 384, val := PySem.Value.str (PySem.Str.ofString "\\+") 388 }, { hash := 45, key := PySem.Value.int 45 390, val := PySem.Value.str (PySem.Str.ofString "\\-") 394 }, { hash := 124, key := PySem.Value.int 124 396, val := PySem.Value.str (PySem.Str.ofString "\\|") 400 }, { hash := 94, key := PySem.Value.int 94 402, val := PySem.Value.str (PySem.Str.ofString "\\^") 406 }, { hash := 36, key := PySem.Value.int 36 408, val := PySem.Value.str (PySem.Str.ofString "\\$") 412 }, { hash := 92, key := PySem.Value.int 92 414, val := PySem.Value.str (PySem.Str.ofString "\\\\") 418 }, { hash := 46, key := PySem.Value.int 46 420, val := PySem.Value.str (PySem.Str.ofString "\\.") 424 }, { hash := 38, key := PySem.Value.int 38 426, val := PySem.Value.str (PySem.Str.ofString "\\&") 430 }, { hash := 126, key := PySem.Value.int 126 432, val := PySem.Value.str (PySem.Str.ofString "\\~") 436 }, { hash := 35, key := PySem.Value.int 35 438, val := PySem.Value.str (PySem.Str.ofString "\\#") 442 }, { hash := 32, key := PySem.Value.int 32 444, val := PySem.Value.str (PySem.Str.ofString "\\ ") 448 }, { hash := 9, key := PySem.Value.int 9 450, val := PySem.Value.str (PySem.Str.ofString "\\\t") 454 }, { hash := 10, key := PySem.Value.int 10 456, val := PySem.Value.str (PySem.Str.ofString "\\\n") 460 }, { hash := 13, key := PySem.Value.int 13 462, val := PySem.Value.str (PySem.Str.ofString "\\\x0d") 466 }, { hash := 11, key := PySem.Value.int 11 468, val := PySem.Value.str (PySem.Str.ofString "\\\x0b") 472 }, { hash := 12, key := PySem.Value.int 12 474, val := PySem.Value.str (PySem.Str.ofString "\\\x0c") 478 }] 24 }),
  (49, { cls := PySem.Value.type "tuple", data := PySem.Data.seq #[] }),
  (51, { cls := PySem.Value.type "tuple", data := PySem.Data.seq #[PySem.Value.str (PySem.Str.ofString "pattern") 484] }),
  (52, { cls := PySem.Value.type "tuple", data := PySem.Data.seq #[] }),
  (54, { cls := PySem.Value.type "code", data := PySem.Data.fields #[PySem.Value.str (PySem.Str.ofString "escape") 481, PySem.Value.str (PySem.Str.ofString "escape") 482, PySem.Value.str (PySem.Str.ofString "/claim/cut.py") 483, PySem.Value.int 15 0, PySem.Value.int 1 0, PySem.Value.int 0 0, PySem.Value.int 0 0, PySem.Value.int 3 0, PySem.Value.ref 49, PySem.Value.bool true, PySem.Value.int 276 0, PySem.Value.ref 50, PySem.Value.none, PySem.Value.ref 51, PySem.Value.ref 52, PySem.Value.ref 53, PySem.Value.int 485 0, PySem.Value.int 15 0, PySem.Value.str (PySem.Str.ofString "/claim/cut.py") 486] }),
  (55, fnO 6 (PySem.Value.str (PySem.Str.ofString "re") 333) (PySem.Value.ref 54)),
  (56, { cls := PySem.Value.type "tuple", data := PySem.Data.seq #[] }),
  (58, { cls := PySem.Value.type "tuple", data := PySem.Data.seq #[PySem.Value.str (PySem.Str.ofString "pat") 493, PySem.Value.str (PySem.Str.ofString "STAR") 494, PySem.Value.str (PySem.Str.ofString "QUESTION_MARK") 495, PySem.Value.str (PySem.Str.ofString "res") 496, PySem.Value.str (PySem.Str.ofString "add") 497, PySem.Value.str (PySem.Str.ofString "i") 498, PySem.Value.str (PySem.Str.ofString "n") 499, PySem.Value.str (PySem.Str.ofString "c") 500, PySem.Value.str (PySem.Str.ofString "j") 501, PySem.Value.str (PySem.Str.ofString "stuff") 502, PySem.Value.str (PySem.Str.ofString "chunks") 503, PySem.Value.str (PySem.Str.ofString "k") 504, PySem.Value.str (PySem.Str.ofString "chunk") 505] }),
  (59, { cls := PySem.Value.type "tuple", data := PySem.Data.seq #[] }),
  (61, { cls := PySem.Value.type "code", data := PySem.Data.fields #[PySem.Value.str (PySem.Str.ofString "_translate") 490, PySem.Value.str (PySem.Str.ofString "_translate") 491, PySem.Value.str (PySem.Str.ofString "/claim/cut.py") 492, PySem.Value.int 22 0, PySem.Value.int 3 0, PySem.Value.int 0 0, PySem.Value.int 0 0, PySem.Value.int 3 0, PySem.Value.ref 56, PySem.Value.bool true, PySem.Value.int 276 0, PySem.Value.ref 57, PySem.Value.none, PySem.Value.ref 58, PySem.Value.ref 59, PySem.Value.ref 60, PySem.Value.int 506 0, PySem.Value.int 22 0, PySem.Value.str (PySem.Str.ofString "/claim/cut.py") 507] }),
  (62, fnO 8 (PySem.Value.str (PySem.Str.ofString "cpy313.fnmatch") 488) (PySem.Value.ref 61)),
  (63, { cls := PySem.Value.type "tuple", data := PySem.Data.seq #[] }),
  (65, { cls := PySem.Value.type "tuple", data := PySem.Data.seq #[PySem.Value.str (PySem.Str.ofString "expected") 514, PySem.Value.str (PySem.Str.ofString "actual") 515, PySem.Value.str (PySem.Str.ofString "missing") 516, PySem.Value.str (PySem.Str.ofString "item") 517] }),
  (66, { cls := PySem.Value.type "tuple", data := PySem.Data.seq #[] }),
  (68, { cls := PySem.Value.type "code", data := PySem.Data.fields #[PySem.Value.str (PySem.Str.ofString "unorderable_list_difference") 511, PySem.Value.str (PySem.Str.ofString "unorderable_list_difference") 512, PySem.Value.str (PySem.Str.ofString "/claim/cut.py") 513, PySem.Value.int 85 0, PySem.Value.int 2 0, PySem.Value.int 0 0, PySem.Value.int 0 0, PySem.Value.int 3 0, PySem.Value.ref 63, PySem.Value.bool true, PySem.Value.int 276 0, PySem.Value.ref 64, PySem.Value.none, PySem.Value.ref 65, PySem.Value.ref 66, PySem.Value.ref 67, PySem.Value.int 518 0, PySem.Value.int 85 0, PySem.Value.str (PySem.Str.ofString "/claim/cut.py") 519] }),
  (69, fnO 10 (PySem.Value.str (PySem.Str.ofString "cpy313.unittest.util") 509) (PySem.Value.ref 68)),
  (70, { cls := PySem.Value.type "tuple", data := PySem.Data.seq #[] }),
  (73, { cls := PySem.Value.type "code", data := PySem.Data.fields #[PySem.Value.str (PySem.Str.ofString "_law_items") 523, PySem.Value.str (PySem.Str.ofString "_law_items") 524, PySem.Value.str (PySem.Str.ofString "/claim/cut.py") 525, PySem.Value.int 95 0, PySem.Value.int 1 0, PySem.Value.int 0 0, PySem.Value.int 0 0, PySem.Value.int 3 0, PySem.Value.ref 70, PySem.Value.bool true, PySem.Value.int 276 0, PySem.Value.ref 71, PySem.Value.none, PySem.Value.none, PySem.Value.none, PySem.Value.ref 72, PySem.Value.int 526 0, PySem.Value.int 95 0, PySem.Value.str (PySem.Str.ofString "/claim/cut.py") 527] }),
  (74, fnO 12 (PySem.Value.str (PySem.Str.ofString "law_in0178_01") 521) (PySem.Value.ref 73)),
  (75, { cls := PySem.Value.type "tuple", data := PySem.Data.seq #[] }),
  (78, { cls := PySem.Value.type "code", data := PySem.Data.fields #[PySem.Value.str (PySem.Str.ofString "_law_step") 529, PySem.Value.str (PySem.Str.ofString "_law_step") 530, PySem.Value.str (PySem.Str.ofString "/claim/cut.py") 531, PySem.Value.int 100 0, PySem.Value.int 4 0, PySem.Value.int 0 0, PySem.Value.int 0 0, PySem.Value.int 3 0, PySem.Value.ref 75, PySem.Value.bool true, PySem.Value.int 276 0, PySem.Value.ref 76, PySem.Value.none, PySem.Value.none, PySem.Value.none, PySem.Value.ref 77, PySem.Value.int 532 0, PySem.Value.int 100 0, PySem.Value.str (PySem.Str.ofString "/claim/cut.py") 533] }),
  (79, fnO 13 (PySem.Value.str (PySem.Str.ofString "law_in0178_01") 521) (PySem.Value.ref 78)),
  (80, { cls := PySem.Value.type "tuple", data := PySem.Data.seq #[] }),
  (82, { cls := PySem.Value.type "tuple", data := PySem.Data.seq #[PySem.Value.str (PySem.Str.ofString "items") 538, PySem.Value.str (PySem.Str.ofString "line") 539, PySem.Value.str (PySem.Str.ofString "places") 540, PySem.Value.str (PySem.Str.ofString "text") 541, PySem.Value.str (PySem.Str.ofString "some") 542, PySem.Value.str (PySem.Str.ofString "barred") 543] }),
  (83, { cls := PySem.Value.type "tuple", data := PySem.Data.seq #[] }),
  (85, { cls := PySem.Value.type "code", data := PySem.Data.fields #[PySem.Value.str (PySem.Str.ofString "_law_meant") 535, PySem.Value.str (PySem.Str.ofString "_law_meant") 536, PySem.Value.str (PySem.Str.ofString "/claim/cut.py") 537, PySem.Value.int 102 0, PySem.Value.int 2 0, PySem.Value.int 0 0, PySem.Value.int 0 0, PySem.Value.int 3 0, PySem.Value.ref 80, PySem.Value.bool true, PySem.Value.int 276 0, PySem.Value.ref 81, PySem.Value.none, PySem.Value.ref 82, PySem.Value.ref 83, PySem.Value.ref 84, PySem.Value.int 544 0, PySem.Value.int 102 0, PySem.Value.str (PySem.Str.ofString "/claim/cut.py") 545] }),
  (86, fnO 14 (PySem.Value.str (PySem.Str.ofString "law_in0178_01") 521) (PySem.Value.ref 85)),
  (87, { cls := PySem.Value.type "tuple", data := PySem.Data.seq #[] }),
  (90, { cls := PySem.Value.type "code", data := PySem.Data.fields #[PySem.Value.str (PySem.Str.ofString "_law_taken") 547, PySem.Value.str (PySem.Str.ofString "_law_taken") 548, PySem.Value.str (PySem.Str.ofString "/claim/cut.py") 549, PySem.Value.int 108 0, PySem.Value.int 2 0, PySem.Value.int 0 0, PySem.Value.int 0 0, PySem.Value.int 3 0, PySem.Value.ref 87, PySem.Value.bool true, PySem.Value.int 276 0, PySem.Value.ref 88, PySem.Value.none, PySem.Value.none, PySem.Value.none, PySem.Value.ref 89, PySem.Value.int 550 0, PySem.Value.int 108 0, PySem.Value.str (PySem.Str.ofString "/claim/cut.py") 551] }),
  (91, fnO 15 (PySem.Value.str (PySem.Str.ofString "law_in0178_01") 521) (PySem.Value.ref 90)),
  (92, { cls := PySem.Value.type "tuple", data := PySem.Data.seq #[] }),
  (95, { cls := PySem.Value.type "code", data := PySem.Data.fields #[PySem.Value.str (PySem.Str.ofString "_law_net") 553, PySem.Value.str (PySem.Str.ofString "_law_net") 554, PySem.Value.str (PySem.Str.ofString "/claim/cut.py") 555, PySem.Value.int 121 0, PySem.Value.int 2 0, PySem.Value.int 0 0, PySem.Value.int 0 0, PySem.Value.int 3 0, PySem.Value.ref 92, PySem.Value.bool true, PySem.Value.int 276 0, PySem.Value.ref 93, PySem.Value.none, PySem.Value.none, PySem.Value.none, PySem.Value.ref 94, PySem.Value.int 556 0, PySem.Value.int 121 0, PySem.Value.str (PySem.Str.ofString "/claim/cut.py") 557] }),
  (96, fnO 16 (PySem.Value.str (PySem.Str.ofString "law_in0178_01") 521) (PySem.Value.ref 95)),
  (97, { cls := PySem.Value.type "tuple", data := PySem.Data.seq #[] }),
  (99, { cls := PySem.Value.type "tuple", data := PySem.Data.seq #[PySem.Value.str (PySem.Str.ofString "lines") 562, PySem.Value.str (PySem.Str.ofString "error") 563] }),
  (100, { cls := PySem.Value.type "tuple", data := PySem.Data.seq #[] }),
  (102, { cls := PySem.Value.type "code", data := PySem.Data.fields #[PySem.Value.str (PySem.Str.ofString "_law_third") 559, PySem.Value.str (PySem.Str.ofString "_law_third") 560, PySem.Value.str (PySem.Str.ofString "/claim/cut.py") 561, PySem.Value.int 124 0, PySem.Value.int 1 0, PySem.Value.int 0 0, PySem.Value.int 0 0, PySem.Value.int 3 0, PySem.Value.ref 97, PySem.Value.bool true, PySem.Value.int 276 0, PySem.Value.ref 98, PySem.Value.none, PySem.Value.ref 99, PySem.Value.ref 100, PySem.Value.ref 101, PySem.Value.int 564 0, PySem.Value.int 124 0, PySem.Value.str (PySem.Str.ofString "/claim/cut.py") 565] }),
  (103, fnO 17 (PySem.Value.str (PySem.Str.ofString "law_in0178_01") 521) (PySem.Value.ref 102)),
  (104, { cls := PySem.Value.type "tuple", data := PySem.Data.seq #[] }),
  (107, { cls := PySem.Value.type "code", data := PySem.Data.fields #[PySem.Value.str (PySem.Str.ofString "law") 567, PySem.Value.str (PySem.Str.ofString "law") 568, PySem.Value.str (PySem.Str.ofString "/claim/cut.py") 569, PySem.Value.int 129 0, PySem.Value.int 1 0, PySem.Value.int 0 0, PySem.Value.int 0 0, PySem.Value.int 3 0, PySem.Value.ref 104, PySem.Value.bool true, PySem.Value.int 276 0, PySem.Value.ref 105, PySem.Value.none, PySem.Value.none, PySem.Value.none, PySem.Value.ref 106, PySem.Value.int 570 0, PySem.Value.int 129 0, PySem.Value.str (PySem.Str.ofString "/claim/cut.py") 571] }),
  (108, fnO 18 (PySem.Value.str (PySem.Str.ofString "law_in0178_01") 521) (PySem.Value.ref 107))]
abbrev KA : List Addr := [2, 3, 6, 11, 12, 32, 34, 35, 37, 38, 42, 43, 45, 49, 51, 52, 54, 55, 56, 58, 59, 61, 62, 63, 65, 66, 68, 69, 70, 73, 74, 75, 78, 79, 80, 82, 83, 85, 86, 87, 90, 91, 92, 95, 96, 97, 99, 100, 102, 103, 104, 107, 108]
theorem KA_eq (P : Params) : KA = (KF P).map (·.1) := by kernel_rfl
noncomputable abbrev HK : Hook := kmHook KF KA KA_eq [57]
abbrev rwR : RowW := OpenRow.toRowW (OpenLaw.row PySem.Challenge.rw_in0178_01)
abbrev looseL : List Str := ["_twin_re_1", "_special_chars_map"]
noncomputable abbrev XtL : Shared → Bool := fun s => xlAt view [] s && recOk (RowW.records rwR) s
/-- the looks at the law; they lay the program's twin -/
theorem said (h : PySem.Challenge.rw_in0178_01.row.wellSaid = true → PySem.Challenge.rw_in0178_01.row.Holds) : PySem.Challenge.rw_in0178_01.Holds := by
  w_on
  o_law
  exact h (by assumption)
noncomputable def lhsO (w : World) := (openEnds treeTable PySem.Challenge.pw_in0178_01 w 3540).map (fun s => (openSeen view looseL (importedModules PySem.Challenge.pw_in0178_01.main.body) XtL true s, Hook.obs HK s))
noncomputable def rhsO (w : World) := some (openGood view looseL, Hook.val HK w)
/-- the run and the looks at its end, the library's twins put in -/
noncomputable def turned (w : World) : { x // lhsO w = x } := by
  apply Subtype.mk
  delta lhsO openEnds fencedOpening topFrom
  rw [PySem.W.Fast.te10274390034422433532, PySem.W.Fast.te14364793385576792824, PySem.W.Fast.te6249086570126026568, PySem.W.Fast.te1435165496053646825, PySem.W.Fast.te14289696077712309145, PySem.W.Fast.te14082659384304107361, PySem.W.Fast.te8920871248978507458, PySem.W.Fast.te5923862056798008813, PySem.W.Fast.te4187177175401517315]
noncomputable def lhsF (w : World) := (turned w).1
theorem lhsF_eq (w : World) : lhsO w = lhsF w := (turned w).2
theorem fastFF (w : World) : lhsF ((w.withFollow "comprehension-iter-twice" false).withFollow "special-get-raises" false) = rhsO ((w.withFollow "comprehension-iter-twice" false).withFollow "special-get-raises" false) := by kernel_rfl
theorem leftFF (w : World) : lhsO ((w.withFollow "comprehension-iter-twice" false).withFollow "special-get-raises" false) = rhsO ((w.withFollow "comprehension-iter-twice" false).withFollow "special-get-raises" false) := (lhsF_eq _).trans (fastFF w)
theorem fastFT (w : World) : lhsF ((w.withFollow "comprehension-iter-twice" false).withFollow "special-get-raises" true) = rhsO ((w.withFollow "comprehension-iter-twice" false).withFollow "special-get-raises" true) := by kernel_rfl
theorem leftFT (w : World) : lhsO ((w.withFollow "comprehension-iter-twice" false).withFollow "special-get-raises" true) = rhsO ((w.withFollow "comprehension-iter-twice" false).withFollow "special-get-raises" true) := (lhsF_eq _).trans (fastFT w)
theorem fastTF (w : World) : lhsF ((w.withFollow "comprehension-iter-twice" true).withFollow "special-get-raises" false) = rhsO ((w.withFollow "comprehension-iter-twice" true).withFollow "special-get-raises" false) := by kernel_rfl
theorem leftTF (w : World) : lhsO ((w.withFollow "comprehension-iter-twice" true).withFollow "special-get-raises" false) = rhsO ((w.withFollow "comprehension-iter-twice" true).withFollow "special-get-raises" false) := (lhsF_eq _).trans (fastTF w)
theorem fastTT (w : World) : lhsF ((w.withFollow "comprehension-iter-twice" true).withFollow "special-get-raises" true) = rhsO ((w.withFollow "comprehension-iter-twice" true).withFollow "special-get-raises" true) := by kernel_rfl
theorem leftTT (w : World) : lhsO ((w.withFollow "comprehension-iter-twice" true).withFollow "special-get-raises" true) = rhsO ((w.withFollow "comprehension-iter-twice" true).withFollow "special-get-raises" true) := (lhsF_eq _).trans (fastTT w)
theorem leftAll : LeftO PySem.Challenge.pw_in0178_01 view looseL XtL (Hook.obs HK) (Hook.val HK) 3540 := fun w => byRow2 "special-get-raises" (P := fun w => lhsO w = rhsO w) (fun w => byRow2 "comprehension-iter-twice" (P := fun w => lhsO (w.withFollow "special-get-raises" false) = rhsO (w.withFollow "special-get-raises" false)) leftFF leftTF w) (fun w => byRow2 "comprehension-iter-twice" (P := fun w => lhsO (w.withFollow "special-get-raises" true) = rhsO (w.withFollow "special-get-raises" true)) leftFT leftTT w) w
end Mine
end

section
open PySem PySem.W PySem.Calls PySem.Spec PyProof.Rows
namespace Mine

/-- the numbers drawn, and how many generators there are at least -/
abbrev Dn : Type := Drawn × Nat
def GB (n : Nat) (g : Array GenState) : Prop := AllBare g ∧ n ≤ g.size
def Le (h h' : Heap) : Prop := ∀ b o, h.get? b = some o → h'.get? b = some o
theorem Le.refl (h : Heap) : Le h h := fun _ _ e => e
theorem Le.trans {a b c : Heap} (x : Le a b) (y : Le b c) : Le a c := fun _ _ e => y _ _ (x _ _ e)
theorem Le.push (h : Heap) (o : Obj) : Le h (h.push o) := fun _ _ e => Heap.get?_push_of_some _ e

def Tab (h : Heap) : Prop := ∃ ps, h.get? 57 = some (tabObj ps) ∧ TriplesOk ps.toList
theorem Tab.mono {h h' : Heap} (x : Tab h) (k : Le h h') : Tab h' := let ⟨ps, e, t⟩ := x; ⟨ps, k _ _ e, t⟩

structure St (g b : Heap) (L : Addr) (m : Str → Option Value) (own : List (Addr × Obj)) (dn : Dn) (os : OsState) (s : Shared) : Prop where
  ns : s.heap.Ns L m
  gr : Le g b
  keep : Le b s.heap
  ow : ∀ p ∈ own, s.heap.get? p.1 = some p.2
  nd : (L :: 57 :: own.map (·.1)).Nodup
  off : ∀ a ∈ L :: 57 :: own.map (·.1), b.get? a = none
  tab : Tab s.heap
  dr : s.drawn = dn.1
  os : s.os = os
  bare : GB dn.2 s.gens

section
variable {g b : Heap} {L : Addr} {m : Str → Option Value} {own : List (Addr × Obj)} {dr : Dn} {os : OsState} {s s' : Shared}

theorem St.at (T : St g b L m own dr os s) {a : Addr} {o : Obj} (e : b.get? a = some o) : s.heap.get? a = some o := T.keep _ _ e
theorem St.low (T : St g b L m own dr os s) {a : Addr} (h : a ∈ L :: 57 :: own.map (·.1)) : a < s.heap.objs.size := by
  rcases List.mem_cons.mp h with rfl | h
  · exact T.ns.lt
  · rcases List.mem_cons.mp h with rfl | h
    · obtain ⟨ps, e, _⟩ := T.tab; exact Heap.lt_size e
    · obtain ⟨p, hp, rfl⟩ := List.mem_map.mp h
      exact Heap.lt_size (T.ow p hp)
theorem St.notin (T : St g b L m own dr os s) {a : Addr} (e : s.heap.get? a = none) : a ∉ L :: 57 :: own.map (·.1) := fun h => by
  rcases List.mem_cons.mp h with rfl | h
  · obtain ⟨o, _, _, ho, _⟩ := T.ns; rw [e] at ho; cases ho
  · rcases List.mem_cons.mp h with rfl | h
    · obtain ⟨ps, e', _⟩ := T.tab; rw [e] at e'; cases e'
    · obtain ⟨p, hp, rfl⟩ := List.mem_map.mp h
      have := T.ow p hp; rw [e] at this; cases this

theorem St.grow (T : St g b L m own dr os s) (k : Le s.heap s'.heap) (hd : s'.drawn = s.drawn) (ho : s'.os = s.os) (hg : GB dr.2 s.gens → GB dr.2 s'.gens) : St g b L m own dr os s' :=
  ⟨T.ns.keeps k, T.gr, T.keep.trans k, fun p hp => k _ _ (T.ow p hp), T.nd, T.off, T.tab.mono k, hd.trans T.dr, ho.trans T.os, hg T.bare⟩
theorem St.heap (T : St g b L m own dr os s) {h' : Heap} {tk : Nat} (k : Le s.heap h') : St g b L m own dr os { s with heap := h', toks := tk } := T.grow k rfl rfl id
theorem St.toks (T : St g b L m own dr os s) {tk : Nat} : St g b L m own dr os { s with toks := tk } := T.grow (Le.refl _) rfl rfl id
theorem St.heap' (T : St g b L m own dr os s) {h' : Heap} (k : Le s.heap h') : St g b L m own dr os { s with heap := h' } := T.grow k rfl rfl id

theorem St.store (T : St g b L m own dr os s) {h' : Heap} {m' : Str → Option Value} {tk : Nat} (hn : h'.Ns L m') (hs : Heap.SameBut L s.heap h') : St g b L m' own dr os { s with heap := h', toks := tk } := by
  have nL := List.nodup_cons.mp T.nd
  have k : ∀ a o, a ≠ L → s.heap.get? a = some o → h'.get? a = some o := fun a o n e => (hs.2 a n).trans e
  refine ⟨hn, T.gr, fun a o e => k a o ?_ (T.keep a o e), fun p hp => k _ _ ?_ (T.ow p hp), T.nd, T.off, ?_, T.dr, T.os, T.bare⟩
  · rintro rfl; rw [T.off a (.head _)] at e; cases e
  · rintro rfl; exact nL.1 (.tail _ (List.mem_map_of_mem hp))
  · obtain ⟨ps, e, t⟩ := T.tab
    exact ⟨ps, k _ _ (fun q => nL.1 (q ▸ .head _)) e, t⟩

theorem St.upd {l1 l2 : List (Addr × Obj)} {a : Addr} {o o' : Obj} (T : St g b L m (l1 ++ (a, o) :: l2) dr os s) {h' : Heap} {tk : Nat} (hs : Heap.SameBut a s.heap h') (ho : h'.get? a = some o') :
    St g b L m (l1 ++ (a, o') :: l2) dr os { s with heap := h', toks := tk } := by
  have em : (l1 ++ (a, o') :: l2).map (·.1) = (l1 ++ (a, o) :: l2).map (·.1) := by simp
  have nd := T.nd
  have nL := List.nodup_cons.mp nd
  have n57 := List.nodup_cons.mp nL.2
  have hm : a ∈ (l1 ++ (a, o) :: l2).map (·.1) := by simp
  have k : ∀ c oc, c ≠ a → s.heap.get? c = some oc → h'.get? c = some oc := fun c oc n e => (hs.2 c n).trans e
  have nl := n57.2
  rw [List.map_append, List.map_cons] at nl
  have nl' := List.nodup_append.mp nl
  refine ⟨T.ns.sameBut hs (fun q => nL.1 (by rw [q]; exact .tail _ hm)), T.gr, fun c oc e => k c oc ?_ (T.keep c oc e), fun p hp => ?_, em ▸ nd, em ▸ T.off, ?_, T.dr, T.os, T.bare⟩
  · rintro rfl; rw [T.off _ (.tail _ (.tail _ hm))] at e; cases e
  · rcases List.mem_append.mp hp with hp | hp
    · exact k _ _ (nl'.2.2 _ (List.mem_map_of_mem hp) _ (.head _)) (T.ow p (List.mem_append_left _ hp))
    · rcases List.mem_cons.mp hp with rfl | hp
      · exact ho
      · exact k _ _ (fun q => (List.nodup_cons.mp nl'.2.1).1 (by show a ∈ _; rw [← q]; exact List.mem_map_of_mem (f := fun x : Addr × Obj => x.1) hp)) (T.ow p (List.mem_append_right _ (.tail _ hp)))
  · obtain ⟨ps, e, t⟩ := T.tab
    exact ⟨ps, k _ _ (fun q => n57.1 (q ▸ hm)) e, t⟩

theorem St.take (T : St g b L m own dr os s) {r : Addr} {o : Obj} (hr : s.heap.get? r = none) (k : Le s.heap s'.heap) (e : s'.heap.get? r = some o) (hd : s'.drawn = s.drawn) (ho : s'.os = s.os)
    (hg : GB dr.2 s.gens → GB dr.2 s'.gens) : St g b L m ((r, o) :: own) dr os s' := by
  have T' := T.grow k hd ho hg
  have hn := T.notin hr
  have nL := List.nodup_cons.mp T.nd
  have n57 := List.nodup_cons.mp nL.2
  refine ⟨T'.ns, T'.gr, T'.keep, fun p hp => ?_, ?_, fun a ha => ?_, T'.tab, T'.dr, T'.os, T'.bare⟩
  · rcases List.mem_cons.mp hp with rfl | hp
    · exact e
    · exact T'.ow p hp
  · simp only [List.map_cons, List.nodup_cons, List.mem_cons, not_or] at hn nL n57 ⊢
    exact ⟨⟨nL.1.1, fun q => hn.1 q.symm, nL.1.2⟩, ⟨fun q => hn.2.1 q.symm, n57.1⟩, hn.2.2, n57.2⟩
  · rcases List.mem_cons.mp ha with rfl | ha
    · exact T.off _ (.head _)
    · rcases List.mem_cons.mp ha with rfl | ha
      · exact T.off _ (.tail _ (.head _))
      · rcases List.mem_cons.mp ha with ha | ha
        · rw [show a = r from ha]
          cases q : b.get? r with
          | none => rfl
          | some o' => have := T.keep _ _ q; rw [hr] at this; cases this
        · exact T.off _ (.tail _ (.tail _ ha))
theorem get_size (h : Heap) : h.get? h.objs.size = none := by
  cases e : h.get? h.objs.size with
  | none => rfl
  | some o => exact absurd (Heap.lt_size e) (Nat.lt_irrefl _)
theorem St.pushOwn (T : St g b L m own dr os s) {o : Obj} (hf : o.isFreed = false) : St g b L m ((s.heap.objs.size, o) :: own) dr os { s with heap := s.heap.push o } :=
  T.take (get_size _) (Le.push _ _) (Heap.get?_push_size _ hf) rfl rfl id

theorem St.freeze {r : Addr} {o : Obj} (T : St g b L m ((r, o) :: own) dr os s) : ∃ b', Le b b' ∧ b'.get? r = some o ∧ St g b' L m own dr os s := by
  have nL := List.nodup_cons.mp T.nd
  have n57 := List.nodup_cons.mp nL.2
  have hb : ∀ a o', b.get? a = some o' → a ∉ L :: 57 :: own.map (·.1) := fun a o' e q => by
    have : a ∈ L :: 57 :: ((r, o) :: own).map (·.1) := by
      rcases List.mem_cons.mp q with rfl | q
      · exact .head _
      · rcases List.mem_cons.mp q with rfl | q
        · exact .tail _ (.head _)
        · exact .tail _ (.tail _ (.tail _ q))
    rw [T.off a this] at e; cases e
  have le : Le b (hideAll s.heap (L :: 57 :: own.map (·.1))) := fun a o' e => hideAll_get _ (T.keep a o' e) (hb a o' e)
  have hr : r ∉ L :: 57 :: own.map (·.1) := by
    simp only [List.map_cons, List.nodup_cons, List.mem_cons, not_or] at nL n57 ⊢
    exact ⟨fun q => nL.1.2.1 q.symm, fun q => n57.1.1 q.symm, n57.2.1⟩
  refine ⟨_, le, hideAll_get _ (T.ow (r, o) (.head _)) hr, T.ns, T.gr.trans le, fun a o' e => of_hideAll _ e, fun p hp => T.ow p (.tail _ hp), ?_, fun a ha => hideAll_none _ ha, T.tab, T.dr, T.os, T.bare⟩
  simp only [List.map_cons, List.nodup_cons, List.mem_cons, not_or] at nL n57 ⊢
  exact ⟨⟨nL.1.1, nL.1.2.2⟩, n57.1.2, n57.2.2⟩
/-- the largest base -/
theorem St.rebase (T : St g b L m own dr os s) : ∃ b', Le b b' ∧ (∀ a o, a ∉ L :: 57 :: own.map (·.1) → s.heap.get? a = some o → b'.get? a = some o) ∧ St g b' L m own dr os s := by
  have le : Le b (hideAll s.heap (L :: 57 :: own.map (·.1))) := fun a o' e => hideAll_get _ (T.keep a o' e) fun q => by rw [T.off a q] at e; cases e
  exact ⟨_, le, fun a o n e => hideAll_get _ e n, T.ns, T.gr.trans le, fun a o' e => of_hideAll _ e, T.ow, T.nd, fun a ha => hideAll_none _ ha, T.tab, T.dr, T.os, T.bare⟩
theorem St.drop {p : Addr × Obj} (T : St g b L m (p :: own) dr os s) : St g b L m own dr os s := by
  have nL := List.nodup_cons.mp T.nd
  have n57 := List.nodup_cons.mp nL.2
  refine ⟨T.ns, T.gr, T.keep, fun q hq => T.ow q (.tail _ hq), ?_, fun a ha => T.off a ?_, T.tab, T.dr, T.os, T.bare⟩
  · simp only [List.map_cons, List.nodup_cons, List.mem_cons, not_or] at nL n57 ⊢
    exact ⟨⟨nL.1.1, nL.1.2.2⟩, n57.1.2, n57.2.2⟩
  · rcases List.mem_cons.mp ha with rfl | ha
    · exact .head _
    · rcases List.mem_cons.mp ha with rfl | ha
      · exact .tail _ (.head _)
      · exact .tail _ (.tail _ (.tail _ ha))
end

/-- what a call of the text's own leaves -/
structure Pur (s s' : Shared) : Prop where
  keep : ∀ a o, a ≠ 57 → s.heap.get? a = some o → s'.heap.get? a = some o
  tab : Tab s.heap → Tab s'.heap
  dr : s'.drawn = s.drawn
  os : s'.os = s.os
  bare : ∀ n, GB n s.gens → GB n s'.gens

section
variable {g b : Heap} {L : Addr} {m : Str → Option Value} {own : List (Addr × Obj)} {dr : Dn} {os : OsState} {s s' : Shared}
theorem St.pur (T : St g b L m own dr os s) (P : Pur s s') : St g b L m own dr os s' := by
  have nL := List.nodup_cons.mp T.nd
  have n57 := List.nodup_cons.mp nL.2
  refine ⟨T.ns.at' fun o e => P.keep _ _ (fun q => nL.1 (q ▸ .head _)) e, T.gr, fun a o e => P.keep _ _ (fun q => ?_) (T.keep _ _ e), fun p hp => P.keep _ _ (fun q => ?_) (T.ow p hp), T.nd, T.off, P.tab T.tab, P.dr.trans T.dr, P.os.trans T.os, P.bare _ T.bare⟩
  · subst q; rw [T.off _ (.tail _ (.head _))] at e; cases e
  · exact n57.1 (q ▸ List.mem_map_of_mem hp)
/-- at a def's end -/
theorem St.leave (T : St (hideAll s.heap [57]) b L m own dr os s') (hd : s.drawn = dr.1 ∧ dr.2 = s.gens.size) (ho : s.os = os) : Pur s s' :=
  ⟨fun a o n e => T.keep _ _ (T.gr _ _ (hideAll_get _ e (by simpa using n))), fun _ => T.tab, T.dr.trans hd.1.symm, T.os.trans ho.symm, fun n h => ⟨T.bare.1, Nat.le_trans h.2 (hd.2 ▸ T.bare.2)⟩⟩
end
end Mine
end

section
open PySem PySem.W PySem.Calls PySem.Spec PyProof.Rows
set_option linter.unusedVariables false
namespace Mine

/-- what stands fast within one def's frame -/
structure Fx (prog : Program) where
  w : World
  A : Around
  env : Env
  g : Heap
  L : Addr
  dr : Dn
  os : OsState
abbrev Fx.M {prog : Program} (Γ : Fx prog) : Model := model prog Γ.w
abbrev Fx.S {prog : Program} (Γ : Fx prog) (b : Heap) (m : Str → Option Value) (own : List (Addr × Obj)) (s : Shared) : Prop := St Γ.g b Γ.L m own Γ.dr Γ.os s
structure Fx.Ok {prog : Program} (Γ : Fx prog) : Prop where
  kind : Γ.env.scope.kind = .function
  loc : Γ.env.locals = Γ.L
  glob : Γ.env.globals = mainGlobals
  bui : Γ.env.builtins = builtinsNs
  hand : Γ.A.handled = none
  depth : Γ.A.depth + 20 < recursionLimit
  units : Γ.A.units + 100 < cLine

def IsI (i : Int) (v : Value) : Prop := ∃ t, v = .int i t
def IsS (x : Str) (v : Value) : Prop := ∃ t, v = .str x t
def IsB (c : Bool) (v : Value) : Prop := v = .bool c
def IsV (u : Value) (v : Value) : Prop := v = u

def Ev {prog : Program} (Γ : Fx prog) (b : Heap) (m : Str → Option Value) (own : List (Addr × Obj)) (e : Expr) (P : Value → Prop) : Prop :=
  ∀ s E, Γ.S b m own s → wpAny Γ.M Γ.A (eval e Γ.env) (fun v s' => P v ∧ Γ.S b m own s') E s
def Tv {prog : Program} (Γ : Fx prog) (b : Heap) (m : Str → Option Value) (own : List (Addr × Obj)) (e : Expr) (c : Bool) : Prop :=
  ∀ s E, Γ.S b m own s → wpAny Γ.M Γ.A (isTrue e Γ.env (eval e Γ.env)) (fun r s' => r = c ∧ Γ.S b m own s') E s

section
variable {prog : Program} {Γ : Fx prog} {b : Heap} {m : Str → Option Value} {own : List (Addr × Obj)}

theorem Ev.use {e : Expr} {P : Value → Prop} {Q : Value → Shared → Prop} {E : Value → Shared → Prop} {s : Shared} (h : Ev Γ b m own e P) (T : Γ.S b m own s) (k : ∀ v s', P v → Γ.S b m own s' → Q v s') :
    wpAny Γ.M Γ.A (eval e Γ.env) Q E s := wpAny_mono (h s E T) (fun v s' x => k v s' x.1 x.2) fun _ _ x => x
theorem Tv.use {e : Expr} {c : Bool} {Q : Bool → Shared → Prop} {E : Value → Shared → Prop} {s : Shared} (h : Tv Γ b m own e c) (T : Γ.S b m own s) (k : ∀ s', Γ.S b m own s' → Q c s') :
    wpAny Γ.M Γ.A (isTrue e Γ.env (eval e Γ.env)) Q E s := wpAny_mono (h s E T) (fun v s' x => by obtain ⟨rfl, T'⟩ := x; exact k s' T') fun _ _ x => x
theorem Ev.mono {e : Expr} {P P' : Value → Prop} (h : Ev Γ b m own e P) (k : ∀ v, P v → P' v) : Ev Γ b m own e P' := fun _ _ T => h.use T fun v _ hp T' => ⟨k v hp, T'⟩

theorem Ev.int {i : Int} {k pos} : Ev Γ b m own (.Constant (.int i) k pos) (IsI i) := fun _ _ T => wpAny_Constant_int ⟨⟨_, rfl⟩, T.toks⟩
theorem Ev.str {x : Str} {k pos} : Ev Γ b m own (.Constant (.str x) k pos) (IsS x) := fun _ _ T => wpAny_Constant_str ⟨⟨_, rfl⟩, T.toks⟩
theorem Ev.bool {c : Bool} {k pos} : Ev Γ b m own (.Constant (.bool c) k pos) (IsB c) := fun _ _ T => wpAny_Constant_bool ⟨rfl, T⟩
theorem Ev.loc {x : Str} {pos} {v : Value} (O : Γ.Ok) (hv : m x = some v) (hx : Γ.env.kindOf x = some .local) (hd : (x == ("__debug__" : Str)) = false) : Ev Γ b m own (.Name x pos) (IsV v) :=
  fun _ _ T => wpAny_Name (wpAny_loadName_local O.kind hx (by rw [O.loc]; exact T.ns) hv ⟨rfl, T⟩) hd
theorem Ev.locI {x : Str} {pos} {i : Int} (O : Γ.Ok) (hv : ∃ t, m x = some (.int i t)) (hx : Γ.env.kindOf x = some .local) (hd : (x == ("__debug__" : Str)) = false) : Ev Γ b m own (.Name x pos) (IsI i) :=
  let ⟨t, e⟩ := hv; (Ev.loc O e hx hd).mono fun _ h => ⟨t, h⟩
theorem Ev.locS {x : Str} {pos} {i : Str} (O : Γ.Ok) (hv : ∃ t, m x = some (.str i t)) (hx : Γ.env.kindOf x = some .local) (hd : (x == ("__debug__" : Str)) = false) : Ev Γ b m own (.Name x pos) (IsS i) :=
  let ⟨t, e⟩ := hv; (Ev.loc O e hx hd).mono fun _ h => ⟨t, h⟩
theorem Ev.cell {x : Str} {pos} {c : Addr} {v : Value} (O : Γ.Ok) (hv : ∃ o, b.get? c = some o ∧ o.data = .cell (some v)) (hc : Γ.env.cells.lookup x = some c) (hx : Γ.env.kindOf x = some .cell) (hd : (x == ("__debug__" : Str)) = false) :
    Ev Γ b m own (.Name x pos) (IsV v) := fun _ _ T => let ⟨o, e, q⟩ := hv; wpAny_Name (wpAny_loadName_cell O.kind hx hc ⟨o, T.keep _ _ e, q⟩ ⟨rfl, T⟩) hd
theorem Ev.cellO {x : Str} {pos} {c : Addr} {v : Value} {o : Obj} (O : Γ.Ok) (hv : (c, o) ∈ own) (ho : o.data = .cell (some v)) (hc : Γ.env.cells.lookup x = some c) (hx : Γ.env.kindOf x = some .cell) (hd : (x == ("__debug__" : Str)) = false) :
    Ev Γ b m own (.Name x pos) (IsV v) := fun _ _ T => wpAny_Name (wpAny_loadName_cell O.kind hx hc ⟨o, T.ow _ hv, ho⟩ ⟨rfl, T⟩) hd
theorem Ev.free {x : Str} {pos} {c : Addr} {v : Value} (O : Γ.Ok) (hv : ∃ o, b.get? c = some o ∧ o.data = .cell (some v)) (hc : Γ.env.cells.lookup x = some c) (hx : Γ.env.kindOf x = some .free) (hd : (x == ("__debug__" : Str)) = false)
    (hn : (x == ("__classdict__" : Str)) = false) :
    Ev Γ b m own (.Name x pos) (IsV v) := fun _ _ T => let ⟨o, e, q⟩ := hv; wpAny_Name (wpAny_loadName_free O.kind hx hc ⟨o, T.keep _ _ e, q⟩ ⟨rfl, T⟩ hn) hd
theorem Ev.glob {x : Str} {pos} {mg : Str → Option Value} {v : Value} (O : Γ.Ok) (G : Γ.g.Ns mainGlobals mg) (hv : mg x = some v) (hx : Γ.env.kindOf x = some .globalImplicit) (hd : (x == ("__debug__" : Str)) = false) :
    Ev Γ b m own (.Name x pos) (IsV v) := fun _ _ T => Name_function_global O.kind hx (loadGlobal_global (by rw [O.glob]; exact G.keeps (T.gr.trans T.keep)) hv ⟨rfl, T⟩) hd
theorem Ev.bui {x : Str} {pos} {mg mb : Str → Option Value} {v : Value} (O : Γ.Ok) (G : Γ.g.Ns mainGlobals mg) (B : Γ.g.Ns builtinsNs mb) (hm : mg x = none) (hv : mb x = some v) (hx : Γ.env.kindOf x = some .globalImplicit) (hd : (x == ("__debug__" : Str)) = false) :
    Ev Γ b m own (.Name x pos) (IsV v) := fun _ _ T => Name_function_global O.kind hx (loadGlobal_builtin (by rw [O.glob]; exact G.keeps (T.gr.trans T.keep)) hm (by rw [O.bui]; exact B.keeps (T.gr.trans T.keep)) hv ⟨rfl, T⟩) hd

/-- an operation of two values that makes no object -/
def Bop (op : Operator) (P₁ P₂ P₃ : Value → Prop) : Prop :=
  ∀ (prog : Program) (w : World) (A : Around) (E : Value → Shared → Prop) (s : Shared) (x y : Value) (Q : Value → Shared → Prop), P₁ x → P₂ y → (∀ v tk, P₃ v → Q v { s with toks := tk }) → wpAny (model prog w) A (binaryOp op x y) Q E s
def Cop (op : CmpOp) (P₁ P₂ P₃ : Value → Prop) : Prop :=
  ∀ (prog : Program) (w : World) (A : Around) (E : Value → Shared → Prop) (s : Shared) (x y : Value) (Q : Value → Shared → Prop), P₁ x → P₂ y → (∀ v tk, P₃ v → Q v { s with toks := tk }) → wpAny (model prog w) A (compareOp op x y) Q E s
theorem Ev.bin {l r : Expr} {op : Operator} {pos} {P₁ P₂ P₃ : Value → Prop} (O : Bop op P₁ P₂ P₃) (hl : Ev Γ b m own l P₁) (hr : Ev Γ b m own r P₂) : Ev Γ b m own (.BinOp l op r pos) P₃ :=
  fun _ _ T => wpAny_BinOp (hl.use T fun x s₁ hx T₁ => hr.use T₁ fun y s₂ hy T₂ => O _ _ _ _ s₂ x y _ hx hy fun v tk hv => ⟨hv, T₂.toks⟩)
theorem Ev.cmp {l r : Expr} {op : CmpOp} {pos} {P₁ P₂ P₃ : Value → Prop} (O : Cop op P₁ P₂ P₃) (hl : Ev Γ b m own l P₁) (hr : Ev Γ b m own r P₂) (hm : behindInMarks op r = false) : Ev Γ b m own (.Compare l [op] [r] pos) P₃ :=
  fun _ _ T => wpAny_Compare1 (hl.use T fun x s₁ hx T₁ => hr.use T₁ fun y s₂ hy T₂ => O _ _ _ _ s₂ x y _ hx hy fun v tk hv => ⟨hv, T₂.toks⟩) hm
theorem Tv.cmp {l r : Expr} {op : CmpOp} {pos} {P₁ P₂ : Value → Prop} {c : Bool} (O : Cop op P₁ P₂ (IsB c)) (hl : Ev Γ b m own l P₁) (hr : Ev Γ b m own r P₂) (hm : behindInMarks op r = false) : Tv Γ b m own (.Compare l [op] [r] pos) c :=
  fun _ _ T => wpAny_isTrue_Compare1 (hl.use T fun x s₁ hx T₁ => hr.use T₁ fun y s₂ hy T₂ => O _ _ _ _ s₂ x y _ hx hy fun v tk hv => by rw [show v = .bool c from hv]; exact wpAny_truthy_bool ⟨rfl, T₂.toks⟩) hm
theorem Tv.not {x : Expr} {pos} {c : Bool} (h : Tv Γ b m own x c) : Tv Γ b m own (.UnaryOp .Not x pos) (!c) := fun _ _ T => isTrue_not (h.use T fun _ T' => ⟨rfl, T'⟩)
theorem Tv.and0 {pos whole} {Q : Bool → Shared → Prop} {E : Value → Shared → Prop} {s : Shared} (h : Q true s) : wpAny Γ.M Γ.A (isTrue (.BoolOp .And [] pos) Γ.env whole) Q E s := isTrue_and_nil h
/-- for any whole -/
def Tw (Γ : Fx prog) (b : Heap) (m : Str → Option Value) (own : List (Addr × Obj)) (e : Expr) (c : Bool) : Prop :=
  ∀ whole s E, Γ.S b m own s → wpAny Γ.M Γ.A (isTrue e Γ.env whole) (fun r s' => r = c ∧ Γ.S b m own s') E s
theorem Tw.tv {e : Expr} {c : Bool} (h : Tw Γ b m own e c) : Tv Γ b m own e c := fun s E T => h _ s E T
theorem Tw.andN {pos} : Tw Γ b m own (.BoolOp .And [] pos) true := fun _ _ _ T => isTrue_and_nil ⟨rfl, T⟩
theorem Tw.andF {x : Expr} {rest} {pos} (h : Tv Γ b m own x false) : Tw Γ b m own (.BoolOp .And (x :: rest) pos) false := fun _ _ _ T => isTrue_and (h.use T fun _ T' => by rw [if_neg Bool.false_ne_true]; exact ⟨rfl, T'⟩)
theorem Tw.andT {x : Expr} {rest} {pos} {c : Bool} (h : Tv Γ b m own x true) (k : Tw Γ b m own (.BoolOp .And rest pos) c) : Tw Γ b m own (.BoolOp .And (x :: rest) pos) c :=
  fun _ _ _ T => isTrue_and (h.use T fun _ T' => by rw [if_pos rfl]; exact k _ _ _ T')
theorem Tw.andC {x : Expr} {rest} {pos} {c d : Bool} (h : Tv Γ b m own x c) (k : c = true → Tw Γ b m own (.BoolOp .And rest pos) d) : Tw Γ b m own (.BoolOp .And (x :: rest) pos) (c && d) := by
  cases c with
  | false => exact Tw.andF h
  | true => exact Tw.andT h (k rfl)

theorem eqL (x y : Str) : (x.cps.toList == y.cps.toList) = decide (x = y) := by
  rw [Bool.eq_iff_iff, beq_iff_eq, decide_eq_true_iff]
  constructor
  · intro h
    obtain ⟨x⟩ := x; obtain ⟨y⟩ := y
    exact congrArg Str.mk (Array.ext' h)
  · rintro rfl; rfl
theorem bop_addI {i j : Int} : Bop .Add (IsI i) (IsI j) (IsI (i + j)) := by rintro _ _ _ _ _ _ _ _ ⟨t, rfl⟩ ⟨u, rfl⟩ k; exact add_int (k _ _ ⟨_, rfl⟩)
theorem bop_subI {i j : Int} : Bop .Sub (IsI i) (IsI j) (IsI (i - j)) := by rintro _ _ _ _ _ _ _ _ ⟨t, rfl⟩ ⟨u, rfl⟩ k; exact sub_int (k _ _ ⟨_, rfl⟩)
theorem bop_modI {i j : Int} (hj : j ≠ 0) : Bop .Mod (IsI i) (IsI j) (IsI (i.fmod j)) := by rintro _ _ _ _ _ _ _ _ ⟨t, rfl⟩ ⟨u, rfl⟩ k; exact mod_int' hj (k _ _ ⟨_, rfl⟩)
theorem bop_divI {i j : Int} (hj : j ≠ 0) (hs : j.natAbs < 1073741824) : Bop .FloorDiv (IsI i) (IsI j) (IsI (i.fdiv j)) := by rintro _ _ _ _ _ _ _ _ ⟨t, rfl⟩ ⟨u, rfl⟩ k; exact floordiv_int hj (k _ _ ⟨_, rfl⟩) (Or.inl (PyProof.noPylong_small hs))
theorem cop_ltI {i j : Int} : Cop .Lt (IsI i) (IsI j) (IsB (decide (i < j))) := by rintro _ _ _ _ _ _ _ _ ⟨t, rfl⟩ ⟨u, rfl⟩ k; exact lt_int (k _ _ rfl)
theorem cop_eqI {i j : Int} : Cop .Eq (IsI i) (IsI j) (IsB (i == j)) := by rintro _ _ _ _ _ _ _ _ ⟨t, rfl⟩ ⟨u, rfl⟩ k; exact eq_int (k _ _ rfl)
theorem cop_eqS {x y : Str} : Cop .Eq (IsS x) (IsS y) (IsB (decide (x = y))) := by
  rintro _ _ _ _ _ _ _ _ ⟨t, rfl⟩ ⟨u, rfl⟩ k
  exact PySem.P.eq_str (k _ _ (congrArg Value.bool (eqL x y)))
theorem cop_neS {x y : Str} : Cop .NotEq (IsS x) (IsS y) (IsB (!decide (x = y))) := by
  rintro _ _ _ _ _ _ _ _ ⟨t, rfl⟩ ⟨u, rfl⟩ k
  exact PySem.P.ne_str (k _ _ (congrArg Value.bool (by rw [bne, eqL x y])))
theorem cop_inC {x : Str} {c : Nat} : Cop .In (IsS ⟨#[c]⟩) (IsS x) (IsB (decide (c ∈ x.cps.toList))) := by
  rintro _ _ _ _ _ _ _ _ ⟨t, rfl⟩ ⟨u, rfl⟩ k
  exact PySem.P.in_str (k _ _ (congrArg Value.bool (StrLaws.found_one x c)))
end
end Mine
end

section
open PySem PySem.W PySem.Calls PySem.Spec PyProof.Rows
set_option linter.unusedVariables false
namespace Mine

/-- a value is made; new things stay as they are -/
def Ei {prog : Program} (Γ : Fx prog) (b : Heap) (m : Str → Option Value) (own : List (Addr × Obj)) (e : Expr) (P : Heap → Value → Prop) : Prop :=
  ∀ s E, Γ.S b m own s → wpAny Γ.M Γ.A (eval e Γ.env) (fun v s' => ∃ b', Le b b' ∧ P b' v ∧ Γ.S b' m own s') E s

section
variable {prog : Program} {Γ : Fx prog} {b : Heap} {m : Str → Option Value} {own : List (Addr × Obj)}
theorem Ev.ei {e : Expr} {P : Heap → Value → Prop} (h : Ev Γ b m own e (P b)) : Ei Γ b m own e P := fun _ _ T => h.use T fun _ _ hv T' => ⟨b, Le.refl b, hv, T'⟩
theorem Ei.use {e : Expr} {P : Heap → Value → Prop} {Q : Value → Shared → Prop} {E : Value → Shared → Prop} {s : Shared} (h : Ei Γ b m own e P) (T : Γ.S b m own s) (k : ∀ v s' b', Le b b' → P b' v → Γ.S b' m own s' → Q v s') :
    wpAny Γ.M Γ.A (eval e Γ.env) Q E s := wpAny_mono (h s E T) (fun v s' ⟨b', l, p, T'⟩ => k v s' b' l p T') fun _ _ x => x
end

theorem St.offSame {g b : Heap} {L : Addr} {m : Str → Option Value} {own : List (Addr × Obj)} {dr : Dn} {os : OsState} {s : Shared} (T : St g b L m own dr os s) {C : Addr} {h' : Heap} {tk : Nat} (hs : Heap.SameBut C s.heap h')
    (hC : C ∉ L :: 57 :: own.map (·.1)) (hb : b.get? C = none) : St g b L m own dr os { s with heap := h', toks := tk } := by
  have k : ∀ a o, a ≠ C → s.heap.get? a = some o → h'.get? a = some o := fun a o n e => (hs.2 a n).trans e
  simp only [List.mem_cons, not_or] at hC
  refine ⟨T.ns.at' fun o e => k _ _ (Ne.symm hC.1) e, T.gr, fun a o e => k _ _ (fun q => by rw [q, hb] at e; cases e) (T.keep _ _ e), fun p hp => k _ _ (fun q => hC.2.2 (q ▸ List.mem_map_of_mem hp)) (T.ow p hp), T.nd, T.off, ?_, T.dr, T.os, T.bare⟩
  obtain ⟨ps, e, t⟩ := T.tab
  exact ⟨ps, k _ _ (Ne.symm hC.2.1) e, t⟩

def upd (m : Str → Option Value) (x : Str) (v : Value) : Str → Option Value := fun y => if y = x then some v else m y
theorem upd_eq (m : Str → Option Value) (x : Str) (v : Value) : upd m x v x = some v := if_pos rfl
theorem upd_ne {m : Str → Option Value} {x y : Str} {v : Value} (h : y ≠ x) : upd m x v y = m y := if_neg h
abbrev Fx.comp {prog : Program} (Γ : Fx prog) (scope : Scope) (cl : List (Str × Addr)) (C : Addr) : Fx prog := { Γ with env := compEnvC scope cl C Γ.env, L := C }
theorem Fx.Ok.comp {prog : Program} {Γ : Fx prog} (O : Γ.Ok) {scope : Scope} {cl : List (Str × Addr)} {C : Addr} (hk : scope.kind = .function) : (Γ.comp scope cl C).Ok :=
  ⟨hk, rfl, O.glob, O.bui, O.hand, O.depth, O.units⟩

def ItOk (o : Obj) : Prop := ∃ n, o.cls = .type n ∧ (["enumerate", "zip", "dict_itemiterator", "dict_reverseitemiterator", "odict_iterator", "itertools.zip_longest", "itertools.pairwise"].contains n) = false
theorem letOwned {M : Model} {A : Around} {E : Value → Shared → Prop} {s : Shared} {target : Expr} {I : Addr} {v : Value} {o : Obj} {Q : Unit → Shared → Prop} (ho : s.heap.get? I = some o) (hc : ItOk o) (hQ : Q () s) :
    wpAny M A (letOwnedTupleGo target (.ref I) v) Q E s := by
  obtain ⟨n, hn, hl⟩ := hc
  unfold letOwnedTupleGo
  split
  all_goals first
    | exact wpAny_pure hQ
    | (cases v <;> first
        | exact wpAny_pure hQ
        | (refine wpAny_bind (wpAny_load ho ?_)
           obtain ⟨c, d, dt, sl⟩ := o
           dsimp only at hn ⊢
           subst hn
           cases dt <;> first
             | exact wpAny_pure hQ
             | (dsimp only; rw [if_neg (by rw [hl, Bool.false_and]; exact Bool.false_ne_true)]; exact wpAny_pure hQ)))
theorem compLoop_own {prog : Program} {w : World} {A : Around} {R : Result → Shared → Prop} {s : Shared} {elt target iter : Expr} {ifs : List Expr} {scope : Scope} {pos : Pos} {it acc : Value} {env : Env} (I : Nat → Shared → Prop)
    (turn : ∀ n s, I n s → wpAny (model prog w) A (pyNext it) (fun r s₁ => match r with
      | none => R (.ok .next) s₁
      | some v => wpAny (model prog w) A (letOwnedTupleGo target it v) (fun _ s₁' => wpAny (model prog w) A (assign target env v) (fun _ s₂ =>
          wpAny (model prog w) A (forIn ifs true fun c r => if r = true then do let ok ← isTrue c env (eval c env); pure (ForInStep.yield ok) else pure (ForInStep.yield r)) (fun ok s₃ =>
            if ok = true then wpAny (model prog w) A (eval elt env) (fun x s₄ =>
              wpAny (model prog w) A (call (.builtin "list.append") [acc, x]) (fun _ s₅ => ∃ m, m < n ∧ I m s₅) (notedBy (model prog w) A env fun e s' => R (.error e) s') s₄) (notedBy (model prog w) A env fun e s' => R (.error e) s') s₃
            else ∃ m, m < n ∧ I m s₃) (notedBy (model prog w) A env fun e s' => R (.error e) s') s₂) (notedBy (model prog w) A env fun e s' => R (.error e) s') s₁') (notedBy (model prog w) A env fun e s' => R (.error e) s') s₁) (notedBy (model prog w) A env fun e s' => R (.error e) s') s)
    (n : Nat) (h : I n s) : codeAny (model prog w) A (.compLoop (.ListComp elt [⟨target, iter, ifs, 0⟩] scope pos) 0 it acc env) R s := by
  refine codeAny_loop rfl I (fun n s hI => ?_) n h
  show wpAny _ A ((compTurn (.ListComp elt [⟨target, iter, ifs, 0⟩] scope pos) 0 it acc env).onRaise (fun x => do noteFrame x env; theTreesLotGoes x)) _ _ s
  refine wpAny_noted ?_
  rw [compTurn_list]
  refine wpAny_bind (wpAny_standAt (wpAny_bind (wpAny_mono (turn n s hI) (fun r s₁ h₁ => ?_) fun _ _ h' => h')))
  cases r with
  | none => exact wpAny_pure h₁
  | some v =>
    refine wpAny_bind (wpAny_mono h₁ (fun _ s₁' h₁' => ?_) fun _ _ h' => h')
    refine wpAny_bind (wpAny_mono h₁' (fun _ s₂ h₂ => wpAny_bind (wpAny_mono h₂ (fun ok s₃ h₃ => ?_) fun _ _ h' => h')) fun _ _ h' => h')
    cases ok with
    | false => exact wpAny_pure ⟨rfl, h₃⟩
    | true => exact wpAny_bind (wpAny_bind (wpAny_mono h₃ (fun x s₄ h₄ => wpAny_bind (wpAny_mono h₄ (fun _ s₅ h₅ => wpAny_pure (wpAny_pure ⟨rfl, h₅⟩)) fun _ _ h' => h')) fun _ _ h' => h'))
/-- a source: an iterator that hands out the items of `as` -/
structure Src {prog : Program} (Γ : Fx prog) (b : Heap) (s₁ : Shared) (I : Addr) (s : Shared) {α : Type} (as : List α) (Kin : Value → α → Prop) where
  fp : List Addr
  n : Nat
  P : Nat → Value → Prop
  Sp : Nat → Heap → Prop
  walk : ∀ A : Around, A.handled = none → Walks prog Γ.w A I fp [I] n P Sp
  st : Sp 0 s.heap
  has : ∃ oI, s.heap.get? I = some oI
  new : s₁.heap.get? I = none
  le : Le s₁.heap s.heap
  same : ∃ h tk, s = { s₁ with heap := h, toks := tk }
  fps : ∀ a ∈ fp, a = I ∨ ∃ o, b.get? a = some o
  len : n = as.length
  item : ∀ i v, P i v → i < n → ∃ a, as[i]? = some a ∧ Kin v a
  hasI : ∀ i h, Sp i h → ∃ o, h.get? I = some o ∧ ItOk o

section
variable {prog : Program} {Γ : Fx prog} {b : Heap} {m : Str → Option Value} {own : List (Addr × Obj)} {α β : Type}

/-- one turn of a comprehension -/
def CTurn (Γ : Fx prog) (b : Heap) (own : List (Addr × Obj)) (elt target : Expr) (ifs : List Expr) (scope : Scope) (cl : List (Str × Addr)) (as : List α) (p : α → Bool) (f : α → β) (Kin : Value → α → Prop) (Kout : Heap → Value → β → Prop) : Prop :=
  ∀ (C : Addr) (b₁ : Heap) (own₁ : List (Addr × Obj)) (m₁ : Str → Option Value) (a : α) (v : Value) (s : Shared) (E : Value → Shared → Prop), a ∈ as → Le b b₁ → (∀ q ∈ own, q ∈ own₁) → Kin v a → (Γ.comp scope cl C).S b₁ m₁ own₁ s →
    wpAny Γ.M Γ.A (assign target (compEnvC scope cl C Γ.env) v) (fun _ s₂ =>
      wpAny Γ.M Γ.A (forIn ifs true fun c r => if r = true then do let ok ← isTrue c (compEnvC scope cl C Γ.env) (eval c (compEnvC scope cl C Γ.env)); pure (ForInStep.yield ok) else pure (ForInStep.yield r)) (fun ok s₃ => ok = p a ∧
        if ok = true then wpAny Γ.M Γ.A (eval elt (compEnvC scope cl C Γ.env)) (fun y s₄ => ∃ b₂ m₂, Le b₁ b₂ ∧ Kout b₂ y (f a) ∧ (Γ.comp scope cl C).S b₂ m₂ own₁ s₄) E s₃ else ∃ m₂, (Γ.comp scope cl C).S b₁ m₂ own₁ s₃) E s₂) E s

inductive All2 {α β : Type} (R : α → β → Prop) : List α → List β → Prop
  | nil : All2 R [] []
  | cons {a b l₁ l₂} : R a b → All2 R l₁ l₂ → All2 R (a :: l₁) (b :: l₂)
theorem All2.mono {α β : Type} {R R' : α → β → Prop} (k : ∀ a b, R a b → R' a b) : ∀ {l₁ : List α} {l₂ : List β}, All2 R l₁ l₂ → All2 R' l₁ l₂
  | _, _, .nil => .nil
  | _, _, .cons h t => .cons (k _ _ h) (t.mono k)
theorem All2.snoc {α β : Type} {R : α → β → Prop} {a : α} {b : β} : ∀ {l₁ : List α} {l₂ : List β}, All2 R l₁ l₂ → R a b → All2 R (l₁ ++ [a]) (l₂ ++ [b])
  | _, _, .nil, h => .cons h .nil
  | _, _, .cons h₁ t, h => .cons h₁ (t.snoc h)
theorem All2.length {α β : Type} {R : α → β → Prop} : ∀ {l₁ : List α} {l₂ : List β}, All2 R l₁ l₂ → l₁.length = l₂.length
  | _, _, .nil => rfl
  | _, _, .cons _ t => by simp [t.length]
theorem All2.get {α β : Type} {R : α → β → Prop} : ∀ {l₁ : List α} {l₂ : List β} {i : Nat} {y : β}, All2 R l₁ l₂ → l₂[i]? = some y → ∃ x, l₁[i]? = some x ∧ R x y
  | _, _, i, y, .nil, h => by simp at h
  | _, _, 0, y, .cons h₁ t, h => by simp at h; subst h; exact ⟨_, rfl, h₁⟩
  | _, _, i + 1, y, .cons h₁ t, h => by
    obtain ⟨x, hx, r⟩ := t.get (i := i) (by simpa using h)
    exact ⟨x, by simpa using hx, r⟩
theorem All2.getL {α β : Type} {R : α → β → Prop} : ∀ {l₁ : List α} {l₂ : List β} {i : Nat} {x : α}, All2 R l₁ l₂ → l₁[i]? = some x → ∃ y, l₂[i]? = some y ∧ R x y
  | _, _, i, y, .nil, h => by simp at h
  | _, _, 0, y, .cons h₁ t, h => by simp at h; subst h; exact ⟨_, rfl, h₁⟩
  | _, _, i + 1, y, .cons h₁ t, h => by
    obtain ⟨x, hx, r⟩ := t.getL (i := i) (by simpa using h)
    exact ⟨x, by simpa using hx, r⟩

theorem mem_swap {a D I L C : Addr} {l : List Addr} (q : a ∈ C :: 57 :: D :: I :: L :: l) : a = C ∨ a ∈ L :: 57 :: D :: I :: l := by
  rcases List.mem_cons.mp q with q | q
  · exact .inl q
  rcases List.mem_cons.mp q with q | q
  · exact .inr (q ▸ .tail _ (.head _))
  rcases List.mem_cons.mp q with q | q
  · exact .inr (q ▸ .tail _ (.tail _ (.head _)))
  rcases List.mem_cons.mp q with q | q
  · exact .inr (q ▸ .tail _ (.tail _ (.tail _ (.head _))))
  rcases List.mem_cons.mp q with q | q
  · exact .inr (q ▸ .head _)
  · exact .inr (.tail _ (.tail _ (.tail _ (.tail _ q))))
theorem comp_core (O : Γ.Ok) {elt target iter : Expr} {ifs : List Expr} {scope : Scope} {cl : List (Str × Addr)} {pos : Pos} (as : List α) (p : α → Bool) (f : α → β) (Kin : Value → α → Prop) (Kout : Heap → Value → β → Prop)
    (kmono : ∀ b b' v y, Le b b' → Kout b v y → Kout b' v y) (hcell : ∀ y ∈ scope.names, y.2 ≠ .cell) (hkind : scope.kind = .function) (hlen : as.length ≤ sizeLine)
    (turn : CTurn Γ b own elt target ifs scope cl as p f Kin Kout) {s₁ s : Shared} {I : Addr} (T₁ : Γ.S b m own s₁) (X : Src Γ b s₁ I s as Kin)
    {E : Value → Shared → Prop} {RR : Value → Addr → Result → Shared → Prop}
    (k : ∀ D C ys b₂ m' s', Le b b₂ → All2 (Kout b₂) ys ((as.filter p).map f) → Γ.S b₂ m ((D, LCg.lst ys) :: own) s' → s'.heap.Ns C m' → C ∉ Γ.L :: 57 :: ((D, LCg.lst ys) :: own).map (·.1) → b₂.get? C = none → RR (.ref D) C (.ok .next) s') :
    wpAny Γ.M Γ.A (newList []) (fun acc s₃ => wpAny Γ.M Γ.A (newFunctionEnv scope Γ.env.globals cl [] Γ.env.qual none .none (some Γ.env)) (fun cenv s₄ =>
      codeAny Γ.M Γ.A (.compStart (.ListComp elt [⟨target, iter, ifs, 0⟩] scope pos) 0 (.ref I) acc { cenv with scope := relabel scope Γ.env }) (RR acc cenv.locals) s₄) E s₃) E s := by
  obtain ⟨fp, n, P, Sp, walk, hst, ⟨oI, hI⟩, newI, le, same, fps, rfl, item, hasI⟩ := X
  have W := walk Γ.A O.hand
  obtain ⟨h₀, tk₀, rfl⟩ := same
  dsimp only at hst hI le
  have T : Γ.S b m own { s₁ with heap := h₀, toks := tk₀ } := T₁.heap le
  have TI : Γ.S b m ((I, oI) :: own) { s₁ with heap := h₀, toks := tk₀ } := T₁.take (s' := { s₁ with heap := h₀, toks := tk₀ }) newI le hI rfl rfl id
  refine wpAny_newObj_type (wpAny_newFunctionEnv hcell (by intro y hy; simp at hy) (fun h₁ hns₁ hsb₁ => ?_) hkind)
  dsimp only at hns₁ hsb₁ ⊢
  generalize hH2 : h₀.push { cls := .type "list", dict := none, data := .seq ([] : List Value).toArray } = H2 at hns₁ hsb₁ ⊢
  have TD : Γ.S b m ((h₀.objs.size, LCg.lst []) :: (I, oI) :: own) { s₁ with heap := H2, toks := tk₀ } := by
    have := TI.pushOwn (o := LCg.lst []) rfl
    rw [← hH2]; exact this
  generalize hD : h₀.objs.size = D at TD ⊢
  have up : Le H2 h₁ := fun a o e => hsb₁.extBut a o (Nat.ne_of_lt (Heap.lt_size e)) (Heap.get?_push_of_some _ e)
  generalize hC : H2.objs.size = C at hns₁ ⊢
  have hCn : H2.get? C = none := hC ▸ get_size H2
  have TC : Γ.S b m ((D, LCg.lst []) :: (I, oI) :: own) { s₁ with heap := h₁, toks := tk₀ } := TD.heap up
  obtain ⟨oL, hoL, nsL⟩ := LCg.ns_obj TC.ns
  -- the block's own frame
  have big : ∃ b₁, Le b b₁ ∧ (Γ.comp scope cl C).S b₁ (fun x => ([] : List (Str × Value)).reverse.lookup x) ((D, LCg.lst []) :: (I, oI) :: (Γ.L, oL) :: own) { s₁ with heap := h₁, toks := tk₀ } := by
    have nC := TD.notin (a := C) hCn
    have nd := TC.nd
    have offN : ∀ a, a ∈ C :: 57 :: ((D, LCg.lst []) :: (I, oI) :: (Γ.L, oL) :: own).map (·.1) → b.get? a = none := fun a q => by
      rcases mem_swap q with rfl | hc
      · cases w : b.get? a with
        | none => rfl
        | some o' => have := TD.keep _ _ w; rw [hCn] at this; cases this
      · exact TC.off a hc
    simp only [List.map_cons, List.mem_cons, not_or, List.nodup_cons] at nC nd
    refine ⟨hideAll h₁ (C :: 57 :: ((D, LCg.lst []) :: (I, oI) :: (Γ.L, oL) :: own).map (·.1)), fun a o e => hideAll_get _ (TC.keep _ _ e) ?_, hns₁, fun a o e => hideAll_get _ (TC.keep _ _ (TC.gr _ _ e)) ?_, fun a o e => of_hideAll _ e, ?_, ?_, fun a ha => hideAll_none _ ha, TC.tab, TC.dr, TC.os, TC.bare⟩
    · intro q
      rw [offN a q] at e; cases e
    · intro q
      have := offN a q
      rw [TC.gr _ _ e] at this; cases this
    · intro q hq
      rcases List.mem_cons.mp hq with rfl | hq
      · exact TC.ow _ (.head _)
      · rcases List.mem_cons.mp hq with rfl | hq
        · exact TC.ow _ (.tail _ (.head _))
        · rcases List.mem_cons.mp hq with rfl | hq
          · exact hoL
          · exact TC.ow _ (.tail _ (.tail _ hq))
    · simp only [List.map_cons, List.mem_cons, not_or, List.nodup_cons]
      refine ⟨⟨nC.2.1, nC.2.2.1, nC.2.2.2.1, nC.1, nC.2.2.2.2⟩, ⟨nd.2.1.1, nd.2.1.2.1, Ne.symm nd.1.1, nd.2.1.2.2⟩, ⟨nd.2.2.1.1, Ne.symm nd.1.2.1, nd.2.2.1.2⟩, ⟨Ne.symm nd.1.2.2.1, nd.2.2.2.1⟩, nd.1.2.2.2, nd.2.2.2.2⟩
  obtain ⟨b₁, leb, TB⟩ := big
  have fpk : ∀ (bb : Heap) (h h' : Heap) (o : Obj) i, Le b₁ bb → Sp i h → h.get? I = some o → h'.get? I = some o → Le bb h' → Le bb h → Sp i h' := fun bb h h' o i lb st e e' k1 k2 => W.frame i h h' st fun a ha oa ea => by
    rcases fps a ha with rfl | ⟨ob, hob⟩
    · rw [e] at ea; cases ea; exact e'
    · have z := lb _ _ (leb _ _ hob)
      have := k2 _ _ z
      rw [this] at ea; cases ea
      exact k1 _ _ z
  have loop : codeAny Γ.M Γ.A (.compLoop (.ListComp elt [⟨target, iter, ifs, 0⟩] scope pos) 0 (.ref I) (.ref D) (compEnvC scope cl C Γ.env)) (RR (.ref D) C) { s₁ with heap := h₁, toks := tk₀ } := by
    refine compLoop_own (fun q s' => ∃ i ys bb mm o, i ≤ as.length ∧ q = as.length + 1 - i ∧ Le b₁ bb ∧ All2 (Kout bb) ys (((as.take i).filter p).map f) ∧ Sp i s'.heap ∧
      (Γ.comp scope cl C).S bb mm ((D, LCg.lst ys) :: (I, o) :: (Γ.L, oL) :: own) s') ?_ (as.length + 1) ⟨0, [], b₁, _, oI, Nat.zero_le _, rfl, Le.refl _, by simpa using .nil, ?_, TB⟩
    · rintro q s' ⟨i, ys, bb, mm, o, hi, rfl, lb, hys, hsp, T'⟩
      by_cases hlt : i < as.length
      · refine W.item i _ _ _ hlt hsp fun v h₂ tk₂ hP hsp₂ hk₂ => ?_
        obtain ⟨a, ha, hv⟩ := item i v hP hlt
        obtain ⟨o₂, ho₂, hok⟩ := hasI _ _ hsp₂
        refine letOwned (s := { s' with heap := h₂, toks := tk₂ }) ho₂ hok ?_
        have T₂ : (Γ.comp scope cl C).S bb mm ((D, LCg.lst ys) :: (I, o₂) :: (Γ.L, oL) :: own) { s' with heap := h₂, toks := tk₂ } := by
          have nI := T'.nd
          have offI := T'.off
          simp only [List.map_cons, List.mem_cons, not_or, List.nodup_cons] at nI
          refine ⟨T'.ns.at' fun o e => hk₂ _ _ (by simpa using nI.1.2.2.1) e, T'.gr, fun a o e => hk₂ _ _ ?_ (T'.keep _ _ e), ?_, T'.nd, T'.off, ?_, T'.dr, T'.os, T'.bare⟩
          · intro q
            rw [List.mem_singleton.mp q, offI I (by simp)] at e; cases e
          · intro q hq
            rcases List.mem_cons.mp hq with rfl | hq
            · exact hk₂ _ _ (by simpa using nI.2.2.1.1) (T'.ow _ (.head _))
            · rcases List.mem_cons.mp hq with rfl | hq
              · exact ho₂
              · refine hk₂ _ _ ?_ (T'.ow _ (.tail _ (.tail _ hq)))
                intro z
                have z' := List.mem_singleton.mp z
                rcases List.mem_cons.mp hq with rfl | hq
                · exact nI.2.2.2.1.1 z'.symm
                · exact nI.2.2.2.1.2 (z' ▸ List.mem_map_of_mem hq)
          · obtain ⟨ps, e, t⟩ := T'.tab
            exact ⟨ps, hk₂ _ _ (by simpa using nI.2.1.2.1) e, t⟩
        refine wpAny_mono (turn C bb _ mm a v _ _ (List.mem_of_getElem? ha) (leb.trans lb) (fun q hq => .tail _ (.tail _ (.tail _ hq))) hv T₂) (fun _ s₂ hs₂ => ?_) fun _ _ e => e
        refine wpAny_mono hs₂ (fun ok s₃ hs₃ => ?_) fun _ _ e => e
        obtain ⟨rfl, hs₃⟩ := hs₃
        have step : ∀ (bb' : Heap) (ys' : List Value) m₂ s₅, Le bb bb' → All2 (Kout bb') ys' (((as.take (i + 1)).filter p).map f) → (Γ.comp scope cl C).S bb' m₂ ((D, LCg.lst ys') :: (I, o₂) :: (Γ.L, oL) :: own) s₅ → 
            ∃ q', q' < as.length + 1 - i ∧ ∃ i' ys bb mm o, i' ≤ as.length ∧ q' = as.length + 1 - i' ∧ Le b₁ bb ∧ All2 (Kout bb) ys (((as.take i').filter p).map f) ∧ Sp i' s₅.heap ∧ (Γ.comp scope cl C).S bb mm ((D, LCg.lst ys) :: (I, o) :: (Γ.L, oL) :: own) s₅ := by
          intro bb' ys' m₂ s₅ lb' hys' T₅
          refine ⟨as.length + 1 - (i + 1), by omega, i + 1, ys', bb', m₂, o₂, hlt, rfl, lb.trans lb', hys', ?_, T₅⟩
          exact fpk bb _ _ o₂ _ lb hsp₂ ho₂ (T₅.ow (I, o₂) (.tail _ (.head _))) (lb'.trans T₅.keep) T₂.keep
        have tk : (as.take (i + 1)) = as.take i ++ [a] := by rw [List.take_add_one, ha]; rfl
        cases hpa : p a with
        | false =>
          rw [hpa] at hs₃
          simp only [Bool.false_eq_true, if_false] at hs₃ ⊢
          obtain ⟨m₂, T₃⟩ := hs₃
          exact step bb ys m₂ s₃ (Le.refl _) (by rw [tk, List.filter_append]; simpa [hpa] using hys) T₃
        | true =>
          rw [hpa] at hs₃
          simp only [if_true] at hs₃ ⊢
          refine wpAny_mono hs₃ (fun y s₄ hs₄ => ?_) fun _ _ e => e
          obtain ⟨b₂, m₂, lb₂, hy, T₄⟩ := hs₄
          have hl : ys.length ≤ sizeLine := by
            rw [hys.length, List.length_map]
            exact Nat.le_trans (List.length_filter_le _ _) (Nat.le_trans (by rw [List.length_take]; exact Nat.min_le_right ..) hlen)
          refine append_at (hsz := by show ys.toArray.size ≤ sizeLine; rw [List.size_toArray]; exact hl) (T₄.ow (D, _) (.head _)) fun h₅ hs₅ hD₅ => ?_
          have T₅ := T₄.upd (l1 := []) (tk := s₄.toks) hs₅ (hD₅.trans (congrArg some (LCg.lst_snoc ys y)))
          refine step b₂ (ys ++ [y]) m₂ _ lb₂ ?_ T₅
          rw [tk, List.filter_append, List.map_append]
          simp only [List.filter_cons, hpa, if_true, List.filter_nil, List.map_cons, List.map_nil]
          exact (hys.mono fun v y h => kmono _ _ v y lb₂ h).snoc hy
      · obtain rfl : i = as.length := Nat.le_antisymm hi (Nat.not_lt.mp hlt)
        refine W.done _ _ _ hsp fun h₂ tk₂ hk₂ => ?_
        rw [List.take_length] at hys
        have nI := T'.nd
        have offI := T'.off
        simp only [List.map_cons, List.mem_cons, not_or, List.nodup_cons] at nI
        have kk : ∀ a o, a ≠ I → s'.heap.get? a = some o → h₂.get? a = some o := fun a o n e => hk₂ _ _ (by simpa using n) e
        refine k D C ys bb mm _ (leb.trans lb) hys ⟨?_, T'.gr, fun a o e => kk _ _ ?_ (T'.keep _ _ e), ?_, ?_, ?_, ?_, T'.dr, T'.os, T'.bare⟩ (T'.ns.at' fun o e => kk _ _ nI.1.2.2.1 e) ?_ (T'.off _ (.head _))
        · exact nsL.ns (kk _ _ (Ne.symm nI.2.2.2.1.1) (T'.ow (Γ.L, oL) (.tail _ (.tail _ (.head _)))))
        · rintro rfl; rw [offI _ (by simp)] at e; cases e
        · intro q hq
          rcases List.mem_cons.mp hq with rfl | hq
          · exact kk _ _ nI.2.2.1.1 (T'.ow _ (.head _))
          · exact kk _ _ (fun z => nI.2.2.2.1.2 (z ▸ List.mem_map_of_mem hq)) (T'.ow _ (.tail _ (.tail _ (.tail _ hq))))
        · simp only [List.map_cons, List.mem_cons, not_or, List.nodup_cons]
          exact ⟨⟨Ne.symm nI.2.1.2.2.1, Ne.symm nI.2.2.1.2.1, nI.2.2.2.2.1⟩, ⟨nI.2.1.1, nI.2.1.2.2.2⟩, nI.2.2.1.2.2, nI.2.2.2.2.2⟩
        · intro a ha
          apply offI
          simp only [List.map_cons, List.mem_cons] at ha ⊢
          rcases ha with rfl | rfl | rfl | ha <;> simp_all
        · obtain ⟨ps, e, t⟩ := T'.tab
          exact ⟨ps, kk _ _ nI.2.1.2.1 e, t⟩
        · simp only [List.map_cons, List.mem_cons, not_or]
          exact ⟨nI.1.2.2.2.1, nI.1.1, nI.1.2.1, nI.1.2.2.2.2⟩
    · refine W.frame 0 _ _ hst fun a ha oa ea => ?_
      exact up _ _ (hH2 ▸ Heap.get?_push_of_some _ ea)
  refine codeAny_compStart_list loop (W.self 0 _ _ _ ?_ loop)
  refine W.frame 0 _ _ hst fun a ha oa ea => ?_
  exact up _ _ (hH2 ▸ Heap.get?_push_of_some _ ea)
end
end Mine
end

section
open PySem PySem.W PySem.Calls PySem.Spec PyProof.Rows
set_option linter.unusedVariables false
namespace Mine

theorem gget {h : Heap} {a : Addr} {o : Obj} (e : h.get? a = some o) (n : a ≠ 57) : (hideAll h [57]).get? a = some o := hideAll_get _ e (by simpa using n)
theorem gle (h : Heap) : Le (hideAll h [57]) h := fun _ _ e => of_hideAll _ e

/-- what a call of the text's own may lean on -/
structure Cs (dn : Dn) (os : OsState) (A : Around) (n : Nat) (s : Shared) : Prop where
  tab : Tab s.heap
  bare : AllBare s.gens
  dr : s.drawn = dn.1 ∧ dn.2 = s.gens.size
  os : s.os = os
  hand : A.handled = none
  depth : A.depth + 21 + n < recursionLimit
  units : A.units + 103 + 4 * n < cLine
theorem Cs.mono {dr : Dn} {os : OsState} {A : Around} {n k : Nat} {s : Shared} (C : Cs dr os A n s) (h : k ≤ n) : Cs dr os A k s :=
  ⟨C.tab, C.bare, C.dr, C.os, C.hand, by have := C.depth; omega, by have := C.units; omega⟩

theorem enter {prog : Program} {w : World} {A : Around} {s : Shared} {f : Addr} {o : Obj} {fd : FuncData} {body : List Stmt} {vals : List Value} {binds : List (Str × Value)} {dr : Dn} {os : OsState} {n : Nat} {Q : Value → Shared → Prop} {E : Value → Shared → Prop}
    (C : Cs dr os A n s) (ho : s.heap.get? f = some o) (hd : o.data = .func fd) (hcd : s.heap.CodeRec fd.code fd.qualname) (hlim : s.heap.NoLimit) (hbody : fd.body = .stmts body) (hbind : bindArgs fd ⟨vals, []⟩ = pure binds) (hclo : fd.closure = [])
    (hkind : (binds.all fun y => fd.scope.names.lookup y.1 == some .local || fd.scope.names.lookup y.1 == some .cell) = true) (hg : fd.globals = mainGlobals) (hb : fd.builtins = builtinsNs)
    (hk : fd.scope.kind = .function) (hco : fd.scope.isCoroutine = false) (hgen : fd.scope.isGenerator = false)
    (k : ∀ (L : Addr) (b : Heap) (s₁ : Shared) (Γ : Fx prog), Γ.w = w → Γ.env = callEnvC fd L f → Γ.L = L → Γ.g = hideAll s.heap [57] → Γ.dr = dr → Γ.os = os → Γ.A = A.deeper (callEnvC fd L f) → Γ.Ok → L = s.heap.objs.size →
      Γ.S b (bindL (callEnvC fd L f).kindOf binds fun _ => none) [] s₁ → (∀ x c, (callEnvC fd L f).cells.lookup x = some c → ∃ o, b.get? c = some o ∧ o.data = .cell (bindC (callEnvC fd L f).kindOf binds (fun _ => none) x)) →
      (∀ x c, (callEnvC fd L f).cells.lookup x = some c → s.heap.get? c = none) →
      wpAny Γ.M Γ.A (execs body Γ.env) (fun fl s' => Q (match fl with | .ret v => v | _ => .none) s') (fun _ _ => False) s₁) :
    wpAny (model prog w) A (call (.ref f) vals) Q E s := by
  refine wpAny_call (codeAny_call_cells (by have := C.depth; omega) ho hd hlim hcd hbody hbind hclo ?_ ?_ hco hgen hk)
  · exact kindsX hkind _
  · intro s₁ x
    obtain ⟨h₁, tk, rfl⟩ := x.toInCall.same
    have L0 : (callEnvC fd s.heap.objs.size f).locals = s.heap.objs.size := rfl
    rw [L0] at x
    have keep := x.toInCall.keep
    have ns := x.toInCall.ns
    obtain ⟨ps, et, tt⟩ := C.tab
    have l57 : 57 < s.heap.objs.size := Heap.lt_size et
    have n57 : s.heap.objs.size ≠ 57 := Nat.ne_of_gt l57
    have S : St (hideAll s.heap [57]) (hideAll h₁ [s.heap.objs.size, 57]) s.heap.objs.size (bindL (callEnvC fd s.heap.objs.size f).kindOf binds fun _ => none) [] dr os { s with heap := h₁, toks := tk } := by
      refine ⟨ns, fun a o e => ?_, fun a o e => of_hideAll _ e, fun p hp => (nomatch hp), by simp [n57], fun a ha => hideAll_none _ (by simpa using ha), ⟨ps, keep _ _ et, tt⟩, C.dr.1, C.os, ⟨C.bare, Nat.le_of_eq C.dr.2⟩⟩
      have e' := of_hideAll _ e
      refine hideAll_get _ (keep _ _ e') ?_
      simp only [List.mem_cons, List.not_mem_nil, or_false, not_or]
      refine ⟨fun q => (by rw [q, get_size] at e'; cases e'), fun q => ?_⟩
      rw [q, hideAll_none _ (by simp)] at e; cases e
    have cellN : ∀ x c, (callEnvC fd s.heap.objs.size f).cells.lookup x = some c → s.heap.objs.size < c := fun y c hc => x.above y c (mem_of_lookup hc)
    have := k s.heap.objs.size _ _ ⟨w, A.deeper (callEnvC fd s.heap.objs.size f), callEnvC fd s.heap.objs.size f, hideAll s.heap [57], s.heap.objs.size, dr, os⟩ rfl rfl rfl rfl rfl rfl rfl
      ⟨hk, rfl, hg, hb, C.hand, by show A.depth + 1 + 20 < _; have := C.depth; omega, by show A.units + 3 + 100 < _; have := C.units; omega⟩ rfl S ?_ ?_
    · exact wpAny_mono this (fun _ _ y => y) fun _ _ y => y.elim
    · intro y c hc
      obtain ⟨oc, e1, e2⟩ := x.cell y c hc
      refine ⟨oc, hideAll_get _ e1 ?_, e2⟩
      simp only [List.mem_cons, List.not_mem_nil, or_false, not_or]
      exact ⟨Nat.ne_of_gt (cellN y c hc), Nat.ne_of_gt (Nat.lt_trans l57 (cellN y c hc))⟩
    · intro y c hc
      cases q : s.heap.get? c with
      | none => rfl
      | some o => exact absurd (Heap.lt_size q) (Nat.not_lt.mpr (Nat.le_of_lt (cellN y c hc)))

section
variable {prog : Program} {Γ : Fx prog} {b : Heap} {m : Str → Option Value} {own : List (Addr × Obj)}

/-- where a def's frame calls on -/
theorem St.cs {n : Nat} {s : Shared} (O : Γ.Ok) (T : Γ.S b m own s) (hd : Γ.A.depth + 21 + n < recursionLimit) (hu : Γ.A.units + 103 + 4 * n < cLine) : Cs (Γ.dr.1, s.gens.size) Γ.os Γ.A n s :=
  ⟨T.tab, T.bare.1, ⟨T.dr, rfl⟩, T.os, O.hand, hd, hu⟩

/-- Statements: nothing is raised. -/
def Xs (Γ : Fx prog) (b : Heap) (m : Str → Option Value) (own : List (Addr × Obj)) (st : List Stmt) (Q : Flow → Shared → Prop) : Prop :=
  ∀ s E, Γ.S b m own s → wpAny Γ.M Γ.A (execs st Γ.env) Q E s
theorem Xs.nil {Q : Flow → Shared → Prop} (h : ∀ s, Γ.S b m own s → Q .next s) : Xs Γ b m own [] Q := fun s _ T => wpAny_execs_nil (h s T)
theorem Xs.ret {e : Expr} {pos} {rest} {P : Heap → Value → Prop} {Q : Flow → Shared → Prop} (he : Ei Γ b m own e P) (h : ∀ b' v s', Le b b' → P b' v → Γ.S b' m own s' → Q (.ret v) s') :
    Xs Γ b m own (.Return (some e) pos :: rest) Q := fun s _ T => wpAny_execs_cons (wpAny_Return_some (he.use T fun v s' b' l p T' => h b' v s' l p T'))
theorem stores (O : Γ.Ok) {x : Str} {v : Value} {s : Shared} {E : Value → Shared → Prop} {Q : Unit → Shared → Prop} (T : Γ.S b m own s) (hx : Γ.env.kindOf x = some .local) (k : ∀ s', Γ.S b (upd m x v) own s' → Q () s') :
    wpAny Γ.M Γ.A (storeName Γ.env x v) Q E s :=
  wpAny_storeName_local hx (by rw [O.loc]; exact T.ns) (fun h' hn hs => k _ (T.store (by rw [O.loc] at hn; exact hn) (by rw [O.loc] at hs; exact hs))) (by rw [O.kind]; rfl)
theorem Xs.asg (O : Γ.Ok) {x : Str} {e : Expr} {p pos} {rest} {P : Heap → Value → Prop} {Q : Flow → Shared → Prop} (he : Ei Γ b m own e P) (hx : Γ.env.kindOf x = some .local) (hs : swapsWith e (some (.Name x p)) pos.line Γ.env = pure false)
    (h : ∀ b' v, Le b b' → P b' v → Xs Γ b' (upd m x v) own rest Q) : Xs Γ b m own (.Assign [.Name x p] e pos :: rest) Q :=
  fun s E T => wpAny_execs_cons (wpAny_Assign_Name (he.use T fun v s' b' l hp T' => stores O T' hx fun s'' T'' => h b' v l hp s'' E T'') hs)

/-- a call that makes nothing, and one that makes what stays -/
def Cal (Γ : Fx prog) (b : Heap) (m : Str → Option Value) (own : List (Addr × Obj)) (f : Value) (vs : List Value) (P : Heap → Value → Prop) : Prop :=
  ∀ s E, Γ.S b m own s → wpAny Γ.M Γ.A (call f vs) (fun v s' => ∃ b', Le b b' ∧ P b' v ∧ Γ.S b' m own s') E s
/-- arguments, in order -/
def Args (Γ : Fx prog) (b : Heap) (m : Str → Option Value) (own : List (Addr × Obj)) (es : List Expr) (P : Heap → List Value → Prop) : Prop :=
  ∀ s E pos, Γ.S b m own s → wpAny Γ.M Γ.A (spliced (backTo pos (starEach es Γ.env))) (fun vs s' => ∃ b', Le b b' ∧ P b' vs ∧ Γ.S b' m own s') E s
theorem Args.nil : Args Γ b m own [] (fun b' vs => b' = b ∧ vs = []) := fun s E pos T => spliced_none ⟨b, Le.refl _, ⟨rfl, rfl⟩, T⟩
theorem Args.cons {e : Expr} {es : List Expr} {P : Heap → Value → Prop} {R : Heap → List Value → Prop} (he : Ei Γ b m own e P) (k : ∀ b' v, Le b b' → P b' v → Args Γ b' m own es (fun b'' vs => R b'' (v :: vs)))
    (hs : starEach (e :: es) Γ.env = (false, eval e Γ.env) :: starEach es Γ.env := by rfl) : Args Γ b m own (e :: es) R :=
  fun s E pos T => spliced_more (he.use T fun v s' b' l hp T' => wpAny_mono (k b' v l hp s' E pos T') (fun vs s'' ⟨b'', l', r, T''⟩ => ⟨b'', l.trans l', r, T''⟩) fun _ _ x => x) hs
theorem Args.mono {es : List Expr} {P R : Heap → List Value → Prop} (h : Args Γ b m own es P) (k : ∀ b' vs, Le b b' → P b' vs → R b' vs) : Args Γ b m own es R :=
  fun s E pos T => wpAny_mono (h s E pos T) (fun vs s' ⟨b', l, p, T'⟩ => ⟨b', l, k b' vs l p, T'⟩) fun _ _ x => x
/-- a call: of a builtin, a type, a def -/
inductive Callee (b : Heap) : Value → Prop
  | bui (id : String) : Callee b (.builtin id)
  | typ (T : String) : Callee b (.type T)
  | dfn (f : Addr) (o : Obj) (fd : FuncData) : b.get? f = some o → o.data = .func fd → Callee b (.ref f)
theorem Ei.ofCall {fn : Expr} {f : Value} {e : Expr} {es : List Expr} {pos} {P R : Heap → Value → Prop} {PA : Heap → List Value → Prop} (hf : Ev Γ b m own fn (IsV f)) (hc : Callee b f) (ha : Args Γ b m own (e :: es) PA)
    (k : ∀ b' vs, Le b b' → PA b' vs → Cal Γ b' m own f vs R) (he : eval (.Call fn (e :: es) [] pos) Γ.env = (do callWith pos (← eval fn Γ.env) [] (backTo pos (starEach (e :: es) Γ.env)) (backToKw pos (keywordEach [] Γ.env))) := by rfl)
    (hs : starEach (e :: es) Γ.env = (false, eval e Γ.env) :: starEach es Γ.env := by rfl) (hpl : (backTo pos (starEach es Γ.env)).any (·.1) = false := by rfl) : Ei Γ b m own (.Call fn (e :: es) [] pos) R := by
  intro s E T
  refine Call_ (hf.use T fun v s₁ hv T₁ => ?_) he
  obtain rfl : v = f := hv
  have body : ∀ vs s₂ b', Le b b' → PA b' vs → Γ.S b' m own s₂ → wpAny Γ.M Γ.A (call v vs) (fun v s' => ∃ b', Le b b' ∧ R b' v ∧ Γ.S b' m own s') E s₂ := fun vs s₂ b' l p T₂ =>
    wpAny_mono (k b' vs l p s₂ E T₂) (fun v s' ⟨b'', l', r, T'⟩ => ⟨b'', l.trans l', r, T'⟩) fun _ _ x => x
  cases hc with
  | bui id => exact callWith_builtin1 (wpAny_mono (ha s₁ E pos T₁) (fun vs s₂ ⟨b', l, p, T₂⟩ => body vs s₂ b' l p T₂) fun _ _ x => x) hs hpl
  | typ X => exact callWith_type1 (wpAny_mono (ha s₁ E pos T₁) (fun vs s₂ ⟨b', l, p, T₂⟩ => body vs s₂ b' l p T₂) fun _ _ x => x) hs hpl
  | dfn a o fd ho hd => exact callWith_def hd (wpAny_mono (ha s₁ E pos T₁) (fun vs s₂ ⟨b', l, p, T₂⟩ => ⟨T₂.keep _ _ (l _ _ ho), body vs s₂ b' l p T₂⟩) fun _ _ x => x) hs
end
end Mine
end

section
open PySem PySem.W PySem.Calls PySem.Spec PyProof.Rows
set_option linter.unusedVariables false
namespace Mine
section
variable {prog : Program} {Γ : Fx prog} {b : Heap} {m : Str → Option Value} {own : List (Addr × Obj)}

/-- a call that makes no object that stays -/
def Cev (Γ : Fx prog) (b : Heap) (m : Str → Option Value) (own : List (Addr × Obj)) (f : Value) (vs : List Value) (P : Value → Prop) : Prop :=
  ∀ s E, Γ.S b m own s → wpAny Γ.M Γ.A (call f vs) (fun v s' => P v ∧ Γ.S b m own s') E s
theorem Ev.of {e : Expr} {P : Value → Prop} (h : ∀ s E, Γ.S b m own s → wpAny Γ.M Γ.A (eval e Γ.env) (fun v s' => P v ∧ Γ.S b m own s') E s) : Ev Γ b m own e P := h
theorem callTail {f : Value} {e : Expr} {es : List Expr} {pos : Pos} {s₁ : Shared} {E : Value → Shared → Prop} {Q : Value → Shared → Prop} (hc : Callee b f) (T₁ : Γ.S b m own s₁)
    (h : wpAny Γ.M Γ.A (spliced (backTo pos (starEach (e :: es) Γ.env))) (fun vs s₂ => (∃ b', Le b b' ∧ Γ.S b' m own s₂) ∧ wpAny Γ.M Γ.A (call f vs) Q E s₂) E s₁)
    (hs : starEach (e :: es) Γ.env = (false, eval e Γ.env) :: starEach es Γ.env := by rfl) (hpl : (backTo pos (starEach es Γ.env)).any (·.1) = false := by rfl) :
    wpAny Γ.M Γ.A (callWith pos f [] (backTo pos (starEach (e :: es) Γ.env)) []) Q E s₁ := by
  cases hc with
  | bui id => exact callWith_builtin1 (wpAny_mono h (fun vs s₂ x => x.2) fun _ _ x => x) hs hpl
  | typ X => exact callWith_type1 (wpAny_mono h (fun vs s₂ x => x.2) fun _ _ x => x) hs hpl
  | dfn a o fd ho hd => exact callWith_def hd (wpAny_mono h (fun vs s₂ x => let ⟨b', l, T₂⟩ := x.1; ⟨T₂.keep _ _ (l _ _ ho), x.2⟩) fun _ _ x => x) hs
theorem Ev.call1 {fn : Expr} {f : Value} {e : Expr} {pos} {P R : Value → Prop} (hf : Ev Γ b m own fn (IsV f)) (hc : Callee b f) (h1 : Ev Γ b m own e P) (k : ∀ x, P x → Cev Γ b m own f [x] R)
    (he : eval (.Call fn [e] [] pos) Γ.env = (do callWith pos (← eval fn Γ.env) [] (backTo pos (starEach [e] Γ.env)) (backToKw pos (keywordEach [] Γ.env))) := by rfl)
    (hs : starEach [e] Γ.env = (false, eval e Γ.env) :: starEach [] Γ.env := by rfl) : Ev Γ b m own (.Call fn [e] [] pos) R := by
  intro s E T
  refine Call_ (hf.use T fun v s₁ hv T₁ => ?_) he
  obtain rfl : v = f := hv
  exact callTail hc T₁ (spliced_more (h1.use T₁ fun x s₂ hx T₂ => spliced_none ⟨⟨b, Le.refl _, T₂⟩, k x hx s₂ E T₂⟩) hs) hs rfl

theorem cev_lenS {x : Str} (hx : x.length < 2 ^ 62) {v : Value} (hv : IsS x v) : Cev Γ b m own (.builtin "len") [v] (IsI x.length) := by
  obtain ⟨t, rfl⟩ := hv
  intro s E T
  exact SBL.len (by omega) ⟨⟨_, rfl⟩, T.toks⟩
theorem cev_lenL {a : Addr} {vs : Array Value} (hl : b.IsList a vs) (hx : vs.size < 2 ^ 62) : Cev Γ b m own (.builtin "len") [.ref a] (IsI vs.size) := by
  intro s E T
  refine len_list (let ⟨o, e, r⟩ := hl; ⟨o, T.keep _ _ e, r⟩) (by omega) ⟨⟨_, rfl⟩, T.toks⟩

theorem Ev.itemS {value slice : Expr} {pos} {x : Str} {i : Int} {c : Nat} (hv : Ev Γ b m own value (IsS x)) (hi : Ev Γ b m own slice (IsI i)) (h0 : 0 ≤ i) (hc : x.cps[i.toNat]? = some c) (hl : x.length < 2 ^ 62)
    (hs : ∀ t u, subscripted slice false (.str x t) (.int i u) = operate [.str x t, .int i u] (getItem (.str x t) (.int i u))) (ht : ∀ t r, letTemporaryGo value (.str x t) r = pure ()) : Ev Γ b m own (.Subscript value slice pos) (IsS ⟨#[c]⟩) := by
  intro s E T
  refine Subscript_ (hv.use T fun v s₁ hv T₁ => hi.use T₁ fun j s₂ hj T₂ => ?_)
  obtain ⟨t, rfl⟩ := hv
  obtain ⟨u, rfl⟩ := hj
  have hlt : i < x.length := by
    have := (Array.getElem?_eq_some_iff.mp hc).1
    have e : x.length = x.cps.size := rfl
    omega
  refine item_str (fitsSsize_of (N := 9223372036854775808) (by omega) (by omega) (Int.le_refl _)) (by omega) hlt (fun _ => ?_) (hs t u) (ht t)
  rw [item_meets h0 hc]
  exact ⟨⟨_, rfl⟩, T₂.toks⟩
theorem Ev.itemL {value slice : Expr} {pos} {a : Addr} {vs : Array Value} {i : Int} {x : Value} (hl : b.IsList a vs) (hv : Ev Γ b m own value (IsV (.ref a))) (hi : Ev Γ b m own slice (IsI i)) (h0 : 0 ≤ i) (hlt : i < 2 ^ 63) (hx : vs[i.toNat]? = some x)
    (hs : ∀ u, subscripted slice false (.ref a) (.int i u) = operate [.ref a, .int i u] (getItem (.ref a) (.int i u))) (ht : ∀ r, letTemporaryGo value (.ref a) r = pure ()) : Ev Γ b m own (.Subscript value slice pos) (IsV x) := by
  intro s E T
  refine Subscript_ (hv.use T fun v s₁ hv T₁ => hi.use T₁ fun j s₂ hj T₂ => ?_)
  obtain rfl : v = .ref a := hv
  obtain ⟨u, rfl⟩ := hj
  exact item_list (let ⟨o, e, r⟩ := hl; ⟨o, T₂.keep _ _ e, r⟩) h0 (by omega) hx ⟨rfl, T₂⟩ (hs u) ht

/-- what a loop takes -/
def Iter (Γ : Fx prog) (b : Heap) (m : Str → Option Value) (own : List (Addr × Obj)) (iter : Expr) {α : Type} (as : List α) (Kin : Value → α → Prop) : Prop :=
  ∀ s E, Γ.S b m own s → wpAny Γ.M Γ.A (eval iter Γ.env) (fun xv s₁ => Γ.S b m own s₁ ∧ wpAny Γ.M Γ.A (pyIter xv) (fun it s₂ => ∃ I, it = .ref I ∧ Nonempty (Src Γ b s₁ I s₂ as Kin)) E s₁) E s
theorem iter_list {α : Type} {iter : Expr} {as : List α} {Kin : Value → α → Prop} {ax : Addr} {vs : List Value} (hl : b.IsList ax vs.toArray) (hk : All2 Kin vs as) (he : Ev Γ b m own iter (IsV (.ref ax))) : Iter Γ b m own iter as Kin := by
  intro s E T
  refine he.use T fun v s₁ hv T₁ => ⟨T₁, ?_⟩
  obtain rfl : v = .ref ax := hv
  have hl₁ : s₁.heap.IsList ax vs.toArray := let ⟨o, e, r⟩ := hl; ⟨o, T₁.keep _ _ e, r⟩
  have hlt : ax < s₁.heap.objs.size := by obtain ⟨_, e, _⟩ := hl₁; exact Heap.lt_size e
  refine wpAny_pyIter_list hl₁ ⟨_, rfl, ⟨?_⟩⟩
  exact { fp := [s₁.heap.objs.size, ax], n := vs.toArray.size, P := fun i v => vs.toArray[i]? = some v, Sp := fun i h => h.IsListIter s₁.heap.objs.size ax i ∧ h.IsList ax vs.toArray,
          walk := fun A hh => Walks.list hh s₁.heap.objs.size ax (Nat.ne_of_lt hlt) vs.toArray,
          st := ⟨⟨_, Heap.get?_push_size _ rfl, rfl, rfl⟩, hl₁.push _⟩, has := ⟨_, Heap.get?_push_size _ rfl⟩, new := get_size _, le := Le.push _ _, same := ⟨_, _, rfl⟩,
          fps := fun a ha => by
            rcases List.mem_cons.mp ha with rfl | ha
            · exact .inl rfl
            · rw [List.mem_singleton.mp ha]; obtain ⟨o, e, _⟩ := hl; exact .inr ⟨o, e⟩
          len := by rw [List.size_toArray, hk.length], item := fun i v hv _ => by
            obtain ⟨y, hy, r⟩ := hk.getL (i := i) (by simpa using hv)
            exact ⟨y, hy, r⟩
          hasI := fun i h st => let ⟨o, e, hc, _⟩ := st.1; ⟨o, e, _, hc, by decide⟩ }

def rangeL (a c : Int) (n : Nat) : List Int := (List.range n).map fun (i : Nat) => a + (i : Int) * c
theorem iter_range {iter : Expr} {a b' c : Int} {n : Nat} (he : ∀ s E, Γ.S b m own s → wpAny Γ.M Γ.A (eval iter Γ.env) (fun xv s₁ => Γ.S b m own s₁ ∧ ∃ r t u v, xv = .ref r ∧ IsRange s₁.heap r a b' c t u v) E s)
    (hsm : Builtin.Range.small a b' c = true) (hn : Builtin.Range.rangeSize a b' c = (n : Int)) : Iter Γ b m own iter (rangeL a c n) (fun v k => IsI k v) := by
  intro s E T
  refine wpAny_mono (he s E T) (fun xv s₁ hx => ?_) fun _ _ x => x
  obtain ⟨T₁, r, t, u, v, rfl, hr⟩ := hx
  refine ⟨T₁, wpAny_pyIter_range hr hsm ⟨_, rfl, ⟨?_⟩⟩⟩
  exact { fp := [s₁.heap.objs.size], n := n, P := fun i v => ∃ t, v = .int (a + i * c) t, Sp := fun i h => IsRangeIter h s₁.heap.objs.size (a + (i : Nat) * c) ((n : Int) - (i : Nat)) c,
          walk := fun A hh => Walks.range hh _ a c n,
          st := by show IsRangeIter _ _ _ _ _; rw [hn]; simpa using Heap.get?_push_size _ rfl
          has := ⟨_, Heap.get?_push_size _ rfl⟩, new := get_size _, le := Le.push _ _, same := ⟨_, _, rfl⟩,
          fps := fun a ha => .inl (List.mem_singleton.mp ha)
          len := by simp [rangeL]
          item := fun i v hv hi => ⟨a + i * c, by simp [rangeL, hi], hv⟩
          hasI := fun i h st => ⟨_, st, _, rfl, by decide⟩ }

theorem newD {b₂ : Heap} {D : Addr} {o : Obj} {s : Shared} (l : Le b b₂) (T : Γ.S b₂ m ((D, o) :: own) s) : b.get? D = none ∧ D ≠ 57 := by
  have h1 := T.off D (by simp)
  have h2 := T.nd
  simp only [List.map_cons, List.nodup_cons, List.mem_cons, not_or] at h2
  refine ⟨?_, Ne.symm h2.2.1.1⟩
  cases q : b.get? D with
  | none => rfl
  | some o => rw [l _ _ q] at h1; cases h1
theorem Ei.comp {α β : Type} (O : Γ.Ok) {elt target iter : Expr} {ifs : List Expr} {scope : Scope} {cl : List (Str × Addr)} {pos : Pos} {as : List α} (p : α → Bool) (f : α → β) (Kin : Value → α → Prop) (Kout : Heap → Value → β → Prop)
    (hi : Iter Γ b m own iter as Kin) (turn : CTurn Γ b own elt target ifs scope cl as p f Kin Kout) (hclos : closureFor scope Γ.env = pure cl)
    (kmono : ∀ b b' v y, Le b b' → Kout b v y → Kout b' v y) (hcell : ∀ y ∈ scope.names, y.2 ≠ .cell) (hkind : scope.kind = .function) (hlen : as.length ≤ sizeLine)
    (hnames : ∀ y ∈ scope.names, y.2 = .local → scope.names.lookup y.1 = some .local) (hs : ∀ x, foldedSetIterable iter Γ.env x = pure x) :
    Ei Γ b m own (.ListComp elt [⟨target, iter, ifs, 0⟩] scope pos) (fun b' r => ∃ D ys, r = .ref D ∧ b.get? D = none ∧ D ≠ 57 ∧ b'.get? D = some (LCg.lst ys) ∧ All2 (Kout b') ys ((as.filter p).map f)) := by
  intro s E T
  rw [eval_ListComp]
  refine wpAny_comprehension_free (use := none) rfl hs hclos hkind hnames (wpAny_mono (hi s E T) (fun xv s₁ h₁ => ?_) fun _ _ e => e)
  obtain ⟨T₁, h₁⟩ := h₁
  refine wpAny_mono h₁ (fun it s₂ h₂ => ?_) fun _ _ e => e
  obtain ⟨I, rfl, ⟨X⟩⟩ := h₂
  refine comp_core O as p f Kin Kout kmono hcell hkind hlen turn T₁ X ?_
  intro D C ys b₂ m' s' lb hys T' hn hC hbC
  refine ⟨m', hn, fun h' hs' => ?_⟩
  obtain ⟨b₃, l₃, e₃, T₃⟩ := (T'.offSame (tk := s'.toks) hs' hC hbC).freeze
  obtain ⟨n1, n2⟩ := newD lb T'
  exact ⟨b₃, lb.trans l₃, ⟨D, ys, rfl, n1, n2, e₃, hys.mono fun v y h => kmono _ _ v y l₃ h⟩, T₃⟩

theorem Xs.asgComp {α β : Type} (O : Γ.Ok) {elt target iter : Expr} {ifs : List Expr} {scope : Scope} {cl : List (Str × Addr)} {pos spos : Pos} {y : Str} {py : Pos} {rest : List Stmt} {as : List α} (p : α → Bool) (f : α → β) (Kin : Value → α → Prop) (Kout : Heap → Value → β → Prop)
    {Q : Flow → Shared → Prop}
    (hi : Iter Γ b m own iter as Kin) (turn : CTurn Γ b own elt target ifs scope cl as p f Kin Kout) (hy : Γ.env.kindOf y = some .local) (hsw : swapsWith (.ListComp elt [⟨target, iter, ifs, 0⟩] scope pos) (some (.Name y py)) spos.line Γ.env = pure true) (hclos : closureFor scope Γ.env = pure cl)
    (kmono : ∀ b b' v y, Le b b' → Kout b v y → Kout b' v y) (hcell : ∀ y ∈ scope.names, y.2 ≠ .cell) (hkind : scope.kind = .function) (hlen : as.length ≤ sizeLine)
    (hnames : ∀ y ∈ scope.names, y.2 = .local → scope.names.lookup y.1 = some .local) (hs : ∀ x, foldedSetIterable iter Γ.env x = pure x)
    (k : ∀ b' D ys, Le b b' → b.get? D = none → D ≠ 57 → b'.get? D = some (LCg.lst ys) → All2 (Kout b') ys ((as.filter p).map f) → Xs Γ b' (upd m y (.ref D)) own rest Q) :
    Xs Γ b m own (.Assign [.Name y py] (.ListComp elt [⟨target, iter, ifs, 0⟩] scope pos) spos :: rest) Q := by
  intro s E T
  refine wpAny_execs_cons ?_
  rw [exec_Assign_Name_used _ _ _ _ hsw]
  refine wpAny_bind (wpAny_standAt (wpAny_bind ?_))
  show wpAny _ Γ.A (do let _ ← comprehension (.ListComp elt [⟨target, iter, ifs, 0⟩] scope pos) scope Γ.env _ (newList []) false (eval iter Γ.env) (some (assign (.Name y py) Γ.env))) _ _ s
  refine wpAny_bind (wpAny_mono (wpAny_comprehension_free (use := some (assign (.Name y py) Γ.env)) (Q := fun _ s' => wpAny Γ.M Γ.A (execs rest Γ.env) Q E s') rfl hs hclos hkind hnames
    (wpAny_mono (hi s E T) (fun xv s₁ h₁ => ?_) fun _ _ e => e)) (fun _ s' hq => wpAny_pure (wpAny_pure hq)) fun _ _ e => e)
  obtain ⟨T₁, h₁⟩ := h₁
  refine wpAny_mono h₁ (fun it s₂ h₂ => ?_) fun _ _ e => e
  obtain ⟨I, rfl, ⟨X⟩⟩ := h₂
  refine comp_core O as p f Kin Kout kmono hcell hkind hlen turn T₁ X ?_
  intro D C ys b₂ m' s' lb hys T' hn hC hbC
  show wpAny _ Γ.A (assign (.Name y py) Γ.env (.ref D)) _ _ _
  refine wpAny_assign_Name (wpAny_storeName_local hy (by rw [O.loc]; exact T'.ns) (fun h₂ hn₂ hs₂ => ?_) (by rw [O.kind]; rfl))
  rw [O.loc] at hn₂ hs₂
  have T₂ := T'.store (tk := s'.toks + 1) hn₂ hs₂
  have hCL : C ≠ Γ.L := fun q => hC (by rw [q]; exact .head _)
  refine ⟨m', hn.sameBut hs₂ hCL, fun h' hs' => ?_⟩
  obtain ⟨b₃, l₃, e₃, T₃⟩ := (T₂.offSame (tk := s'.toks + 1) hs' hC hbC).freeze
  obtain ⟨n1, n2⟩ := newD lb T'
  exact k b₃ D ys (lb.trans l₃) n1 n2 e₃ (hys.mono fun v y h => kmono _ _ v y l₃ h) _ E T₃

theorem CTurn.name1 {α β : Type} (O : Γ.Ok) {elt : Expr} {x : Str} {px : Pos} {test : Expr} {scope : Scope} {cl : List (Str × Addr)} {as : List α} {p : α → Bool} {f : α → β} {Kin : Value → α → Prop} {Kout : Heap → Value → β → Prop} (hk : scope.kind = .function) (hx : scope.names.lookup x = some .local)
    (h : ∀ C b₁ own₁ m₁ a v, a ∈ as → Le b b₁ → (∀ q ∈ own, q ∈ own₁) → Kin v a → m₁ x = some v → (Γ.comp scope cl C).Ok → Tv (Γ.comp scope cl C) b₁ m₁ own₁ test (p a) ∧ (p a = true → Ei (Γ.comp scope cl C) b₁ m₁ own₁ elt (fun b₂ y => Kout b₂ y (f a)))) :
    CTurn Γ b own elt (.Name x px) [test] scope cl as p f Kin Kout := by
  intro C b₁ own₁ m₁ a v s E ha lb ho hv T
  have O' : (Γ.comp scope cl C).Ok := O.comp hk
  refine wpAny_assign_Name (stores O' T (lookup_relabel_local hx) fun s' T' => wpAny_tests_one ?_)
  obtain ⟨h1, h2⟩ := h C b₁ own₁ (upd m₁ x v) a v ha lb ho hv (by simp [upd]) O'
  refine Tv.use (Γ := Γ.comp scope cl C) h1 T' fun s₃ T₃ => ⟨rfl, ?_⟩
  cases hp : p a with
  | false => rw [if_neg Bool.false_ne_true]; exact ⟨_, T₃⟩
  | true =>
    rw [if_pos rfl]
    exact Ei.use (Γ := Γ.comp scope cl C) (h2 hp) T₃ fun y s₄ b₂ l₂ hy T₄ => ⟨b₂, _, l₂, hy, T₄⟩
theorem CTurn.name0 {α β : Type} (O : Γ.Ok) {elt : Expr} {x : Str} {px : Pos} {scope : Scope} {cl : List (Str × Addr)} {as : List α} {f : α → β} {Kin : Value → α → Prop} {Kout : Heap → Value → β → Prop} (hk : scope.kind = .function) (hx : scope.names.lookup x = some .local)
    (h : ∀ C b₁ own₁ m₁ a v, a ∈ as → Le b b₁ → (∀ q ∈ own, q ∈ own₁) → Kin v a → m₁ x = some v → (Γ.comp scope cl C).Ok → Ei (Γ.comp scope cl C) b₁ m₁ own₁ elt (fun b₂ y => Kout b₂ y (f a))) :
    CTurn Γ b own elt (.Name x px) [] scope cl as (fun _ => true) f Kin Kout := by
  intro C b₁ own₁ m₁ a v s E ha lb ho hv T
  have O' : (Γ.comp scope cl C).Ok := O.comp hk
  refine wpAny_assign_Name (stores O' T (lookup_relabel_local hx) fun s' T' => wpAny_tests_nil ⟨rfl, ?_⟩)
  rw [if_pos rfl]
  exact Ei.use (Γ := Γ.comp scope cl C) (h C b₁ own₁ (upd m₁ x v) a v ha lb ho hv (by simp [upd]) O') T' fun y s₄ b₂ l₂ hy T₄ => ⟨b₂, _, l₂, hy, T₄⟩
theorem Tw.and1 {x : Expr} {pos} {c : Bool} (h : Tv Γ b m own x c) : Tw Γ b m own (.BoolOp .And [x] pos) c := by
  cases c with
  | false => exact Tw.andF h
  | true => exact Tw.andT h Tw.andN
theorem fxLeave {s s' : Shared} (T : Γ.S b m own s') (hd : s.drawn = Γ.dr.1 ∧ Γ.dr.2 = s.gens.size) (ho : s.os = Γ.os) (e : Γ.g = hideAll s.heap [57]) : Pur s s' := by
  have T' : St (hideAll s.heap [57]) b Γ.L m own Γ.dr Γ.os s' := e ▸ T
  exact T'.leave hd ho
theorem freshIn {s : Shared} {D : Addr} (e : Γ.g = hideAll s.heap [57]) (S : ∃ m own s', Γ.S b m own s') (h : b.get? D = none) (n : D ≠ 57) : s.heap.get? D = none := by
  obtain ⟨_, _, _, S⟩ := S
  cases q : s.heap.get? D with
  | none => rfl
  | some o => rw [S.gr _ _ (e ▸ gget q n)] at h; cases h
end
end Mine
end

section
open PySem PySem.W PySem.Calls PySem.Spec PyProof.Rows
set_option linter.unusedVariables false
namespace Mine

theorem ints_of {vs : List Value} {ns : List Int} (h : All2 (fun v k => IsI k v) vs ns) : IntsAre vs ns := by
  induction h with
  | nil => exact .nil
  | cons h _ ih => obtain ⟨t, rfl⟩ := h; exact .cons _ t ih
theorem strs_of {vs : List Value} {xs : List Str} (h : All2 (fun v k => IsS k v) vs xs) : StrsAre vs xs := by
  induction h with
  | nil => exact .nil
  | cons h _ ih => obtain ⟨t, rfl⟩ := h; exact .cons _ t ih
theorem isl_of {b : Heap} {D : Addr} {ys : List Value} (h : b.get? D = some (LCg.lst ys)) : b.IsList D ys.toArray := ⟨_, h, rfl, _, rfl⟩
theorem isl_mono {b b' : Heap} {D : Addr} {ys : Array Value} (l : Le b b') (h : b.IsList D ys) : b'.IsList D ys := let ⟨o, e, r⟩ := h; ⟨o, l _ _ e, r⟩

section
variable {prog : Program} {Γ : Fx prog} {b : Heap} {m : Str → Option Value} {own : List (Addr × Obj)}

/-- a new list that stays -/
def NewL (b b' : Heap) (vs : List Value) (v : Value) : Prop := ∃ D, v = .ref D ∧ b.get? D = none ∧ D ≠ 57 ∧ b'.IsList D vs.toArray ∧ b'.PlainList D vs.toArray
theorem pushFreeze {s : Shared} (T : Γ.S b m own s) {o : Obj} (hf : o.isFreed = false) : ∃ b', Le b b' ∧ b.get? s.heap.objs.size = none ∧ s.heap.objs.size ≠ 57 ∧ b'.get? s.heap.objs.size = some o ∧ Γ.S b' m own { s with heap := s.heap.push o } := by
  have T' := T.pushOwn (o := o) hf
  have n := newD (Γ := Γ) (Le.refl b) T'
  obtain ⟨b', l, e, T''⟩ := T'.freeze
  exact ⟨b', l, n.1, n.2, e, T''⟩
theorem Ei.list {es : List Expr} {pos} {PA : Heap → List Value → Prop} (ha : Args Γ b m own es PA) (mono : ∀ b b' vs, Le b b' → PA b vs → PA b' vs) (hn : ∀ b' vs, PA b' vs → vs.length ≤ sizeLine) :
    Ei Γ b m own (.List es pos) (fun b' v => ∃ vs, NewL b b' vs v ∧ PA b' vs) := by
  intro s E T
  refine List_ (wpAny_mono (ha s E pos T) (fun vs s₁ ⟨b₁, l, p, T₁⟩ => ?_) fun _ _ x => x)
  refine wpAny_newObj_type ?_ (by show vs.toArray.size ≤ sizeLine; rw [List.size_toArray]; exact hn _ _ p)
  obtain ⟨b', l', n1, n2, e, T'⟩ := pushFreeze T₁ (o := { cls := .type "list", data := .seq vs.toArray }) rfl
  refine ⟨b', l.trans l', ⟨vs, ⟨_, rfl, ?_, n2, ⟨_, e, rfl, _, rfl⟩, ⟨_, e⟩⟩, mono _ _ _ l' p⟩, T'⟩
  cases q : b.get? s₁.heap.objs.size with
  | none => rfl
  | some o => rw [l _ _ q] at n1; cases n1
theorem Ei.mono {e : Expr} {P P' : Heap → Value → Prop} (h : Ei Γ b m own e P) (k : ∀ b' v, Le b b' → P b' v → P' b' v) : Ei Γ b m own e P' := fun s E T => h.use T fun v s' b' l p T' => ⟨b', l, k b' v l p, T'⟩
theorem Ei.ifT {t x y : Expr} {pos} {P : Heap → Value → Prop} (ht : Tv Γ b m own t true) (hx : Ei Γ b m own x P) : Ei Γ b m own (.IfExp t x y pos) P :=
  fun s E T => wpAny_IfExp (ht.use T fun s' T' => by rw [if_pos rfl]; exact hx s' E T')
theorem Ei.ifF {t x y : Expr} {pos} {P : Heap → Value → Prop} (ht : Tv Γ b m own t false) (hy : Ei Γ b m own y P) : Ei Γ b m own (.IfExp t x y pos) P :=
  fun s E T => wpAny_IfExp (ht.use T fun s' T' => by rw [if_neg Bool.false_ne_true]; exact hy s' E T')
theorem Ev.ifT {t x y : Expr} {pos} {P : Value → Prop} (ht : Tv Γ b m own t true) (hx : Ev Γ b m own x P) : Ev Γ b m own (.IfExp t x y pos) P :=
  fun s E T => wpAny_IfExp (ht.use T fun s' T' => by rw [if_pos rfl]; exact hx s' E T')
theorem Ev.ifF {t x y : Expr} {pos} {P : Value → Prop} (ht : Tv Γ b m own t false) (hy : Ev Γ b m own y P) : Ev Γ b m own (.IfExp t x y pos) P :=
  fun s E T => wpAny_IfExp (ht.use T fun s' T' => by rw [if_neg Bool.false_ne_true]; exact hy s' E T')
/-- a test whose ways both are known -/
theorem Ei.ite {t x y : Expr} {pos} {c : Bool} {P : Heap → Value → Prop} (ht : Tv Γ b m own t c) (hx : c = true → Ei Γ b m own x P) (hy : c = false → Ei Γ b m own y P) : Ei Γ b m own (.IfExp t x y pos) P := by
  cases c with
  | true => exact Ei.ifT ht (hx rfl)
  | false => exact Ei.ifF ht (hy rfl)

/-- xs != [] of ints -/
theorem Tv.neNil (O : Γ.Ok) {l : Expr} {pos p2} {a : Addr} {vs : List Value} {ns : List Int} (hl : b.IsList a vs.toArray) (hi : All2 (fun v k => IsI k v) vs ns) (he : Ev Γ b m own l (IsV (.ref a))) (hm : behindInMarks .NotEq (.List [] p2) = false) :
    Tv Γ b m own (.Compare l [.NotEq] [.List [] p2] pos) (!decide (ns = [])) := by
  intro s E T
  refine wpAny_isTrue_Compare1 (he.use T fun v s₁ hv T₁ => ?_) hm
  obtain rfl : v = .ref a := hv
  refine List_ (spliced_none (wpAny_newObj_type ?_ (by show (0:Nat) ≤ sizeLine; exact Nat.zero_le _)))
  have k : Le s₁.heap (s₁.heap.push { cls := .type "list", data := .seq ([] : List Value).toArray }) := Le.push _ _
  refine PySem.W.ke_ne_ints (xs := vs) (ys := []) (ns := ns) (ms := []) (isl_mono (T₁.keep.trans k) hl) ⟨_, Heap.get?_push_size _ rfl, rfl, _, rfl⟩ (ints_of hi) .nil (by have := O.units; omega) ?_
  exact wpAny_truthy_bool ⟨rfl, T₁.heap' k⟩
/-- k in xs -/
theorem Ev.inInts {l r : Expr} {pos} {a : Addr} {vs : List Value} {ns : List Int} {k : Int} (hl : b.IsList a vs.toArray) (hi : All2 (fun v k => IsI k v) vs ns) (hk : Ev Γ b m own l (IsI k)) (he : Ev Γ b m own r (IsV (.ref a))) (hm : behindInMarks .In r = false) :
    Ev Γ b m own (.Compare l [.In] [r] pos) (IsB (ns.any (· == k))) := by
  intro s E T
  refine wpAny_Compare1 (hk.use T fun x s₁ hx T₁ => he.use T₁ fun v s₂ hv T₂ => ?_) hm
  obtain ⟨t, rfl⟩ := hx
  obtain rfl : v = .ref a := hv
  exact in_list_ints (isl_mono T₂.keep hl) (ints_of hi) ⟨rfl, T₂⟩

/-- range(a, b) -/
theorem range_2 {fn e1 e2 : Expr} {pos} {a c : Int} (hf : Ev Γ b m own fn (IsV (.type "range"))) (h1 : Ev Γ b m own e1 (IsI a)) (h2 : Ev Γ b m own e2 (IsI c)) 
    (he : eval (.Call fn [e1, e2] [] pos) Γ.env = (do callWith pos (← eval fn Γ.env) [] (backTo pos (starEach [e1, e2] Γ.env)) (backToKw pos (keywordEach [] Γ.env))) := by rfl)
    (hs : starEach [e1, e2] Γ.env = (false, eval e1 Γ.env) :: starEach [e2] Γ.env := by rfl) (hs2 : starEach [e2] Γ.env = (false, eval e2 Γ.env) :: starEach [] Γ.env := by rfl) (hpl : (backTo pos (starEach [e2] Γ.env)).any (·.1) = false := by rfl) :
    ∀ s E, Γ.S b m own s → wpAny Γ.M Γ.A (eval (.Call fn [e1, e2] [] pos) Γ.env) (fun xv s₁ => Γ.S b m own s₁ ∧ ∃ r t u v, xv = .ref r ∧ IsRange s₁.heap r a c 1 t u v) E s := by
  intro s E T
  refine Call_ (hf.use T fun v s₁ hv T₁ => ?_) he
  obtain rfl : v = .type "range" := hv
  refine callTail (b := b) (.typ "range") T₁ (spliced_more (h1.use T₁ fun x s₂ hx T₂ => spliced_more (h2.use T₂ fun y s₃ hy T₃ => spliced_none ⟨⟨b, Le.refl _, T₃⟩, ?_⟩) hs2) hs) hs hpl
  obtain ⟨t, rfl⟩ := hx
  obtain ⟨u, rfl⟩ := hy
  exact call_range_2 ⟨T₃.heap (Le.push _ _), _, _, _, _, rfl, Heap.get?_push_size _ rfl⟩
theorem range_1 {fn e1 : Expr} {pos} {a : Int} (hf : Ev Γ b m own fn (IsV (.type "range"))) (h1 : Ev Γ b m own e1 (IsI a))
    (he : eval (.Call fn [e1] [] pos) Γ.env = (do callWith pos (← eval fn Γ.env) [] (backTo pos (starEach [e1] Γ.env)) (backToKw pos (keywordEach [] Γ.env))) := by rfl)
    (hs : starEach [e1] Γ.env = (false, eval e1 Γ.env) :: starEach [] Γ.env := by rfl) (hpl : (backTo pos (starEach [] Γ.env)).any (·.1) = false := by rfl) :
    ∀ s E, Γ.S b m own s → wpAny Γ.M Γ.A (eval (.Call fn [e1] [] pos) Γ.env) (fun xv s₁ => Γ.S b m own s₁ ∧ ∃ r t u v, xv = .ref r ∧ IsRange s₁.heap r 0 a 1 t u v) E s := by
  intro s E T
  refine Call_ (hf.use T fun v s₁ hv T₁ => ?_) he
  obtain rfl : v = .type "range" := hv
  refine callTail (b := b) (.typ "range") T₁ (spliced_more (h1.use T₁ fun x s₂ hx T₂ => spliced_none ⟨⟨b, Le.refl _, T₂⟩, ?_⟩) hs) hs hpl
  obtain ⟨t, rfl⟩ := hx
  exact call_range_1 ⟨T₂.heap (Le.push _ _), _, _, _, _, rfl, Heap.get?_push_size _ rfl⟩
theorem range_3 {fn e1 e2 e3 : Expr} {pos} {a c d : Int} (hd : d ≠ 0) (hds : d.natAbs < 1073741824) (hf : Ev Γ b m own fn (IsV (.type "range"))) (h1 : Ev Γ b m own e1 (IsI a)) (h2 : Ev Γ b m own e2 (IsI c)) (h3 : Ev Γ b m own e3 (IsI d)) 
    (he : eval (.Call fn [e1, e2, e3] [] pos) Γ.env = (do callWith pos (← eval fn Γ.env) [] (backTo pos (starEach [e1, e2, e3] Γ.env)) (backToKw pos (keywordEach [] Γ.env))) := by rfl)
    (hs : starEach [e1, e2, e3] Γ.env = (false, eval e1 Γ.env) :: starEach [e2, e3] Γ.env := by rfl) (hs2 : starEach [e2, e3] Γ.env = (false, eval e2 Γ.env) :: starEach [e3] Γ.env := by rfl)
    (hs3 : starEach [e3] Γ.env = (false, eval e3 Γ.env) :: starEach [] Γ.env := by rfl) (hpl : (backTo pos (starEach [e2, e3] Γ.env)).any (·.1) = false := by rfl) :
    ∀ s E, Γ.S b m own s → wpAny Γ.M Γ.A (eval (.Call fn [e1, e2, e3] [] pos) Γ.env) (fun xv s₁ => Γ.S b m own s₁ ∧ ∃ r t u v, xv = .ref r ∧ IsRange s₁.heap r a c d t u v) E s := by
  intro s E T
  refine Call_ (hf.use T fun v s₁ hv T₁ => ?_) he
  obtain rfl : v = .type "range" := hv
  refine callTail (b := b) (.typ "range") T₁ (spliced_more (h1.use T₁ fun x s₂ hx T₂ => spliced_more (h2.use T₂ fun y s₃ hy T₃ => spliced_more (h3.use T₃ fun z s₄ hz T₄ => spliced_none ⟨⟨b, Le.refl _, T₄⟩, ?_⟩) hs3) hs2) hs) hs hpl
  obtain ⟨t, rfl⟩ := hx
  obtain ⟨u, rfl⟩ := hy
  obtain ⟨v, rfl⟩ := hz
  exact call_range_3 hd ⟨T₄.heap (Le.push _ _), _, _, _, _, rfl, Heap.get?_push_size _ rfl⟩ (Or.inl (PyProof.noPylong_small hds))

/-- list(range(..)) -/
theorem Ei.listRange (O : Γ.Ok) {fn e : Expr} {pos} {a c d : Int} {n : Nat} (hf : Ev Γ b m own fn (IsV (.type "list"))) (h : ∀ s E, Γ.S b m own s → wpAny Γ.M Γ.A (eval e Γ.env) (fun xv s₁ => Γ.S b m own s₁ ∧ ∃ r t u v, xv = .ref r ∧ IsRange s₁.heap r a c d t u v) E s)
    (hsm : Builtin.Range.small a c d = true) (hn : Builtin.Range.rangeSize a c d = (n : Int)) (hlen : n ≤ 2 ^ 24)
    (he : eval (.Call fn [e] [] pos) Γ.env = (do callWith pos (← eval fn Γ.env) [] (backTo pos (starEach [e] Γ.env)) (backToKw pos (keywordEach [] Γ.env))) := by rfl)
    (hs : starEach [e] Γ.env = (false, eval e Γ.env) :: starEach [] Γ.env := by rfl) : Ei Γ b m own (.Call fn [e] [] pos) (fun b' v => ∃ vs, NewL b b' vs v ∧ All2 (fun v k => IsI k v) vs (rangeL a d n)) := by
  intro s E T
  refine Call_ (hf.use T fun v s₁ hv T₁ => ?_) he
  obtain rfl : v = .type "list" := hv
  refine callTail (b := b) (.typ "list") T₁ (spliced_more (wpAny_mono (h s₁ E T₁) (fun x s₂ hx => ?_) fun _ _ x => x) hs) hs rfl
  obtain ⟨T₂, r, t, u, v, rfl, hr⟩ := hx
  refine spliced_none ⟨⟨b, Le.refl _, T₂⟩, call_list_range O.hand hr hsm hn hlen fun h' tk acc' c' hk hget hit => ?_⟩
  have T₃ := T₂.take (s' := { s₂ with heap := h', toks := tk }) (get_size s₂.heap) hk hget rfl rfl id
  have n12 := newD (Γ := Γ) (Le.refl b) T₃
  obtain ⟨b', l, e, T₄⟩ := T₃.freeze
  refine ⟨b', l, ⟨acc'.toList, ⟨_, rfl, n12.1, n12.2, ⟨_, e, rfl, _, rfl⟩, ⟨_, e⟩⟩, ?_⟩, T₄⟩
  obtain ⟨hsz, hP⟩ := hit
  have key : ∀ (k : Nat) (vs : List Value), vs.length = k → (∀ (j : Nat) (v : Value), vs[j]? = some v → ∃ t, v = .int (a + (j : Int) * d) t) → All2 (fun v k => IsI k v) vs (rangeL a d k) := by
    intro k
    induction k with
    | zero => intro vs hv _; rw [List.length_eq_zero_iff.mp hv]; exact .nil
    | succ k ih =>
      intro vs hv hp
      have hne : vs ≠ [] := by intro q; rw [q] at hv; cases hv
      rw [← List.dropLast_concat_getLast hne]
      have e : rangeL a d (k + 1) = rangeL a d k ++ [a + (k : Int) * d] := by simp [rangeL, List.range_succ]
      rw [e]
      refine All2.snoc (ih _ (by simp [hv]) fun j v hj => ?_) ?_
      · refine hp j v ?_
        have : j < vs.dropLast.length := (List.getElem?_eq_some_iff.mp hj).1
        rw [List.getElem?_dropLast] at hj
        split at hj
        · exact hj
        · cases hj
      · have := hp k (vs.getLast hne) (by rw [List.getLast_eq_getElem]; simp [hv])
        exact this
  exact key n _ (by simpa using hsz) fun j v hj => hP j v (by simpa using hj)
end

section
variable {prog : Program} {w : World} {A : Around} {E : Value → Shared → Prop}
theorem assign_list {env : Env} {elts : List Expr} {x1} {pos : Pos} {t : Addr} {items : Array Value} {Q : Unit → Shared → Prop} {s : Shared} (hh : A.handled = none) (ht : s.heap.IsList t items)
    (hn : (assignEach elts env).length = items.size) (hstar : (assignEach elts env).findIdx? (·.1) = none)
    (h : ∀ h', Le s.heap h' → wpAny (model prog w) A (assignInOrder ((assignEach elts env).map (·.2)) items.toList) Q E { s with heap := h' }) :
    wpAny (model prog w) A (assign (.Tuple elts x1 pos) env (.ref t)) Q E s := by
  rw [assign_Tuple]
  refine wpAny_bind (wpAny_standAt ?_)
  unfold unpack
  rw [hn, hstar]
  exact wpAny_bind (wpAny_holding (kun_itemsOf hh ht fun h' he => h h' fun a o e => he a o (Nat.ne_of_lt (Heap.lt_size e)) e))
end

theorem St.dropMid {g b : Heap} {L : Addr} {m : Str → Option Value} {l1 l2 : List (Addr × Obj)} {p : Addr × Obj} {dr : Dn} {os : OsState} {s : Shared} (T : St g b L m (l1 ++ p :: l2) dr os s) : St g b L m (l1 ++ l2) dr os s := by
  have sub : ∀ q, q ∈ l1 ++ l2 → q ∈ l1 ++ p :: l2 := fun q hq => by
    rcases List.mem_append.mp hq with h | h
    · exact List.mem_append_left _ h
    · exact List.mem_append_right _ (.tail _ h)
  refine ⟨T.ns, T.gr, T.keep, fun q hq => T.ow q (sub q hq), ?_, fun a ha => T.off a ?_, T.tab, T.dr, T.os, T.bare⟩
  · have := T.nd
    refine List.Nodup.sublist ?_ this
    refine List.Sublist.cons_cons _ (List.Sublist.cons_cons _ (List.Sublist.map _ ?_))
    exact List.Sublist.append_left (List.sublist_cons_self _ _) _
  · rcases List.mem_cons.mp ha with rfl | ha
    · exact .head _
    · rcases List.mem_cons.mp ha with rfl | ha
      · exact .tail _ (.head _)
      · obtain ⟨q, hq, rfl⟩ := List.mem_map.mp ha
        exact .tail _ (.tail _ (List.mem_map_of_mem (sub q hq)))
theorem St.insMid {g b : Heap} {L : Addr} {m : Str → Option Value} {l1 l2 : List (Addr × Obj)} {p : Addr × Obj} {dr : Dn} {os : OsState} {s : Shared} (T : St g b L m (p :: (l1 ++ l2)) dr os s) : St g b L m (l1 ++ p :: l2) dr os s := by
  have perm : (l1 ++ p :: l2).Perm (p :: (l1 ++ l2)) := List.perm_middle
  refine ⟨T.ns, T.gr, T.keep, fun q hq => T.ow q (perm.mem_iff.mp hq), ?_, fun a ha => T.off a ?_, T.tab, T.dr, T.os, T.bare⟩
  · exact ((perm.map (·.1)).cons _ |>.cons _).nodup_iff.mpr T.nd
  · exact ((perm.map (·.1)).cons _ |>.cons _).mem_iff.mp ha

section
variable {prog : Program} {Γ : Fx prog} {b : Heap} {m : Str → Option Value} {α : Type}
/-- a for: what holds between the turns -/
theorem Xs.for (O : Γ.Ok) {target iter : Expr} {body : List Stmt} {pos : Pos} {rest : List Stmt} {as : List α} {Kin : Value → α → Prop} {Q : Flow → Shared → Prop} {own R : List (Addr × Obj)}
    (Inv : Nat → Heap → (Str → Option Value) → List (Addr × Obj) → Prop) (hi : Iter Γ b m (own ++ R) iter as Kin) (h0 : Inv 0 b m own)
    (turn : ∀ i a v b₁ m₁ own₁ R₁ s E, as[i]? = some a → Le b b₁ → Kin v a → Inv i b₁ m₁ own₁ → (∀ q ∈ R, q ∈ R₁) → Γ.S b₁ m₁ (own₁ ++ R₁) s → wpAny Γ.M Γ.A (assign target Γ.env v) (fun _ s₂ => wpAny Γ.M Γ.A (execs body Γ.env) (fun f s₃ => f = .next ∧ ∃ b₂ m₂ own₂, Le b₁ b₂ ∧ Inv (i + 1) b₂ m₂ own₂ ∧ Γ.S b₂ m₂ (own₂ ++ R₁) s₃) E s₂) E s)
    (hs : ∀ x, foldedSetIterable iter Γ.env x = pure x)
    (k : ∀ b' m' own', Le b b' → Inv as.length b' m' own' → Xs Γ b' m' (own' ++ R) rest Q) : Xs Γ b m (own ++ R) (.For target iter body [] pos :: rest) Q := by
  intro s E T
  refine wpAny_execs_cons (wpAny_For (wpAny_mono (hi s _ T) (fun xv s₁ h₁ => ?_) fun _ _ e => e) hs)
  obtain ⟨T₁, h₁⟩ := h₁
  refine wpAny_mono h₁ (fun it s₂ h₂ => ?_) fun _ _ e => e
  obtain ⟨I, rfl, ⟨X⟩⟩ := h₂
  obtain ⟨fp, n, P, Sp, walk, hst, ⟨oI, hI⟩, newI, le, same, fps, rfl, item, hasI⟩ := X
  have W := walk Γ.A O.hand
  obtain ⟨h₀, tk₀, rfl⟩ := same
  dsimp only at hst hI le
  have TI : Γ.S b m (own ++ (I, oI) :: R) { s₁ with heap := h₀, toks := tk₀ } := (T₁.take (s' := { s₁ with heap := h₀, toks := tk₀ }) newI le hI rfl rfl id).insMid
  refine codeAny_forLoop_any (fun q s' => ∃ i b₁ m₁ own₁ o, i ≤ as.length ∧ q = as.length + 1 - i ∧ Le b b₁ ∧ Inv i b₁ m₁ own₁ ∧ Sp i s'.heap ∧ Γ.S b₁ m₁ (own₁ ++ (I, o) :: R) s') ?_ (as.length + 1) ⟨0, b, m, own, oI, Nat.zero_le _, rfl, Le.refl _, h0, hst, TI⟩
  rintro q s' ⟨i, b₁, m₁, own₁, o, hi', rfl, lb, hInv, hsp, T'⟩
  have offI := T'.off I (by simp)
  have nI := T'.nd
  by_cases hlt : i < as.length
  · refine W.item i _ _ _ hlt hsp fun v h₂ tk₂ hP hsp₂ hk₂ => ?_
    obtain ⟨a, ha, hv⟩ := item i v hP hlt
    obtain ⟨o₂, ho₂, hok⟩ := hasI _ _ hsp₂
    refine letOwned (s := { s' with heap := h₂, toks := tk₂ }) ho₂ hok ?_
    have kk : ∀ a o, a ≠ I → s'.heap.get? a = some o → h₂.get? a = some o := fun a o n e => hk₂ _ _ (by simpa using n) e
    have T₂ : Γ.S b₁ m₁ (own₁ ++ (I, o₂) :: R) { s' with heap := h₂, toks := tk₂ } := by
      have em : (own₁ ++ (I, o₂) :: R).map (·.1) = (own₁ ++ (I, o) :: R).map (·.1) := by simp
      refine ⟨T'.ns.at' fun o e => kk _ _ (fun q => ?_) e, T'.gr, fun a o e => kk _ _ (fun q => by rw [q, offI] at e; cases e) (T'.keep _ _ e), ?_, em ▸ nI, em ▸ T'.off, ?_, T'.dr, T'.os, T'.bare⟩
      · rw [q] at nI; simp at nI
      · intro p hp
        rcases List.mem_append.mp hp with hp | hp
        · refine kk _ _ (fun q => ?_) (T'.ow p (List.mem_append_left _ hp))
          have := (List.nodup_cons.mp (List.nodup_cons.mp nI).2).2
          rw [List.map_append, List.map_cons] at this
          exact (List.nodup_append.mp this).2.2 _ (List.mem_map_of_mem hp) _ (.head _) q
        · rcases List.mem_cons.mp hp with rfl | hp
          · exact ho₂
          · refine kk _ _ (fun q => ?_) (T'.ow p (List.mem_append_right _ (.tail _ hp)))
            have := (List.nodup_cons.mp (List.nodup_cons.mp nI).2).2
            rw [List.map_append, List.map_cons] at this
            exact (List.nodup_cons.mp (List.nodup_append.mp this).2.1).1 (by show I ∈ _; rw [← q]; exact List.mem_map_of_mem (f := fun x : Addr × Obj => x.1) hp)
      · obtain ⟨ps, e, t⟩ := T'.tab
        refine ⟨ps, kk _ _ (fun q => ?_) e, t⟩
        have := (List.nodup_cons.mp (List.nodup_cons.mp nI).2).1
        exact this (by rw [q]; simp)
    refine wpAny_mono (turn i a v b₁ m₁ own₁ ((I, o₂) :: R) _ _ ha lb hv hInv (fun q hq => .tail _ hq) T₂) (fun _ s₂ hs₂ => ?_) fun _ _ e => e
    refine wpAny_mono hs₂ (fun f s₃ hs₃ => ?_) fun _ _ e => e
    obtain ⟨rfl, b₂, m₂, own₂, l₂, inv₂, T₃⟩ := hs₃
    refine ⟨as.length + 1 - (i + 1), by omega, i + 1, b₂, m₂, own₂, o₂, hlt, rfl, lb.trans l₂, inv₂, ?_, T₃⟩
    refine W.frame _ _ _ hsp₂ fun a ha oa ea => ?_
    rcases fps a ha with rfl | ⟨ob, hob⟩
    · rw [ho₂] at ea; cases ea; exact T₃.ow (a, o₂) (by simp)
    · have z := T₂.keep _ _ (lb _ _ hob)
      rw [z] at ea; cases ea
      exact T₃.keep _ _ (l₂ _ _ (lb _ _ hob))
  · obtain rfl : i = as.length := Nat.le_antisymm hi' (Nat.not_lt.mp hlt)
    refine W.done _ _ _ hsp fun h₂ tk₂ hk₂ => ?_
    have kk : ∀ a o, a ≠ I → s'.heap.get? a = some o → h₂.get? a = some o := fun a o n e => hk₂ _ _ (by simpa using n) e
    have T₀ := T'.dropMid
    have nI' : I ∉ Γ.L :: 57 :: (own₁ ++ R).map (·.1) := by
      have perm : (own₁ ++ (I, o) :: R).Perm ((I, o) :: (own₁ ++ R)) := List.perm_middle
      have := ((perm.map (·.1)).cons 57 |>.cons Γ.L).nodup_iff.mp nI
      simp only [List.map_cons, List.nodup_cons, List.mem_cons, not_or] at this ⊢
      exact ⟨Ne.symm this.1.2.1, Ne.symm this.2.1.1, this.2.2.1⟩
    have T₂ : Γ.S b₁ m₁ (own₁ ++ R) { s' with heap := h₂, toks := tk₂ } := by
      refine ⟨T₀.ns.at' fun o e => kk _ _ (fun q => nI' (q ▸ .head _)) e, T₀.gr, fun a o e => kk _ _ (fun q => by rw [q, offI] at e; cases e) (T₀.keep _ _ e), fun p hp => kk _ _ (fun q => nI' (q ▸ .tail _ (.tail _ (List.mem_map_of_mem hp)))) (T₀.ow p hp), T₀.nd, T₀.off, ?_, T₀.dr, T₀.os, T₀.bare⟩
      obtain ⟨ps, e, t⟩ := T₀.tab
      exact ⟨ps, kk _ _ (fun q => nI' (q ▸ .tail _ (.head _))) e, t⟩
    exact wpAny_execs_nil (k b₁ m₁ own₁ lb hInv _ E T₂)
end
end Mine
end

section
open PySem PySem.W PySem.Calls PySem.Spec PyProof.Rows
set_option linter.unusedVariables false
namespace Mine
section
variable {prog : Program} {Γ : Fx prog} {b : Heap} {m : Str → Option Value} {own : List (Addr × Obj)}

def ArgsE (Γ : Fx prog) (b : Heap) (m : Str → Option Value) (own : List (Addr × Obj)) (es : List Expr) (P : List Value → Prop) : Prop :=
  ∀ s E pos, Γ.S b m own s → wpAny Γ.M Γ.A (spliced (backTo pos (starEach es Γ.env))) (fun vs s' => P vs ∧ Γ.S b m own s') E s
theorem ArgsE.nil : ArgsE Γ b m own [] (· = []) := fun s E pos T => spliced_none ⟨rfl, T⟩
theorem ArgsE.cons {e : Expr} {es : List Expr} {P : Value → Prop} {R : List Value → Prop} (he : Ev Γ b m own e P) (k : ArgsE Γ b m own es R) (hs : starEach (e :: es) Γ.env = (false, eval e Γ.env) :: starEach es Γ.env := by rfl) :
    ArgsE Γ b m own (e :: es) (fun vs => ∃ v vs', vs = v :: vs' ∧ P v ∧ R vs') :=
  fun s E pos T => spliced_more (he.use T fun v s' hp T' => wpAny_mono (k s' E pos T') (fun vs s'' ⟨r, T''⟩ => ⟨⟨v, vs, rfl, hp, r⟩, T''⟩) fun _ _ x => x) hs
theorem Ei.ofCallE {fn : Expr} {f : Value} {e : Expr} {es : List Expr} {pos} {R : Heap → Value → Prop} {PA : List Value → Prop} (hf : Ev Γ b m own fn (IsV f)) (hc : Callee b f) (ha : ArgsE Γ b m own (e :: es) PA)
    (k : ∀ vs, PA vs → Cal Γ b m own f vs R) (he : eval (.Call fn (e :: es) [] pos) Γ.env = (do callWith pos (← eval fn Γ.env) [] (backTo pos (starEach (e :: es) Γ.env)) (backToKw pos (keywordEach [] Γ.env))) := by rfl)
    (hs : starEach (e :: es) Γ.env = (false, eval e Γ.env) :: starEach es Γ.env := by rfl) (hpl : (backTo pos (starEach es Γ.env)).any (·.1) = false := by rfl) : Ei Γ b m own (.Call fn (e :: es) [] pos) R := by
  intro s E T
  refine Call_ (hf.use T fun v s₁ hv T₁ => ?_) he
  obtain rfl : v = f := hv
  exact callTail hc T₁ (wpAny_mono (ha s₁ E pos T₁) (fun vs s₂ ⟨p, T₂⟩ => ⟨⟨b, Le.refl _, T₂⟩, k vs p s₂ E T₂⟩) fun _ _ x => x) hs hpl
theorem Ev.ofCallE {fn : Expr} {f : Value} {e : Expr} {es : List Expr} {pos} {R : Value → Prop} {PA : List Value → Prop} (hf : Ev Γ b m own fn (IsV f)) (hc : Callee b f) (ha : ArgsE Γ b m own (e :: es) PA)
    (k : ∀ vs, PA vs → Cev Γ b m own f vs R) (he : eval (.Call fn (e :: es) [] pos) Γ.env = (do callWith pos (← eval fn Γ.env) [] (backTo pos (starEach (e :: es) Γ.env)) (backToKw pos (keywordEach [] Γ.env))) := by rfl)
    (hs : starEach (e :: es) Γ.env = (false, eval e Γ.env) :: starEach es Γ.env := by rfl) (hpl : (backTo pos (starEach es Γ.env)).any (·.1) = false := by rfl) : Ev Γ b m own (.Call fn (e :: es) [] pos) R := by
  intro s E T
  refine Call_ (hf.use T fun v s₁ hv T₁ => ?_) he
  obtain rfl : v = f := hv
  exact callTail hc T₁ (wpAny_mono (ha s₁ E pos T₁) (fun vs s₂ ⟨p, T₂⟩ => ⟨⟨b, Le.refl _, T₂⟩, k vs p s₂ E T₂⟩) fun _ _ x => x) hs hpl
theorem Ei.listE {es : List Expr} {pos} {PA : List Value → Prop} (ha : ArgsE Γ b m own es PA) (hn : ∀ vs, PA vs → vs.length ≤ sizeLine) : Ei Γ b m own (.List es pos) (fun b' v => ∃ vs, NewL b b' vs v ∧ PA vs) := by
  intro s E T
  refine List_ (wpAny_mono (ha s E pos T) (fun vs s₁ ⟨p, T₁⟩ => ?_) fun _ _ x => x)
  refine wpAny_newObj_type ?_ (by show vs.toArray.size ≤ sizeLine; rw [List.size_toArray]; exact hn _ p)
  obtain ⟨b', l', n1, n2, e, T'⟩ := pushFreeze T₁ (o := { cls := .type "list", data := .seq vs.toArray }) rfl
  exact ⟨b', l', ⟨vs, ⟨_, rfl, n1, n2, ⟨_, e, rfl, _, rfl⟩, ⟨_, e⟩⟩, p⟩, T'⟩

theorem St.adopt {s : Shared} (T : Γ.S b m own s) {D : Addr} {o : Obj} (hn : D ∉ Γ.L :: 57 :: own.map (·.1)) (e : s.heap.get? D = some o) : ∃ b', Le b b' ∧ b'.get? D = some o ∧ Γ.S b' m own s := by
  obtain ⟨b', l, k, T'⟩ := T.rebase
  exact ⟨b', l, k D o hn e, T'⟩
/-- a def that gives back a new list -/
theorem cal_new {f : Value} {vs : List Value} {R : List Value → Prop} (h : ∀ s E, Γ.S b m own s → wpAny Γ.M Γ.A (call f vs) (fun r s' => Pur s s' ∧ ∃ D ys, r = .ref D ∧ s.heap.get? D = none ∧ s'.heap.get? D = some (LCg.lst ys) ∧ R ys) E s) :
    Cal Γ b m own f vs (fun b' v => ∃ ys, NewL b b' ys v ∧ R ys) := by
  intro s E T
  refine wpAny_mono (h s E T) (fun r s' hr => ?_) fun _ _ x => x
  obtain ⟨P, D, ys, rfl, hD, e, r⟩ := hr
  have hn := T.notin hD
  obtain ⟨b', l, e', T'⟩ := (T.pur P).adopt hn e
  refine ⟨b', l, ⟨ys, ⟨D, rfl, ?_, fun q => hn (by rw [q]; exact .tail _ (.head _)), isl_of e', ⟨_, e'⟩⟩, r⟩, T'⟩
  cases q : b.get? D with
  | none => rfl
  | some o => have := T.keep _ _ q; rw [hD] at this; cases this
theorem cev_pur {f : Value} {vs : List Value} {P : Value → Prop} (h : ∀ s E, Γ.S b m own s → wpAny Γ.M Γ.A (call f vs) (fun r s' => Pur s s' ∧ P r) E s) : Cev Γ b m own f vs P :=
  fun s E T => wpAny_mono (h s E T) (fun r s' hr => ⟨hr.2, T.pur hr.1⟩) fun _ _ x => x

def OnQ (Γ : Fx prog) (rest : List Stmt) (Q : Flow → Shared → Prop) : Flow → Shared → Prop := fun f s' => match f with
  | .next => ∀ E, wpAny Γ.M Γ.A (execs rest Γ.env) Q E s'
  | f => Q f s'
theorem Xs.iff {t : Expr} {x y : List Stmt} {pos} {rest} {c : Bool} {Q : Flow → Shared → Prop} (ht : Tv Γ b m own t c) (hx : c = true → Xs Γ b m own x (OnQ Γ rest Q))
    (hy : c = false → Xs Γ b m own y (OnQ Γ rest Q)) : Xs Γ b m own (.If t x y pos :: rest) Q := by
  intro s E T
  refine wpAny_execs_cons (wpAny_If (ht.use T fun s' T' => ?_))
  have fin : ∀ (f : Flow) (s'' : Shared), OnQ Γ rest Q f s'' → (match f with | .next => wpAny Γ.M Γ.A (execs rest Γ.env) Q E s'' | f => Q f s'') := by
    intro f s'' h; cases f <;> first | exact h E | exact h
  cases c with
  | true => rw [if_pos rfl]; exact wpAny_mono (hx rfl s' E T') (fun f s'' h => fin f s'' h) fun _ _ x => x
  | false => rw [if_neg Bool.false_ne_true]; exact wpAny_mono (hy rfl s' E T') (fun f s'' h => fin f s'' h) fun _ _ x => x
theorem Xs.ifT {t : Expr} {x y : List Stmt} {pos} {rest} {Q : Flow → Shared → Prop} (ht : Tv Γ b m own t true) (hx : Xs Γ b m own x (OnQ Γ rest Q)) : Xs Γ b m own (.If t x y pos :: rest) Q :=
  Xs.iff ht (fun _ => hx) (fun h => nomatch h)
theorem Xs.ifF {t : Expr} {x y : List Stmt} {pos} {rest} {Q : Flow → Shared → Prop} (ht : Tv Γ b m own t false) (hy : Xs Γ b m own y (OnQ Γ rest Q)) : Xs Γ b m own (.If t x y pos :: rest) Q :=
  Xs.iff ht (fun h => nomatch h) (fun _ => hy)
/-- an if without an else that is not taken -/
theorem Xs.ifN {t : Expr} {x : List Stmt} {pos} {rest} {Q : Flow → Shared → Prop} (ht : Tv Γ b m own t false) (hy : Xs Γ b m own rest Q) : Xs Γ b m own (.If t x [] pos :: rest) Q :=
  Xs.ifF ht (Xs.nil fun s T E => hy s E T)
/-- the end of a branch: on with the rest -/
theorem Xs.on {rest} {Q : Flow → Shared → Prop} (h : Xs Γ b m own rest Q) : Xs Γ b m own [] (OnQ Γ rest Q) :=
  Xs.nil fun s T E => h s E T
end
end Mine
end

section
open PySem PySem.W PySem.Calls PySem.Spec PyProof.Rows
set_option linter.unusedVariables false
namespace Mine
section
variable {prog : Program} {Γ : Fx prog} {b : Heap} {m : Str → Option Value} {own : List (Addr × Obj)}

theorem St.shrink {b' : Heap} {s : Shared} (T : Γ.S b' m own s) (l : Le b b') (g : Le Γ.g b) : Γ.S b m own s :=
  ⟨T.ns, g, l.trans T.keep, T.ow, T.nd, fun a ha => (by
    cases q : b.get? a with
    | none => rfl
    | some o => have := T.off a ha; rw [l _ _ q] at this; cases this), T.tab, T.dr, T.os, T.bare⟩
theorem Ei.toEv {e : Expr} {P : Value → Prop} (h : Ei Γ b m own e (fun _ v => P v)) : Ev Γ b m own e P := fun s E T => h.use T fun v s' b' l p T' => ⟨p, T'.shrink l T.gr⟩
theorem Cev.cal {f : Value} {vs : List Value} {P : Value → Prop} (h : Cev Γ b m own f vs P) : Cal Γ b m own f vs (fun _ v => P v) := fun s E T => wpAny_mono (h s E T) (fun v s' ⟨p, T'⟩ => ⟨b, Le.refl _, p, T'⟩) fun _ _ x => x

/-- what a method may be called on -/
def Recv (T : String) (b : Heap) (ov : Value) : Prop := (∀ s : Shared, Le b s.heap → s.TypeIs ov T) ∧ ∀ a, ov = .ref a → ∃ ob, b.get? a = some ob ∧ ob.dict = none
theorem recv_list {a : Addr} {vs : Array Value} (h : b.PlainList a vs) : Recv "list" b (.ref a) := by
  obtain ⟨n, e⟩ := h
  exact ⟨fun s k => ⟨_, k _ _ e, rfl⟩, fun a' q => (by cases q; exact ⟨_, e, rfl⟩)⟩
theorem recv_str {x : Str} {t : Tok} : Recv "str" b (.str x t) := ⟨fun s _ => typeIs_str s x t, fun a q => (nomatch q)⟩
theorem recv_strS {x : Str} {v : Value} (h : IsS x v) : Recv "str" b v := by obtain ⟨t, rfl⟩ := h; exact recv_str

theorem Ei.meth {o : Expr} {name : Str} {apos pos : Pos} {e : Expr} {es : List Expr} {T id : String} {Po : Heap → Value → Prop} {R : Heap → Value → Prop} (pa : PlainAttrs T) (slot : Slot T name id) (hty : typeOf (.builtin id) = pure (.type "method_descriptor"))
    (ho : Ei Γ b m own o Po) (hr : ∀ b' ov, Po b' ov → Recv T b' ov)
    (k : ∀ b₁ ov, Le b b₁ → Po b₁ ov → ∃ PA, ArgsE Γ b₁ m own (e :: es) PA ∧ ∀ vs, PA vs → Cal Γ b₁ m own (.builtin id) (ov :: vs) R)
    (hbase : attributeBase o name Γ.env (eval o Γ.env) = eval o Γ.env) (hfew : ((backTo pos (starEach (e :: es) Γ.env)).all (fun x => !x.1) && (backToKw pos (keywordEach [] Γ.env)).all (fun x => x.1.isSome) && decide ((e :: es).length + ([] : List Keyword).length + (if ([] : List Keyword).isEmpty then 0 else 1) < 30)) = true)
    (hline : (apos.endLine == pos.line) = true) (hs : starEach (e :: es) Γ.env = (false, eval e Γ.env) :: starEach es Γ.env := by rfl) (hpl : (backTo pos (starEach es Γ.env)).any (·.1) = false := by rfl) :
    Ei Γ b m own (.Call (.Attribute o name apos) (e :: es) [] pos) R := by
  intro s E T'
  refine wpAny_Call_method hbase hfew hline pa slot hty (ho.use T' fun ov s₁ b₁ l p T₁ => ?_)
  obtain ⟨h1, h2⟩ := hr b₁ ov p
  refine ⟨h1 s₁ T₁.keep, fun a q => let ⟨ob, e, d⟩ := h2 a q; ⟨ob, T₁.keep _ _ e, d⟩, ?_⟩
  obtain ⟨PA, ha, hk⟩ := k b₁ ov l p
  refine callWith_method1 (wpAny_mono (ha s₁ E pos T₁) (fun vs s₂ ⟨pv, T₂⟩ => ?_) fun _ _ x => x) hs hpl
  exact wpAny_mono (hk vs pv s₂ E T₂) (fun v s₃ ⟨b', l', r, T₃⟩ => ⟨b', l.trans l', r, T₃⟩) fun _ _ x => x

theorem cev_countS {a : Addr} {vs : List Value} {ys : List Str} {k : Str} {v : Value} (hl : b.IsList a vs.toArray) (hi : All2 (fun v x => IsS x v) vs ys) (hv : IsS k v) : Cev Γ b m own (.builtin "list.count") [.ref a, v] (IsI (ys.count k)) := by
  obtain ⟨t, rfl⟩ := hv
  intro s E T
  refine count_list_strs (isl_mono T.keep hl) (strs_of hi) ?_
  rw [cnt_strs]
  exact ⟨⟨_, rfl⟩, T.toks⟩

/-- xs[i:], xs[:i], xs[:] -/
theorem Ei.slice {value : Expr} {lo up : Option Expr} {p pos} {a : Addr} {vs : List Value} {pl pu : Option Int} (hl : b.IsList a vs.toArray) (hv : Ev Γ b m own value (IsV (.ref a)))
    (h1 : match lo, pl with | none, none => True | some e, some i => Ev Γ b m own e (IsI i) | _, _ => False) (h2 : match up, pu with | none, none => True | some e, some i => Ev Γ b m own e (IsI i) | _, _ => False) (hn : vs.length ≤ sizeLine) 
    (ht : ∀ o r, letTemporaryGo value o r = pure ()) : Ei Γ b m own (.Subscript value (.Slice lo up none p) pos) (fun b' v => NewL b b' (slicePick vs.toArray pl pu none).toList v) := by
  intro s E T
  have part : ∀ {x : Option Expr} {q : Option Int} {s₁ : Shared} {Q : Value → Shared → Prop}, (match x, q with | none, none => True | some e, some i => Ev Γ b m own e (IsI i) | _, _ => False) → Γ.S b m own s₁ → (∀ v s₂, IsPart v q → Γ.S b m own s₂ → Q v s₂) → wpAny Γ.M Γ.A (evalPart x Γ.env) Q E s₁ := by
    intro x q s₁ Q h T₁ k
    cases x with
    | none =>
      cases q with
      | none => exact evalPart_none_step (k _ _ .none T₁)
      | some i => exact h.elim
    | some e =>
      cases q with
      | none => exact h.elim
      | some i => exact evalPart_some_step (Ev.use h T₁ fun v s₂ hv T₂ => by obtain ⟨t, rfl⟩ := hv; exact k _ _ (.int i t) T₂)
  refine wpAny_Subscript_list_slice (hv.use T fun v s₁ hv T₁ => part h1 T₁ fun vl s₂ hvl T₂ => part h2 T₂ fun vu s₃ hvu T₃ => ?_) ht
  refine ⟨a, vs.toArray, pl, pu, hv, isl_mono T₃.keep hl, by rw [List.size_toArray]; exact hn, hvl, hvu, ?_⟩
  have T₄ := T₃.heap' (Le.push s₃.heap { cls := .type "slice", data := .fields #[vl, vu, .none] })
  obtain ⟨b', l, n1, n2, e, T₅⟩ := pushFreeze T₄ (o := { cls := .type "list", data := .seq (slicePick vs.toArray pl pu none) }) rfl
  have hz : (s₃.heap.push { cls := .type "slice", data := .fields #[vl, vu, .none] }).objs.size = s₃.heap.objs.size + 1 := Heap.size_push ..
  dsimp only at n1 n2 e T₅
  rw [hz] at n1 n2 e
  exact ⟨b', l, ⟨_, rfl, n1, n2, ⟨_, e, rfl, _, rfl⟩, ⟨_, e⟩⟩, T₅⟩
end
end Mine
namespace Mine
section
variable {prog : Program} {Γ : Fx prog} {b : Heap} {m : Str → Option Value} {own : List (Addr × Obj)}
theorem cop_gtI {i j : Int} : Cop .Gt (IsI i) (IsI j) (IsB (decide (j < i))) := by rintro _ _ _ _ _ _ _ _ ⟨t, rfl⟩ ⟨u, rfl⟩ k; exact PyProof.Rows.gt_int (k _ _ rfl)
theorem Ev.neg {e : Expr} {pos} {i : Int} (h : Ev Γ b m own e (IsI i)) : Ev Γ b m own (.UnaryOp .USub e pos) (IsI (-i)) := by
  intro s E T
  refine wpAny_UnaryOp (h.use T fun v s₁ hv T₁ => ?_)
  obtain ⟨t, rfl⟩ := hv
  exact neg_int ⟨⟨_, rfl⟩, T₁.toks⟩
/-- several new lists, all to stay -/
theorem St.adopt2 {s s' : Shared} (T : Γ.S b m own s) (P : Pur s s') : ∃ b', Le b b' ∧ (∀ D o, s.heap.get? D = none → s'.heap.get? D = some o → b.get? D = none ∧ D ≠ 57 ∧ b'.get? D = some o) ∧ Γ.S b' m own s' := by
  obtain ⟨b', l, k, T'⟩ := (T.pur P).rebase
  refine ⟨b', l, fun D o hD e => ⟨?_, fun q => T.notin hD (by rw [q]; exact .tail _ (.head _)), k D o (T.notin hD) e⟩, T'⟩
  cases q : b.get? D with
  | none => rfl
  | some o => have := T.keep _ _ q; rw [hD] at this; cases this
end
end Mine
end

section
open PySem PySem.W PySem.Calls PySem.Spec PyProof.Rows
set_option linter.unusedVariables false
namespace Mine
abbrev Prg : Program := PySem.Challenge.pw_in0178_01
noncomputable abbrev KK (w : World) : Frag := KF w.params
structure Wd (w : World) (mg mb : Str → Option Value) (h : Heap) : Prop where
  X : (KK w).In h
  G : h.Ns mainGlobals mg
  B : h.Ns builtinsNs mb
  lim : h.NoLimit
  bi : ∀ x : Str, x ≠ "__name__" → mb x = bootBuiltins x
  bat : h.BuiltinsAt mg 57
theorem Wd.keeps {w : World} {mg mb : Str → Option Value} {h h' : Heap} (W : Wd w mg mb h) (k : ∀ a o, a ≠ 57 → h.get? a = some o → h'.get? a = some o) : Wd w mg mb h' := by
  refine ⟨fun a o e => k _ _ (fun q => ?_) (W.X a o e), W.G.at' fun o e => k _ _ (by decide) e, W.B.at' fun o e => k _ _ (by decide) e, ?_, W.bi, let ⟨bm, o, a, c, d, e, f, g⟩ := W.bat; ⟨bm, o, a, c, d, e, k _ _ e f, g⟩⟩
  · subst q
    have z : (KK w).lookup 57 = none := by kernel_rfl
    rw [z] at e; cases e
  · obtain ⟨mc, a, c⟩ := W.lim
    exact ⟨mc, a.at' fun o e => k _ _ (by decide) e, c⟩
theorem Wd.hide {w : World} {mg mb : Str → Option Value} {h : Heap} (W : Wd w mg mb h) : Wd w mg mb (hideAll h [57]) := W.keeps fun a o n e => gget e n
theorem Wd.mono {w : World} {mg mb : Str → Option Value} {h h' : Heap} (W : Wd w mg mb h) (k : Le h h') : Wd w mg mb h' := W.keeps fun a o _ e => k _ _ e
theorem Wd.mg {w : World} {mg mb : Str → Option Value} {h : Heap} (W : Wd w mg mb h) {x : Str} {v : Value} (e : nsIn (KK w) mainGlobals x = some (some v)) : mg x = some v := mg_of W.X W.G e
theorem Wd.mn {w : World} {mg mb : Str → Option Value} {h : Heap} (W : Wd w mg mb h) {x : Str} (e : nsIn (KK w) mainGlobals x = some none) : mg x = none := mg_none_of W.X W.G e
theorem Wd.mb {w : World} {mg mb : Str → Option Value} {h : Heap} (W : Wd w mg mb h) {x : Str} {v : Value} (e : bootBuiltins x = some v) (n : x ≠ "__name__") : mb x = some v := (W.bi x n).trans e

section
variable {Γ : Fx Prg} {b : Heap} {m : Str → Option Value} {own : List (Addr × Obj)} {w : World} {mg mb : Str → Option Value}
/-- a name of the text's top; a builtin -/
theorem Ev.top {x : Str} {pos} {v : Value} (O : Γ.Ok) (W : Wd w mg mb Γ.g) (e : nsIn (KK w) mainGlobals x = some (some v)) (hx : Γ.env.kindOf x = some .globalImplicit) (hd : (x == ("__debug__" : Str)) = false) : Ev Γ b m own (.Name x pos) (IsV v) :=
  Ev.glob O W.G (W.mg e) hx hd
theorem Ev.boot {x : Str} {pos} {v : Value} (O : Γ.Ok) (W : Wd w mg mb Γ.g) (e : nsIn (KK w) mainGlobals x = some none) (hb : bootBuiltins x = some v) (n : x ≠ "__name__") (hx : Γ.env.kindOf x = some .globalImplicit) (hd : (x == ("__debug__" : Str)) = false) :
    Ev Γ b m own (.Name x pos) (IsV v) := Ev.bui O W.G W.B (W.mn e) (W.mb hb n) hx hd
theorem cop_neB {c d : Bool} : Cop .NotEq (IsB c) (IsB d) (IsB (c != d)) := by
  rintro _ _ _ _ s _ _ _ rfl rfl k
  refine ne_bool ?_
  have := k (.bool (c != d)) s.toks rfl
  exact this
end
/-- the def at an address -/
noncomputable def fdAt (w : World) (a : Addr) : FuncData := match (KK w).lookup a with
  | some ⟨_, _, .func fd, _⟩ => fd
  | _ => default
def stepF (line : Str) (places : List Int) (some : Str) (barred : Bool) : List Int :=
  (places.filter fun (k : Int) => decide (k < line.length) && (decide (line.cps.getD k.toNat 0 ∈ some.cps.toList) != barred)).map (· + 1)
noncomputable abbrev envF (w : World) (a L : Addr) : Env := callEnvC (fdAt w a) L a
section
variable {Γ : Fx Prg} {w : World} {a L : Addr} {x : Str} {k : NameKind}
theorem kd (e : Γ.env = envF w a L) (h : (envF w a L).kindOf x = some k) : Γ.env.kindOf x = some k := by rw [e]; exact h
theorem cd (e : Γ.env = envF w a L) {c : Addr} (h : (envF w a L).cells.lookup x = some c) : Γ.env.cells.lookup x = some c := by rw [e]; exact h
theorem kdc (e : Γ.env = envF w a L) {scope : Scope} {cl : List (Str × Addr)} {C : Addr} (h : (compEnvC scope cl C (envF w a L)).kindOf x = some k) : (Γ.comp scope cl C).env.kindOf x = some k := by
  show (compEnvC scope cl C Γ.env).kindOf x = some k
  rw [e]; exact h
end

abbrev Item : Type := Str × Str × Bool
def ItemIs (h : Heap) (v : Value) (x : Item) : Prop := ∃ a t1 t2, v = .ref a ∧ h.IsList a #[.str x.1 t1, .str x.2.1 t2, .bool x.2.2]
theorem ItemIs.mono {h h' : Heap} (l : Le h h') {v : Value} {x : Item} (i : ItemIs h v x) : ItemIs h' v x := let ⟨a, t1, t2, e, r⟩ := i; ⟨a, t1, t2, e, isl_mono l r⟩
def meantStep (line : Str) (pl : List Int) (x : Item) : List Int :=
  if pl = [] then [] else if x.1 = "*" then rangeL (pl.headD 0) 1 ((line.length : Int) + 1 - pl.headD 0).toNat else stepF line pl x.2.1 x.2.2
def meantF (items : List Item) (line : Str) : Bool := (items.foldl (meantStep line) [0]).any (· == (line.length : Int))
/-- what holds of the places -/
structure Pl (n : Nat) (pl : List Int) : Prop where
  lo : ∀ k ∈ pl, 0 ≤ k
  hi : ∀ k ∈ pl, k ≤ n
  len : pl.length ≤ n + 1
theorem Pl.start (n : Nat) : Pl n [0] := ⟨by simp, by simp, by simp⟩
theorem Pl.nil (n : Nat) : Pl n [] := ⟨by simp, by simp, by simp⟩
theorem Pl.step {line : Str} {pl : List Int} {some : Str} {barred : Bool} (h : Pl line.length pl) : Pl line.length (stepF line pl some barred) := by
  refine ⟨fun k hk => ?_, fun k hk => ?_, ?_⟩
  · obtain ⟨j, hj, rfl⟩ := List.mem_map.mp hk
    have := h.lo j (List.mem_filter.mp hj).1; omega
  · obtain ⟨j, hj, rfl⟩ := List.mem_map.mp hk
    have := (List.mem_filter.mp hj).2
    simp only [Bool.and_eq_true, decide_eq_true_eq] at this
    omega
  · unfold stepF
    rw [List.length_map]
    exact Nat.le_trans (List.length_filter_le _ _) h.len
theorem Pl.range {n : Nat} {a : Int} (h0 : 0 ≤ a) (h1 : a ≤ n) : Pl n (rangeL a 1 ((n : Int) + 1 - a).toNat) := by
  refine ⟨fun k hk => ?_, fun k hk => ?_, ?_⟩
  · obtain ⟨j, hj, rfl⟩ := List.mem_map.mp hk; omega
  · obtain ⟨j, hj, rfl⟩ := List.mem_map.mp hk
    have := List.mem_range.mp hj; omega
  · unfold rangeL; rw [List.length_map, List.length_range]; omega
theorem Pl.meant {line : Str} {pl : List Int} {x : Item} (h : Pl line.length pl) : Pl line.length (meantStep line pl x) := by
  unfold meantStep
  split
  · exact Pl.nil _
  · split
    · rename_i hne _
      obtain ⟨k, r, rfl⟩ : ∃ k r, pl = k :: r := by cases pl with | nil => exact absurd rfl hne | cons k r => exact ⟨k, r, rfl⟩
      exact Pl.range (h.lo k (.head _)) (h.hi k (.head _))
    · exact h.step
end Mine
end

section
open PySem PySem.W PySem.Calls PySem.Spec PyProof.Rows
set_option linter.unusedVariables false
namespace Mine
set_option maxRecDepth 100000
theorem law_step_spec {w : World} {mg mb : Str → Option Value} {dr : Dn} {os : OsState} {A : Around} {s : Shared} {E : Value → Shared → Prop} (C : Cs dr os A 0 s) (W : Wd w mg mb s.heap) {line some : Str} {t1 t2 : Tok} {pl : Addr} {vs : List Value} {places : List Int} {barred : Bool}
    (hp : s.heap.IsList pl vs.toArray) (hi : All2 (fun v k => IsI k v) vs places) (h0 : ∀ k ∈ places, 0 ≤ k) (hl : line.length < 2 ^ 60) (hpl : places.length ≤ sizeLine) :
    wpAny (model Prg w) A (call (.ref 79) [.str line t1, .ref pl, .str some t2, .bool barred]) (fun r s' => Pur s s' ∧ ∃ D ys, r = .ref D ∧ s.heap.get? D = none ∧ s'.heap.get? D = .some (LCg.lst ys) ∧ All2 (fun v k => IsI k v) ys (stepF line places some barred)) E s := by
  refine enter (fd := fdAt w 79) C (W.X 79 _ rfl) (by kernel_rfl) (codeRec_of W.X (by kernel_rfl)) W.lim rfl (binds := [("line", .str line t1), ("places", .ref pl), ("some", .str some t2), ("barred", .bool barred)]) (by kernel_rfl) rfl (by kernel_rfl) rfl rfl rfl rfl rfl ?_
  intro L b s₁ Γ e2 e3 e4 e5 e6 e7 e8 O hL S hc hn
  have W' : Wd w mg mb Γ.g := e5 ▸ W.hide
  subst e2 e6 e7
  have hline : ∃ o, b.get? (L + 1) = .some o ∧ o.data = .cell (.some (.str line t1)) := hc "line" (L + 1) (by kernel_rfl)
  have hsome : ∃ o, b.get? (L + 1 + 1) = .some o ∧ o.data = .cell (.some (.str some t2)) := hc "some" (L + 1 + 1) (by kernel_rfl)
  have hbar : ∃ o, b.get? (L + 1 + 1 + 1) = .some o ∧ o.data = .cell (.some (.bool barred)) := hc "barred" (L + 1 + 1 + 1) (by kernel_rfl)
  have hpg : b.IsList pl vs.toArray := by
    obtain ⟨o, e, r⟩ := hp
    refine ⟨o, S.gr _ _ (e5 ▸ gget e fun q => ?_), r⟩
    obtain ⟨ps, et, _⟩ := C.tab
    rw [q, et] at e; cases e; cases r.1
  refine Xs.ret (Γ := Γ) (m := bindL (envF Γ.w 79 L).kindOf [("line", .str line t1), ("places", .ref pl), ("some", .str some t2), ("barred", .bool barred)] fun _ => none) (Ei.comp O (cl := [("some", L + 1 + 1), ("line", L + 1), ("barred", L + 1 + 1 + 1)]) (fun (k : Int) => decide (k < line.length) && (decide (line.cps.getD k.toNat 0 ∈ some.cps.toList) != barred)) (fun k => k + 1) (fun v k => IsI k v) (fun _ v k => IsI k v) (iter_list hpg hi ?_) (CTurn.name1 O rfl (by kernel_rfl) ?_) ?_ ?_ ?_ rfl hpl ?_ ?_) ?_ s₁ _ S
  · exact Ev.loc O (by kernel_rfl) (kd e3 (by kernel_rfl)) (by decide)
  · intro C' b₁ own₁ m₁ a v ha lb ho hv hm O'
    obtain ⟨tv, rfl⟩ := hv
    have pa := h0 a ha
    have place : ∀ {pos}, Ev (Γ.comp _ [("some", L + 1 + 1), ("line", L + 1), ("barred", L + 1 + 1 + 1)] C') b₁ m₁ own₁ (.Name "place" pos) (IsI a) := Ev.locI O' ⟨_, hm⟩ (kdc e3 (by kernel_rfl)) (by decide)
    have up : ∀ {c v}, (∃ o, b.get? c = .some o ∧ o.data = .cell (.some v)) → ∃ o, b₁.get? c = .some o ∧ o.data = .cell (.some v) := fun ⟨o, e, r⟩ => ⟨o, lb _ _ e, r⟩
    refine ⟨Tw.tv (Tw.andC (Tv.cmp cop_ltI place (Ev.call1 (Ev.boot O' W' (by kernel_rfl) (by kernel_rfl) (by decide) (kdc e3 (by kernel_rfl)) (by decide)) (.bui "len") (Ev.cell O' (up hline) (by kernel_rfl) (kdc e3 (by kernel_rfl)) (by decide)) fun x hx => cev_lenS (by omega) ⟨_, hx⟩) (by with_unfolding_all rfl)) fun hlt => Tw.and1 ?_), fun _ => ?_⟩
    · have hlt' : a < line.length := of_decide_eq_true hlt
      have hlt2 : a.toNat < line.cps.size := by have e : line.length = line.cps.size := rfl; omega
      have hg : line.cps[a.toNat]? = .some (line.cps.getD a.toNat 0) := by simp [Array.getD, hlt2]
      refine Tv.cmp cop_neB (Ev.cmp cop_inC (Ev.itemS (Ev.mono (Ev.cell O' (up hline) (by kernel_rfl) (kdc e3 (by kernel_rfl)) (by decide)) fun _ h => ⟨_, h⟩) place pa hg (by omega) (fun _ _ => by with_unfolding_all rfl) (fun _ _ => by with_unfolding_all rfl)) (Ev.mono (Ev.cell O' (up hsome) (by kernel_rfl) (kdc e3 (by kernel_rfl)) (by decide)) fun _ h => ⟨_, h⟩) (by with_unfolding_all rfl)) (Ev.cell O' (up hbar) (by kernel_rfl) (kdc e3 (by kernel_rfl)) (by decide)) (by with_unfolding_all rfl)
    · exact Ev.ei (P := fun _ v => IsI (a + 1) v) (Ev.bin bop_addI place Ev.int)
  · rw [e3]; with_unfolding_all rfl
  · exact fun _ _ _ _ _ h => h
  · decide
  · decide
  · intro _; rfl
  · intro b' v s' lb hv T
    obtain ⟨D, ys, rfl, n1, n2, hD, hy⟩ := hv
    refine ⟨fxLeave T C.dr C.os e5, D, ys, rfl, freshIn e5 ⟨_, _, _, S⟩ n1 n2, T.keep _ _ hD, hy⟩
end Mine
end

section
open PySem PySem.W PySem.Calls PySem.Spec PyProof.Rows
set_option linter.unusedVariables false
namespace Mine
set_option maxRecDepth 100000
local macro_rules | `(tactic| walk_at "m") => `(tactic| ((repeat (rw [upd_ne (by decide)])); first | exact upd_eq _ _ _ | assumption))
local macro_rules | `(tactic| walk_at "k") => `(tactic| exact kd (by assumption) (by kernel_rfl))
local macro_rules | `(tactic| walk_at "loc") => `(tactic| exact Ev.loc (by assumption) (by walk_at "m") (by walk_at "k") (by decide))
local macro_rules | `(tactic| walk_at "locS") => `(tactic| exact Ev.locS (by assumption) ⟨_, (by walk_at "m")⟩ (by walk_at "k") (by decide))
local macro_rules | `(tactic| walk_at "bui") => `(tactic| exact Ev.boot (by assumption) (by assumption) (by kernel_rfl) (by kernel_rfl) (by decide) (by walk_at "k") (by decide))
local macro_rules | `(tactic| walk_at "top") => `(tactic| exact Ev.top (by assumption) (by assumption) (by kernel_rfl) (by walk_at "k") (by decide))
local macro_rules | `(tactic| walk_at "u") => `(tactic| with_unfolding_all rfl)
theorem isl57 {s : Shared} (t : Tab s.heap) {l : Addr} {vs : Array Value} (h : s.heap.IsList l vs) : l ≠ 57 := by
  obtain ⟨o, e, r⟩ := h
  obtain ⟨ps, et, _⟩ := t
  rintro rfl
  rw [et] at e; cases e; cases r.1
theorem islB {Γ : Fx Prg} {b : Heap} {m : Str → Option Value} {own : List (Addr × Obj)} {s s₁ : Shared} (S : Γ.S b m own s₁) (e5 : Γ.g = hideAll s.heap [57]) (t : Tab s.heap) {l : Addr} {vs : Array Value} (h : s.heap.IsList l vs) : b.IsList l vs := by
  have n := isl57 t h
  obtain ⟨o, e, r⟩ := h
  exact ⟨o, S.gr _ _ (e5 ▸ gget e n), r⟩
theorem law_meant_spec {w : World} {mg mb : Str → Option Value} {dr : Dn} {os : OsState} {A : Around} {s : Shared} {E : Value → Shared → Prop} (C : Cs dr os A 1 s) (W : Wd w mg mb s.heap) {line : Str} {t1 : Tok} {il : Addr} {vs : List Value} {items : List Item}
    (hp : s.heap.IsList il vs.toArray) (hi : All2 (ItemIs s.heap) vs items) (hl : line.length ≤ 1000) (hn : items.length ≤ 1000) :
    wpAny (model Prg w) A (call (.ref 86) [.ref il, .str line t1]) (fun r s' => Pur s s' ∧ IsB (meantF items line) r) E s := by
  refine enter (fd := fdAt w 86) C (W.X 86 _ rfl) (by kernel_rfl) (codeRec_of W.X (by kernel_rfl)) W.lim rfl (binds := [("items", .ref il), ("line", .str line t1)]) (by kernel_rfl) rfl (by kernel_rfl) rfl rfl rfl rfl rfl ?_
  intro L b s₁ Γ e2 e3 e4 e5 e6 e7 e8 O hL S hc hn
  have W' : Wd w mg mb Γ.g := e5 ▸ W.hide
  subst e2 e6 e7
  have hpb : b.IsList il vs.toArray := islB S e5 C.tab hp
  have hib : All2 (ItemIs b) vs items := hi.mono fun v x ⟨a, u1, u2, e, r⟩ => ⟨a, u1, u2, e, islB S e5 C.tab r⟩
  have hm1 : bindL (envF Γ.w 86 L).kindOf [("items", .ref il), ("line", .str line t1)] (fun _ => none) "line" = some (.str line t1) := by kernel_rfl
  have hm2 : bindL (envF Γ.w 86 L).kindOf [("items", .ref il), ("line", .str line t1)] (fun _ => none) "items" = some (.ref il) := by kernel_rfl
  generalize bindL (envF Γ.w 86 L).kindOf [("items", .ref il), ("line", .str line t1)] (fun _ => none) = m at S hm1 hm2
  have hd1 : Γ.A.depth + 21 + 0 < recursionLimit := by rw [e8]; have := C.depth; show A.depth + 1 + 21 + 0 < _; omega
  have hu1 : Γ.A.units + 103 + 4 * 0 < cLine := by rw [e8]; have := C.units; show A.units + 3 + 103 + 4 * 0 < _; omega
  have h79 := W'.X 79 _ rfl
  refine Xs.asg (Γ := Γ) (own := []) (m := m) O (Ei.listE (ArgsE.cons Ev.int ArgsE.nil) ?_) (by walk_at "k") (by rw [e3]; walk_at "u") ?_ s₁ _ S
  · rintro _ ⟨_, _, rfl, _, rfl⟩; show 1 ≤ sizeLine; decide
  · rintro b₁ v₁ l₁ ⟨_, hnew, _, _, rfl, hz, rfl⟩
    obtain ⟨D₀, rfl, _, _, hD₀, _⟩ := hnew
    refine Xs.for (own := []) (R := []) O (fun i b m own => own = [] ∧ m "line" = some (.str line t1) ∧ ∃ a vs, m "places" = some (.ref a) ∧ b.IsList a vs.toArray ∧ All2 (fun v k => IsI k v) vs ((items.take i).foldl (meantStep line) [0]) ∧ Pl line.length ((items.take i).foldl (meantStep line) [0]))
      (iter_list (isl_mono l₁ hpb) (hib.mono fun v x h => h.mono l₁) (by walk_at "loc")) ⟨rfl, (by walk_at "m"), D₀, _, (by walk_at "m"), hD₀, .cons hz .nil, Pl.start _⟩ ?_ (fun _ => rfl) ?_
    · rintro i ⟨xt, xs, xb⟩ v b₂ m₂ own₂ R₁ s E hia lb hv ⟨rfl, hml, a, us, hmp, hla, hva, hPl⟩ hR T
      obtain ⟨va, u1, u2, rfl, hvl⟩ := hv
      have tk : (items.take (i + 1)) = items.take i ++ [(xt, xs, xb)] := by rw [List.take_add_one, hia]; rfl
      rw [tk, List.foldl_append, List.foldl_cons, List.foldl_nil]
      generalize (items.take i).foldl (meantStep line) [0] = pl at hva hPl ⊢
      refine assign_list O.hand (isl_mono (lb.trans T.keep) hvl) rfl rfl fun h' le => ?_
      refine assignInOrder_cons (t := assign _ Γ.env) (wpAny_assign_Name (stores O (T.heap' le) (by walk_at "k") fun s' T => ?_))
      refine assignInOrder_cons (t := assign _ Γ.env) (wpAny_assign_Name (stores O T (by walk_at "k") fun s' T => ?_))
      refine assignInOrder_cons (t := assign _ Γ.env) (wpAny_assign_Name (stores O T (by walk_at "k") fun s' T => ?_))
      refine assignInOrder_nil ?_
      refine Xs.iff (Γ := Γ) (Tv.neNil O hla hva (by walk_at "loc") (by walk_at "u")) (fun hc => ?_) (fun hc => ?_) s' E T
      · have hne : pl ≠ [] := by simpa using hc
        obtain ⟨k, r, rfl⟩ : ∃ k r, pl = k :: r := by cases pl with | nil => exact absurd rfl hne | cons k r => exact ⟨k, r, rfl⟩
        have k0 := hPl.lo k (.head _)
        have k1 := hPl.hi k (.head _)
        have hP' := hPl.meant (x := (xt, xs, xb))
        refine Xs.asg O (P := fun b' v => ∃ D vs, v = .ref D ∧ b'.IsList D vs.toArray ∧ All2 (fun v k => IsI k v) vs (meantStep line (k :: r) (xt, xs, xb))) (Ei.ite (Tv.cmp cop_eqS (by walk_at "locS") Ev.str (by walk_at "u")) (fun ht => ?_) (fun ht => ?_)) (by walk_at "k") (by rw [e3]; walk_at "u") ?_
        · have ht' : xt = "*" := of_decide_eq_true ht
          cases hva with
          | cons hv0 hvr =>
            refine (Ei.listRange O (by walk_at "bui") (range_2 (a := k) (c := (line.length : Int) + 1) (by walk_at "bui") (Ev.mono (Ev.itemL hla (by walk_at "loc") Ev.int (by decide) (by decide) rfl (fun _ => by walk_at "u") (fun _ => by walk_at "u")) fun v hv => ?_)
              (Ev.bin bop_addI (Ev.call1 (by walk_at "bui") (.bui "len") (by walk_at "locS") fun x hx => cev_lenS (by omega) hx) Ev.int)) (small_one (by omega) (by omega) (by omega) (by omega)) (rangeSize_nat _ _) (by omega)).mono fun b' v _ hv => ?_
            · rw [show v = _ from hv]; exact hv0
            · obtain ⟨vs, ⟨D, rfl, _, _, hD, _⟩, hvs⟩ := hv
              refine ⟨D, vs, rfl, hD, ?_⟩
              unfold meantStep
              rw [if_neg (by simp), if_pos ht']
              exact hvs
        · have ht' : ¬ xt = "*" := of_decide_eq_false ht
          refine (Ei.ofCallE (by walk_at "top") (.dfn 79 _ _ ((S.gr.trans (l₁.trans lb)) _ _ h79) rfl) (ArgsE.cons (by walk_at "locS") (ArgsE.cons (by walk_at "loc") (ArgsE.cons (by walk_at "locS") (ArgsE.cons (P := IsB xb) (by walk_at "loc") ArgsE.nil)))) (R := fun b' v => ∃ ys, NewL b₂ b' ys v ∧ All2 (fun v k => IsI k v) ys (stepF line (k :: r) xs xb)) (fun vs' hvs => ?_)).mono fun b' v _ hv => ?_
          · obtain ⟨_, _, rfl, ⟨tl, rfl⟩, _, _, rfl, hq, _, _, rfl, ⟨t2, rfl⟩, _, _, rfl, hq2, rfl⟩ := hvs
            rw [show _ = _ from hq, show _ = _ from hq2]
            refine cal_new fun s E T => law_step_spec (T.cs O hd1 hu1) (W'.mono (T.gr.trans T.keep)) (isl_mono T.keep hla) hva hPl.lo (by omega) ?_
            have := hPl.len
            have : sizeLine = 2 ^ 24 := by rw [sizeLine_eq]
            omega
          · obtain ⟨vs, ⟨D, rfl, _, _, hD, _⟩, hvs⟩ := hv
            refine ⟨D, vs, rfl, hD, ?_⟩
            unfold meantStep
            rw [if_neg (by simp), if_neg ht']
            exact hvs
        · rintro b₃ v l₃ ⟨D, vs, rfl, hD, hvs⟩
          exact Xs.on (Xs.nil fun s T => ⟨rfl, b₃, _, [], l₃, ⟨rfl, (by walk_at "m"), D, vs, (by walk_at "m"), hD, hvs, hP'⟩, T⟩)
      · have he : pl = [] := by simpa using hc
        subst he
        exact Xs.on (Xs.nil fun s T => ⟨rfl, b₂, _, [], Le.refl _, ⟨rfl, (by walk_at "m"), a, us, (by walk_at "m"), hla, hva, hPl⟩, T⟩)
    · rintro b₂ m₂ own₂ l₂ ⟨rfl, hml, a, us, hmp, hla, hva, hPl⟩
      rw [List.take_length] at hva
      refine Xs.ret (Ev.ei (P := fun _ v => IsB (meantF items line) v) (Ev.inInts hla hva (Ev.call1 (by walk_at "bui") (.bui "len") (Ev.locS O ⟨_, hml⟩ (by walk_at "k") (by decide)) fun x hx => cev_lenS (by omega) hx) (by walk_at "loc") (by walk_at "u"))) fun b' v s' _ hv T => ⟨fxLeave T C.dr C.os e5, hv⟩
end Mine
end

section
open PySem PySem.W PySem.Calls PySem.Spec PyProof.Rows
set_option linter.unusedVariables false
namespace Mine
set_option maxRecDepth 100000
local macro_rules | `(tactic| walk_at "m") => `(tactic| ((repeat (rw [upd_ne (by decide)])); first | exact upd_eq _ _ _ | assumption))
local macro_rules | `(tactic| walk_at "k") => `(tactic| exact kd (by assumption) (by kernel_rfl))
local macro_rules | `(tactic| walk_at "loc") => `(tactic| exact Ev.loc (by assumption) (by walk_at "m") (by walk_at "k") (by decide))
local macro_rules | `(tactic| walk_at "locS") => `(tactic| exact Ev.locS (by assumption) ⟨_, (by walk_at "m")⟩ (by walk_at "k") (by decide))
local macro_rules | `(tactic| walk_at "bui") => `(tactic| exact Ev.boot (by assumption) (by assumption) (by kernel_rfl) (by kernel_rfl) (by decide) (by walk_at "k") (by decide))
local macro_rules | `(tactic| walk_at "top") => `(tactic| exact Ev.top (by assumption) (by assumption) (by kernel_rfl) (by walk_at "k") (by decide))
local macro_rules | `(tactic| walk_at "u") => `(tactic| with_unfolding_all rfl)
local macro_rules | `(tactic| walk_at "kc") => `(tactic| exact kdc (by assumption) (by kernel_rfl))
local macro_rules | `(tactic| walk_at "buic") => `(tactic| exact Ev.boot (by assumption) (by assumption) (by kernel_rfl) (by kernel_rfl) (by decide) (by walk_at "kc") (by decide))

def lackF (one two : List Str) : List Str := ((rangeL ((one.length : Int) - 1) (-1) one.length).filter fun (k : Int) => decide ((two.count (one.getD k.toNat default) : Int) < (((one.drop k.toNat).count (one.getD k.toNat default) : Nat) : Int))).map fun (k : Int) => one.getD k.toNat default
def leftF (one two : List Str) : List Str := ((rangeL 0 1 two.length).filter fun (k : Int) => decide ((one.count (two.getD k.toNat default) : Int) < (((two.take (k.toNat + 1)).count (two.getD k.toNat default) : Nat) : Int))).map fun (k : Int) => two.getD k.toNat default
theorem all2_take {α β : Type} {R : α → β → Prop} : ∀ {n : Nat} {l₁ : List α} {l₂ : List β}, All2 R l₁ l₂ → All2 R (l₁.take n) (l₂.take n)
  | 0, _, _, _ => by simpa using .nil
  | n + 1, _, _, .nil => by simpa using .nil
  | n + 1, _, _, .cons h t => by simpa using .cons h (all2_take t)
theorem all2_drop {α β : Type} {R : α → β → Prop} : ∀ {n : Nat} {l₁ : List α} {l₂ : List β}, All2 R l₁ l₂ → All2 R (l₁.drop n) (l₂.drop n)
  | 0, _, _, h => by simpa using h
  | n + 1, _, _, .nil => by simpa using .nil
  | n + 1, _, _, .cons h t => by simpa using (all2_drop t)
theorem plB {Γ : Fx Prg} {b : Heap} {m : Str → Option Value} {own : List (Addr × Obj)} {s s₁ : Shared} (S : Γ.S b m own s₁) (e5 : Γ.g = hideAll s.heap [57]) (t : Tab s.heap) {l : Addr} {vs : Array Value} (h : s.heap.PlainList l vs) : b.PlainList l vs := by
  have n := isl57 t h.isList
  obtain ⟨o, e⟩ := h
  exact ⟨o, S.gr _ _ (e5 ▸ gget e n)⟩
theorem plMono {b b' : Heap} {D : Addr} {ys : Array Value} (l : Le b b') (h : b.PlainList D ys) : b'.PlainList D ys := let ⟨n, e⟩ := h; ⟨n, l _ _ e⟩
section
variable {Γ : Fx Prg} {b : Heap} {m : Str → Option Value} {own : List (Addr × Obj)}
/-- an item of a list of texts -/
theorem Ev.itemT {value slice : Expr} {pos} {a : Addr} {vs : List Value} {xs : List Str} {i : Int} (hl : b.IsList a vs.toArray) (hx : All2 (fun v x => IsS x v) vs xs) (hv : Ev Γ b m own value (IsV (.ref a))) (hi : Ev Γ b m own slice (IsI i)) (h0 : 0 ≤ i) (hlt : i < xs.length) (hn : xs.length ≤ 2 ^ 24)
    (hs : ∀ u, subscripted slice false (.ref a) (.int i u) = operate [.ref a, .int i u] (getItem (.ref a) (.int i u))) (ht : ∀ r, letTemporaryGo value (.ref a) r = pure ()) : Ev Γ b m own (.Subscript value slice pos) (IsS (xs.getD i.toNat default)) := by
  have h1 : i.toNat < xs.length := by omega
  obtain ⟨v, e, hv'⟩ := hx.get (i := i.toNat) (y := xs.getD i.toNat default) (by rw [List.getD_eq_getElem?_getD, List.getElem?_eq_getElem h1]; rfl)
  refine (Ev.itemL hl hv hi h0 (by omega) (x := v) (by simpa using e) hs ht).mono fun u hu => ?_
  rw [show u = v from hu]; exact hv'
end
section
variable {Γ : Fx Prg} {b : Heap} {m : Str → Option Value} {own : List (Addr × Obj)}
/-- xs.count(x) of a name's list; of a slice -/
theorem Ev.countN {o e : Expr} {apos pos : Pos} {a : Addr} {vs : List Value} {xs : List Str} {x : Str} (hl : b.PlainList a vs.toArray) (hx : All2 (fun v x => IsS x v) vs xs) (ho : Ev Γ b m own o (IsV (.ref a))) (he : Ev Γ b m own e (IsS x))
    (hbase : attributeBase o "count" Γ.env (eval o Γ.env) = eval o Γ.env) (hfew : ((backTo pos (starEach [e] Γ.env)).all (fun x => !x.1) && (backToKw pos (keywordEach [] Γ.env)).all (fun x => x.1.isSome) && decide ([e].length + ([] : List Keyword).length + (if ([] : List Keyword).isEmpty then 0 else 1) < 30)) = true)
    (hline : (apos.endLine == pos.line) = true) (hs : starEach [e] Γ.env = (false, eval e Γ.env) :: starEach [] Γ.env := by rfl) : Ev Γ b m own (.Call (.Attribute o "count" apos) [e] [] pos) (IsI (xs.count x)) := by
  refine Ei.toEv (Ei.meth (Po := fun b' v => b' = b ∧ v = .ref a) F.plainAttrs_list F.slot_list_count F.type_list_count (fun s E T => ho.use T fun v s' hv T' => ⟨b, Le.refl _, ⟨rfl, hv⟩, T'⟩) (fun b' ov h => by obtain ⟨rfl, rfl⟩ := h; exact recv_list hl)
    (fun b₁ ov l h => ?_) hbase hfew hline hs rfl)
  obtain ⟨rfl, rfl⟩ := h
  refine ⟨_, ArgsE.cons he ArgsE.nil hs, fun vs' hvs => ?_⟩
  obtain ⟨v, _, rfl, hv, rfl⟩ := hvs
  exact (cev_countS hl.isList hx hv).cal
theorem Ev.countT {o e : Expr} {apos pos : Pos} {vs : List Value} {xs : List Str} {x : Str} (hx : All2 (fun v x => IsS x v) vs xs) (ho : Ei Γ b m own o (fun b' v => NewL b b' vs v)) (he : ∀ b', Le b b' → Ev Γ b' m own e (IsS x))
    (hbase : attributeBase o "count" Γ.env (eval o Γ.env) = eval o Γ.env) (hfew : ((backTo pos (starEach [e] Γ.env)).all (fun x => !x.1) && (backToKw pos (keywordEach [] Γ.env)).all (fun x => x.1.isSome) && decide ([e].length + ([] : List Keyword).length + (if ([] : List Keyword).isEmpty then 0 else 1) < 30)) = true)
    (hline : (apos.endLine == pos.line) = true) (hs : starEach [e] Γ.env = (false, eval e Γ.env) :: starEach [] Γ.env := by rfl) : Ev Γ b m own (.Call (.Attribute o "count" apos) [e] [] pos) (IsI (xs.count x)) := by
  refine Ei.toEv (Ei.meth (Po := fun b' v => NewL b b' vs v) F.plainAttrs_list F.slot_list_count F.type_list_count ho (fun b' ov h => by obtain ⟨D, rfl, _, _, _, hp⟩ := h; exact recv_list hp)
    (fun b₁ ov l h => ?_) hbase hfew hline hs rfl)
  obtain ⟨D, rfl, _, _, hl, hp⟩ := h
  refine ⟨_, ArgsE.cons (he b₁ l) ArgsE.nil hs, fun vs' hvs => ?_⟩
  obtain ⟨v, _, rfl, hv, rfl⟩ := hvs
  exact (cev_countS hl hx hv).cal
end
theorem law_net_spec {w : World} {mg mb : Str → Option Value} {dr : Dn} {os : OsState} {A : Around} {s : Shared} {E : Value → Shared → Prop} (C : Cs dr os A 0 s) (W : Wd w mg mb s.heap) {l1 l2 : Addr} {v1 v2 : List Value} {one two : List Str}
    (hp1 : s.heap.PlainList l1 v1.toArray) (hi1 : All2 (fun v x => IsS x v) v1 one) (hp2 : s.heap.PlainList l2 v2.toArray) (hi2 : All2 (fun v x => IsS x v) v2 two) (hn1 : one.length ≤ 1000) (hn2 : two.length ≤ 1000) :
    wpAny (model Prg w) A (call (.ref 96) [.ref l1, .ref l2]) (fun r s' => Pur s s' ∧ ∃ D D1 D2 y1 y2, r = .ref D ∧ s.heap.get? D = none ∧ s.heap.get? D1 = none ∧ s.heap.get? D2 = none ∧ s'.heap.PlainList D #[.ref D1, .ref D2] ∧ s'.heap.PlainList D1 y1.toArray ∧ s'.heap.PlainList D2 y2.toArray ∧
      All2 (fun v x => IsS x v) y1 (lackF one two) ∧ All2 (fun v x => IsS x v) y2 (leftF one two)) E s := by
  refine enter (fd := fdAt w 96) C (W.X 96 _ rfl) (by kernel_rfl) (codeRec_of W.X (by kernel_rfl)) W.lim rfl (binds := [("one", .ref l1), ("two", .ref l2)]) (by kernel_rfl) rfl (by kernel_rfl) rfl rfl rfl rfl rfl ?_
  intro L b s₁ Γ e2 e3 e4 e5 e6 e7 e8 O hL S hc hn
  have W' : Wd w mg mb Γ.g := e5 ▸ W.hide
  subst e2 e6 e7
  have h1 : ∃ o, b.get? (L + 1) = .some o ∧ o.data = .cell (.some (.ref l1)) := hc "one" (L + 1) (by kernel_rfl)
  have h2 : ∃ o, b.get? (L + 1 + 1) = .some o ∧ o.data = .cell (.some (.ref l2)) := hc "two" (L + 1 + 1) (by kernel_rfl)
  have hb1 := plB S e5 C.tab hp1
  have hb2 := plB S e5 C.tab hp2
  generalize bindL (envF Γ.w 96 L).kindOf [("one", .ref l1), ("two", .ref l2)] (fun _ => none) = m at S
  have len1 := hi1.length
  have len2 := hi2.length
  have hsl : sizeLine = 2 ^ 24 := by rw [sizeLine_eq]
  refine Xs.asgComp (Γ := Γ) (own := []) (m := m) O (cl := [("two", L + 1 + 1), ("one", L + 1)]) (as := rangeL ((one.length : Int) - 1) (-1) one.length) (fun (k : Int) => decide ((two.count (one.getD k.toNat default) : Int) < (((one.drop k.toNat).count (one.getD k.toNat default) : Nat) : Int))) (fun (k : Int) => one.getD k.toNat default) (fun v k => IsI k v) (fun _ v x => IsS x v)
    (iter_range (range_3 (a := (one.length : Int) - 1) (c := -1) (d := -1) (by decide) (by decide) (by walk_at "bui") (Ev.bin bop_subI (Ev.call1 (by walk_at "bui") (.bui "len") (Ev.cell O h1 (by rw [e3]; kernel_rfl) (by walk_at "k") (by decide)) fun x hx => by rw [show x = _ from hx]; rw [← len1]; exact cev_lenL hb1.isList (by simp; omega)) Ev.int) (Ev.neg Ev.int) (Ev.neg Ev.int)) (small_down (by omega) (by omega) (by omega) (by omega)) (by rw [rangeSize_downNat]; omega))
    (CTurn.name1 O rfl (by kernel_rfl) ?_) (by walk_at "k") (by rw [e3]; walk_at "u") (by rw [e3]; walk_at "u") (fun _ _ _ _ _ h => h) (by decide) rfl (by simp [rangeL]; omega) (by decide) (fun _ => rfl) ?_ s₁ _ S
  · intro C' b₁ own₁ m₁ k v hk lb ho hv hm O'
    obtain ⟨tv, rfl⟩ := hv
    have k01 : 0 ≤ k ∧ k < one.length := by
      obtain ⟨j, hj, rfl⟩ := List.mem_map.mp hk
      have := List.mem_range.mp hj
      omega
    obtain ⟨a, rfl⟩ : ∃ a : Nat, k = a := ⟨k.toNat, by omega⟩
    have ha : a < one.length := by omega
    have up : ∀ {b' c v}, Le b b' → (∃ o, b.get? c = .some o ∧ o.data = .cell (.some v)) → ∃ o, b'.get? c = .some o ∧ o.data = .cell (.some v) := fun l ⟨o, e, r⟩ => ⟨o, l _ _ e, r⟩
    have eone : ∀ {b' pos}, Le b b' → Ev (Γ.comp _ [("two", L + 1 + 1), ("one", L + 1)] C') b' m₁ own₁ (.Name "one" pos) (IsV (.ref l1)) := fun l => Ev.cell O' (up l h1) (by kernel_rfl) (by walk_at "kc") (by decide)
    have etwo : ∀ {b' pos}, Le b b' → Ev (Γ.comp _ [("two", L + 1 + 1), ("one", L + 1)] C') b' m₁ own₁ (.Name "two" pos) (IsV (.ref l2)) := fun l => Ev.cell O' (up l h2) (by kernel_rfl) (by walk_at "kc") (by decide)
    have ek : ∀ {b' pos}, Ev (Γ.comp _ [("two", L + 1 + 1), ("one", L + 1)] C') b' m₁ own₁ (.Name "k" pos) (IsI a) := Ev.locI O' ⟨_, hm⟩ (by walk_at "kc") (by decide)
    have ei : ∀ {b' pos p1 p2}, Le b b' → Ev (Γ.comp _ [("two", L + 1 + 1), ("one", L + 1)] C') b' m₁ own₁ (.Subscript (.Name "one" p1) (.Name "k" p2) pos) (IsS (one.getD (a : Int).toNat default)) := fun l =>
      Ev.itemT (isl_mono l hb1.isList) hi1 (eone l) ek (by omega) k01.2 (by omega) (fun _ => by walk_at "u") (fun _ => by walk_at "u")
    refine ⟨Tv.cmp cop_gtI (Ev.countT (vs := v1.drop a) (xs := one.drop (a : Int).toNat) (by rw [Int.toNat_natCast]; exact all2_drop hi1) ?_ (fun b' l => ei (lb.trans l)) (by walk_at "u") (by rfl) (by rfl)) (Ev.countN (plMono lb hb2) hi2 (etwo lb) (ei lb) (by walk_at "u") (by rfl) (by rfl)) (by walk_at "u"), fun _ => Ev.ei (P := fun _ v => IsS (one.getD (a : Int).toNat default) v) (ei lb)⟩
    refine (Ei.slice (pl := some (a : Int)) (pu := none) (isl_mono lb hb1.isList) (eone lb) ek trivial (by omega) (fun _ _ => by walk_at "u")).mono fun b' v _ h => ?_
    rw [slicePick_from _ a (by simp; omega)] at h
    exact h
  · intro b₂ D1 y1 l2' n1 n2 hD1 hy1
    have lD1 : b₂.PlainList D1 y1.toArray := ⟨_, hD1⟩
    refine Xs.ret (P := fun b' v => ∃ D2 y2, (∃ D, v = .ref D ∧ b.get? D = none ∧ D ≠ 57 ∧ b'.PlainList D #[.ref D1, .ref D2]) ∧ b.get? D2 = none ∧ D2 ≠ 57 ∧ b'.PlainList D2 y2.toArray ∧ All2 (fun v x => IsS x v) y2 (leftF one two)) ?_ ?_
    · refine (Ei.list (PA := fun b' vs => ∃ D2 y2, vs = [.ref D1, .ref D2] ∧ b.get? D2 = none ∧ D2 ≠ 57 ∧ b'.PlainList D2 y2.toArray ∧ All2 (fun v x => IsS x v) y2 (leftF one two)) (Args.cons (P := fun _ v => v = .ref D1) (Ev.ei (P := fun _ v => v = .ref D1) (by walk_at "loc")) fun b₃ v l₃ hv => ?_) ?_ ?_).mono fun b' v lb h => ?_
      · subst hv
        have lb3 := l2'.trans l₃
        refine Args.cons (P := fun b' r => ∃ D2 y2, r = .ref D2 ∧ b.get? D2 = none ∧ D2 ≠ 57 ∧ b'.PlainList D2 y2.toArray ∧ All2 (fun v x => IsS x v) y2 (leftF one two)) ((Ei.comp O (cl := [("two", L + 1 + 1), ("one", L + 1)]) (as := rangeL 0 1 two.length) (fun (k : Int) => decide ((one.count (two.getD k.toNat default) : Int) < (((two.take (k.toNat + 1)).count (two.getD k.toNat default) : Nat) : Int))) (fun (k : Int) => two.getD k.toNat default) (fun v k => IsI k v) (fun _ v x => IsS x v)
          (iter_range (range_1 (a := two.length) (by walk_at "bui") (Ev.call1 (by walk_at "bui") (.bui "len") (Ev.cell O (let ⟨o, e, r⟩ := h2; ⟨o, lb3 _ _ e, r⟩) (by rw [e3]; kernel_rfl) (by walk_at "k") (by decide)) fun x hx => by rw [show x = _ from hx, ← len2]; exact cev_lenL (isl_mono lb3 hb2.isList) (by simp; omega))) (small_one (by omega) (by omega) (by omega) (by omega)) (by rw [rangeSize_nat]; omega))
          (CTurn.name1 O rfl (by kernel_rfl) ?_) (by rw [e3]; walk_at "u") (fun _ _ _ _ _ h => h) (by decide) rfl (by simp [rangeL]; omega) (by decide) (fun _ => rfl)).mono fun b' v l h => ?_) fun b₄ v l₄ hv => Args.nil.mono fun b₅ vs l₅ h => ?_
        · intro C' b₁ own₁ m₁ k v hk lb ho hv hm O'
          obtain ⟨tv, rfl⟩ := hv
          have k01 : 0 ≤ k ∧ k < two.length := by
            obtain ⟨j, hj, rfl⟩ := List.mem_map.mp hk
            have := List.mem_range.mp hj
            omega
          obtain ⟨a, rfl⟩ : ∃ a : Nat, k = a := ⟨k.toNat, by omega⟩
          have ha : a < two.length := by omega
          have lb := lb3.trans lb
          have up : ∀ {b' c v}, Le b b' → (∃ o, b.get? c = .some o ∧ o.data = .cell (.some v)) → ∃ o, b'.get? c = .some o ∧ o.data = .cell (.some v) := fun l ⟨o, e, r⟩ => ⟨o, l _ _ e, r⟩
          have eone : ∀ {b' pos}, Le b b' → Ev (Γ.comp _ [("two", L + 1 + 1), ("one", L + 1)] C') b' m₁ own₁ (.Name "one" pos) (IsV (.ref l1)) := fun l => Ev.cell O' (up l h1) (by kernel_rfl) (by walk_at "kc") (by decide)
          have etwo : ∀ {b' pos}, Le b b' → Ev (Γ.comp _ [("two", L + 1 + 1), ("one", L + 1)] C') b' m₁ own₁ (.Name "two" pos) (IsV (.ref l2)) := fun l => Ev.cell O' (up l h2) (by kernel_rfl) (by walk_at "kc") (by decide)
          have ek : ∀ {b' pos}, Ev (Γ.comp _ [("two", L + 1 + 1), ("one", L + 1)] C') b' m₁ own₁ (.Name "k" pos) (IsI a) := Ev.locI O' ⟨_, hm⟩ (by walk_at "kc") (by decide)
          have ei : ∀ {b' pos p1 p2}, Le b b' → Ev (Γ.comp _ [("two", L + 1 + 1), ("one", L + 1)] C') b' m₁ own₁ (.Subscript (.Name "two" p1) (.Name "k" p2) pos) (IsS (two.getD (a : Int).toNat default)) := fun l =>
            Ev.itemT (isl_mono l hb2.isList) hi2 (etwo l) ek (by omega) k01.2 (by omega) (fun _ => by walk_at "u") (fun _ => by walk_at "u")
          refine ⟨Tv.cmp cop_gtI (Ev.countT (vs := v2.take (a + 1)) (xs := two.take ((a : Int).toNat + 1)) (by rw [Int.toNat_natCast]; exact all2_take hi2) ?_ (fun b' l => ei (lb.trans l)) (by walk_at "u") (by rfl) (by rfl)) (Ev.countN (plMono lb hb1) hi1 (eone lb) (ei lb) (by walk_at "u") (by rfl) (by rfl)) (by walk_at "u"), fun _ => Ev.ei (P := fun _ v => IsS (two.getD (a : Int).toNat default) v) (ei lb)⟩
          refine (Ei.slice (pl := none) (pu := some ((a : Int) + 1)) (isl_mono lb hb2.isList) (etwo lb) trivial (Ev.bin bop_addI ek Ev.int) (by omega) (fun _ _ => by walk_at "u")).mono fun b' v _ h => ?_
          have e : (a : Int) + 1 = ((a + 1 : Nat) : Int) := by omega
          rw [e, slicePick_upto _ (a + 1) (by simp; omega)] at h
          exact h
        · obtain ⟨D2, y2, rfl, m1, m2, hD2, hy2⟩ := h
          refine ⟨D2, y2, rfl, ?_, m2, ⟨_, hD2⟩, hy2⟩
          cases q : b.get? D2 with
          | none => rfl
          | some o => rw [lb3 _ _ q] at m1; cases m1
        · obtain ⟨rfl, rfl⟩ := h
          obtain ⟨D2, y2, rfl, m1, m2, hD2, hy2⟩ := hv
          exact ⟨D2, y2, rfl, m1, m2, hD2, hy2⟩
      · rintro b b' vs l ⟨D2, y2, e, m1, m2, hD2, hy2⟩
        exact ⟨D2, y2, e, m1, m2, plMono l hD2, hy2⟩
      · rintro b' vs ⟨D2, y2, rfl, _⟩
        show 2 ≤ sizeLine
        omega
      · obtain ⟨vs, ⟨D, rfl, m3, m4, _, hD⟩, D2, y2, rfl, m1, m2, hD2, hy2⟩ := h
        refine ⟨D2, y2, ⟨D, rfl, ?_, m4, hD⟩, m1, m2, hD2, hy2⟩
        cases q : b.get? D with
        | none => rfl
        | some o => rw [l2' _ _ q] at m3; cases m3
    · rintro b' v s' lb ⟨D2, y2, ⟨D, rfl, m3, m4, hD⟩, m1, m2, hD2, hy2⟩ T
      exact ⟨fxLeave T C.dr C.os e5, D, D1, D2, y1, y2, rfl, freshIn e5 ⟨_, _, _, S⟩ m3 m4, freshIn e5 ⟨_, _, _, S⟩ n1 n2, freshIn e5 ⟨_, _, _, S⟩ m1 m2, plMono T.keep hD, plMono T.keep (plMono lb lD1), plMono T.keep hD2, hy1, hy2⟩
end Mine
end

section
open PySem PySem.W PySem.Calls PySem.Spec PyProof.Rows
open PyProof.Rows.TI (Frs SameUp sameUp_of)
set_option linter.unusedVariables false
namespace Mine

theorem hide_sub {h : Heap} {as : List Addr} {a : Addr} (e : h.get? a = none) : (hideAll h as).get? a = none := by
  cases q : (hideAll h as).get? a with
  | none => rfl
  | some o => have := of_hideAll _ q; rw [e] at this; cases this
/-- a thing that stood is given to the frame -/
theorem St.give {g b : Heap} {L : Addr} {m : Str → Option Value} {own : List (Addr × Obj)} {dr : Dn} {os : OsState} {s : Shared} {a : Addr} {o : Obj} (T : St g b L m own dr os s) (hn : a ∉ L :: 57 :: own.map (·.1)) (ho : s.heap.get? a = some o) :
    St (hideAll g [a]) (hideAll b [a]) L m ((a, o) :: own) dr os s := by
  refine ⟨T.ns, fun c oc e => ?_, fun c oc e => T.keep _ _ (of_hideAll _ e), fun p hp => ?_, ?_, fun c hc => ?_, T.tab, T.dr, T.os, T.bare⟩
  · refine hideAll_get _ (T.gr _ _ (of_hideAll _ e)) fun q => ?_
    rw [hideAll_none _ q] at e; cases e
  · rcases List.mem_cons.mp hp with rfl | hp
    · exact ho
    · exact T.ow p hp
  · have nd := T.nd
    simp only [List.map_cons, List.nodup_cons, List.mem_cons, not_or] at hn nd ⊢
    exact ⟨⟨nd.1.1, Ne.symm hn.1, nd.1.2⟩, ⟨Ne.symm hn.2.1, nd.2.1⟩, hn.2.2, nd.2.2⟩
  · by_cases q : c = a
    · exact hideAll_none _ (by simp [q])
    · refine hide_sub (T.off c ?_)
      simp only [List.map_cons, List.mem_cons] at hc ⊢
      rcases hc with h | h | h | h
      · exact .inl h
      · exact .inr (.inl h)
      · exact absurd h q
      · exact .inr (.inr h)

/-- only slots of frames have changed -/
theorem St.slots {g b : Heap} {L : Addr} {m : Str → Option Value} {own frs : List (Addr × Obj)} {dr : Dn} {os : OsState} {s s' : Shared} {outer : List Env} (Fs : Frs outer frs) (T : St g b L m (frs ++ own) dr os s)
    (k : Heap.StaysIn (hideAll s.heap (L :: frs.map (·.1))) s'.heap) (u : s.heap.UpToSlots s'.heap) (hd : s'.drawn = s.drawn) (ho : s'.os = s.os) (hg : GB dr.2 s.gens → GB dr.2 s'.gens) : ∃ frs', SameUp frs frs' ∧ St g b L m (frs' ++ own) dr os s' := by
  obtain ⟨frs', su, hf'⟩ := sameUp_of (h' := s'.heap) (frs := frs) fun p hp => u p.1 p.2 (T.ow p (List.mem_append_left _ hp)) fun vs q => by
    obtain ⟨es, ep, hd⟩ := Fs.dict p hp
    rw [hd] at q; cases q
  have em : ∀ {l l' : List (Addr × Obj)}, SameUp l l' → l'.map (·.1) = l.map (·.1) := by
    intro l
    induction l with
    | nil => intro l' h; cases l' with
      | nil => rfl
      | cons _ _ => exact h.elim
    | cons p ps ih => intro l' h; cases l' with
      | nil => exact h.elim
      | cons q qs => obtain ⟨h1, _, h3⟩ := h; simp [h1, ih h3]
  have ea : (frs' ++ own).map (·.1) = (frs ++ own).map (·.1) := by rw [List.map_append, List.map_append, em su]
  have nd := T.nd
  have z : ∀ a o, a ∉ L :: frs.map (·.1) → s.heap.get? a = some o → s'.heap.get? a = some o := fun a o n e => k _ _ (hideAll_get _ e n)
  refine ⟨frs', su, u.ns T.ns, T.gr, fun a o e => z a o (fun q => ?_) (T.keep _ _ e), fun p hp => ?_, ea ▸ nd, ea ▸ T.off, ?_, hd.trans T.dr, ho.trans T.os, hg T.bare⟩
  · have : b.get? a = none := T.off a (by
      rcases List.mem_cons.mp q with rfl | q
      · exact .head _
      · refine .tail _ (.tail _ ?_); rw [List.map_append]; exact List.mem_append_left _ q)
    rw [e] at this; cases this
  · rcases List.mem_append.mp hp with hp | hp
    · exact hf' p hp
    · refine z _ _ (fun q => ?_) (T.ow p (List.mem_append_right _ hp))
      have nL := List.nodup_cons.mp nd
      have n57 := List.nodup_cons.mp nL.2
      rw [List.map_append] at nL n57
      rcases List.mem_cons.mp q with q | q
      · exact nL.1 (.tail _ (List.mem_append_right _ (q ▸ List.mem_map_of_mem (f := fun x : Addr × Obj => x.1) hp)))
      · exact (List.nodup_append.mp n57.2).2.2 _ q _ (List.mem_map_of_mem hp) rfl
  · obtain ⟨ps, e, t⟩ := T.tab
    refine ⟨ps, z _ _ (fun q => ?_) e, t⟩
    have nL := List.nodup_cons.mp nd
    have n57 := List.nodup_cons.mp nL.2
    rw [List.map_append] at nL n57
    rcases List.mem_cons.mp q with q | q
    · exact nL.1 (q ▸ .head _)
    · exact n57.1 (List.mem_append_left _ q)
theorem SameUp.addrs : ∀ {l l' : List (Addr × Obj)}, SameUp l l' → l'.map (·.1) = l.map (·.1) := by
  intro l
  induction l with
  | nil => intro l' h; cases l' with
    | nil => rfl
    | cons _ _ => exact h.elim
  | cons p ps ih => intro l' h; cases l' with
    | nil => exact h.elim
    | cons q qs => obtain ⟨h1, _, h3⟩ := h; simp [h1, ih h3]

theorem notedLanded {M : Model} {A : Around} {E : Value → Shared → Prop} {s s' : Shared} {env : Env} {outer : List Env} {L e : Addr} {X : String} {Q : Unit → Shared → Prop} {base : Heap}
    (hfr : A.frames = some (env :: outer)) (hl : s'.heap.FunFrames base (env :: outer)) (hf : env.frame = some L) (hb : base.StaysIn s.heap) (hx : Heap.NewExc s.heap s'.heap e X)
    (k : ∀ h' t, Heap.FlyingW base (env :: outer) e (.type X) t h' → s'.heap.UpToSlots h' → Q () { s' with heap := h' }) :
    wpAny M A (noteFrame (.ref e) env) (fun _ s₂ => wpAny M A (setFlight (.ref e) none) Q E s₂) E s' := by
  obtain ⟨ob, tp, he, hcls, hd⟩ := hx.there
  have hen : base.get? e = none := by
    cases q : base.get? e with
    | none => rfl
    | some o => have := hb _ _ q; rw [hx.new] at this; cases this
  unfold noteFrame
  simp only [hf]
  refine wpAny_bind (wpAny_field he hd (x := .none) rfl ?_)
  rw [if_neg (by decide)]
  refine wpAny_entryW (a0 := tp) hfr hl hf he (fun b o eb => hx.keeps b o (hb _ _ eb)) hen hd (by show 1 < 6; decide) rfl fun h' hN => ?_
  obtain ⟨k1, k2, k3, k4⟩ := hN
  rw [hcls] at k3
  exact wpAny_landsW ⟨k1, hen, k2, k3⟩ fun h'' hF hu => k h'' tp hF (Heap.UpToSlots.trans k4 hu)

section
variable {Γ : Fx Prg} {b : Heap} {m : Str → Option Value} {own frs : List (Addr × Obj)} {w : World} {mg mb : Str → Option Value}
/-- a builtin's fault, caught where it was raised -/
theorem catchHere (O : Γ.Ok) (W : Wd w mg mb Γ.g) {outer : List Env} (hfr : Γ.A.frames = some (Γ.env :: outer)) (hF : Γ.env.frame = some Γ.L) (Fs : Frs outer frs) {s s' : Shared} {e : Addr} {X T' : String} {x : Str} {np pos : Pos} {b₀ : Stmt} {suite : List Stmt} {rest : List ExceptHandler}
    {Q : Flow → Shared → Prop} {E : Value → Shared → Prop} (T : Γ.S b m (frs ++ own) s) (hx : Heap.NewExc s.heap s'.heap e X) (hs' : ∃ h tk, s' = { s with heap := h, toks := tk })
    (hexc : isSubtype (.type T') (.type "BaseException") = pure true) (hnt : isSubtype (.type ((Manifest.find? T').elim "type" fun y => y.metatype)) (.type "tuple") = pure false) (hsub : isSubtype (.type X) (.type T') = pure true)
    (hm : nsIn (KK w) mainGlobals x = some none) (hb : bootBuiltins x = some (.type T')) (n : x ≠ "__name__") (hk : Γ.env.kindOf x = some .globalImplicit) (hd : (x == ("__debug__" : Str)) = false)
    (k : ∀ s'' frs' E, SameUp frs frs' → Γ.S b m (frs' ++ own) s'' → wpAny Γ.M (Γ.A.mark (some (.ref e))) (execs (b₀ :: suite) Γ.env) Q E s'') :
    wpAny Γ.M Γ.A (noteFrame (.ref e) Γ.env) (fun _ s₂ => wpAny Γ.M Γ.A (setFlight (.ref e) none) (fun _ s₃ =>
      wpAny Γ.M Γ.A (handleBy (.ref e) Γ.env (.ExceptHandler (some (.Name x np)) none (b₀ :: suite) pos :: rest)) Q E s₃) E s₂) E s' := by
  obtain ⟨hh, tk, rfl⟩ := hs'
  have hB : Heap.StaysIn (hideAll s.heap (Γ.L :: frs.map (·.1))) s.heap := fun b o q => of_hideAll _ q
  have hff : Heap.FunFrames hh (hideAll s.heap (Γ.L :: frs.map (·.1))) (Γ.env :: outer) := by
    refine .cons (L := Γ.L) (m := m) (by rw [O.kind]; decide) hF (T.ns.keeps hx.keeps) (hideAll_none _ (.head _)) (Fs.fun fun p hp => ⟨hx.keeps _ _ (T.ow p (List.mem_append_left _ hp)), hideAll_none _ (.tail _ (List.mem_map_of_mem hp))⟩)
  have u0 : s.heap.UpToSlots hh := Heap.UpToSlots.of_keeps hx.keeps
  refine notedLanded (s := s) hfr hff hF hB hx fun h₁ t₁ f₁ u₁ => ?_
  obtain ⟨frs₁, su₁, T₁⟩ := St.slots (s' := { s with heap := h₁, toks := tk }) Fs T f₁.1 (u0.trans u₁) rfl rfl id
  refine wpAny_handleBy_builtin (X := X) (T := T') (b := true) hexc hnt hsub ?_
  refine Name_function_global O.kind hk (hd := hd) (loadGlobal_builtin (by rw [O.glob]; exact W.G.keeps (T₁.gr.trans T₁.keep)) (W.mn hm) (by rw [O.bui]; exact W.B.keeps (T₁.gr.trans T₁.keep)) (W.mb hb n) ?_)
  refine ⟨rfl, f₁.there, ?_⟩
  rw [if_pos rfl]
  refine lands_againW f₁ fun h₂ f₂ u₂ => ?_
  obtain ⟨frs₂, su₂, T₂⟩ := St.slots (s' := { s with heap := h₂, toks := tk }) Fs T f₂.1 ((u0.trans u₁).trans u₂) rfl rfl id
  exact k _ frs₂ _ su₂ T₂
end
end Mine
end

section
open PySem PySem.W PySem.Calls PySem.Spec PyProof.Rows
open PyProof.Rows.TI (Frs SameUp sameUp_of)
set_option linter.unusedVariables false
namespace Mine
abbrev lsN (ys : List Value) (n : Nat) : Obj := { cls := .type "list", data := .seq ys.toArray n }
theorem St.perm {g b : Heap} {L : Addr} {m : Str → Option Value} {own own' : List (Addr × Obj)} {dr : Dn} {os : OsState} {s : Shared} (T : St g b L m own dr os s) (h : own.Perm own') : St g b L m own' dr os s :=
  ⟨T.ns, T.gr, T.keep, fun p hp => T.ow p (h.mem_iff.mpr hp), ((h.map (·.1)).cons _ |>.cons _).nodup_iff.mp T.nd, fun a ha => T.off a (((h.map (·.1)).cons _ |>.cons _).mem_iff.mpr ha), T.tab, T.dr, T.os, T.bare⟩
section
variable {prog : Program} {Γ : Fx prog} {b : Heap} {m : Str → Option Value} {own : List (Addr × Obj)}
theorem Ev.locK {x : Str} {pos} {v : Value} (hk : Γ.env.scope.kind = .function) (hl : Γ.env.locals = Γ.L) (hv : m x = some v) (hx : Γ.env.kindOf x = some .local) (hd : (x == ("__debug__" : Str)) = false) : Ev Γ b m own (.Name x pos) (IsV v) :=
  fun _ _ T => wpAny_Name (wpAny_loadName_local hk hx (by rw [hl]; exact T.ns) hv ⟨rfl, T⟩) hd
/-- a method of a list of the frame's own -/
theorem meth0 {o : Expr} {name : Str} {apos pos : Pos} {id : String} {a : Addr} {ys : List Value} {n : Nat} {Q : Value → Shared → Prop} {E : Value → Shared → Prop} {s : Shared} (slot : Slot "list" name id) (hty : typeOf (.builtin id) = pure (.type "method_descriptor"))
    (T : Γ.S b m own s) (ho : Ev Γ b m own o (IsV (.ref a))) (hin : (a, lsN ys n) ∈ own) (k : ∀ s', Γ.S b m own s' → wpAny Γ.M Γ.A (call (.builtin id) [.ref a]) Q E s')
    (hbase : attributeBase o name Γ.env (eval o Γ.env) = eval o Γ.env) (hline : (apos.endLine == pos.line) = true) : wpAny Γ.M Γ.A (eval (.Call (.Attribute o name apos) [] [] pos) Γ.env) Q E s :=
  wpAny_Call_method hbase rfl hline F.plainAttrs_list slot hty (ho.use T fun ov s₁ hv T₁ => by
    obtain rfl : ov = .ref a := hv
    exact ⟨⟨_, T₁.ow _ hin, rfl⟩, fun a' q => (by cases q; exact ⟨_, T₁.ow _ hin, rfl⟩), callWith_method0 (k s₁ T₁)⟩)
theorem meth1 {o e : Expr} {name : Str} {apos pos : Pos} {id : String} {a : Addr} {ys : List Value} {n : Nat} {P : Value → Prop} {Q : Value → Shared → Prop} {E : Value → Shared → Prop} {s : Shared} (slot : Slot "list" name id) (hty : typeOf (.builtin id) = pure (.type "method_descriptor"))
    (T : Γ.S b m own s) (ho : Ev Γ b m own o (IsV (.ref a))) (hin : (a, lsN ys n) ∈ own) (he : Ev Γ b m own e P) (k : ∀ s' v, P v → Γ.S b m own s' → wpAny Γ.M Γ.A (call (.builtin id) [.ref a, v]) Q E s')
    (hbase : attributeBase o name Γ.env (eval o Γ.env) = eval o Γ.env) (hfew : ((backTo pos (starEach [e] Γ.env)).all (fun x => !x.1) && (backToKw pos (keywordEach [] Γ.env)).all (fun x => x.1.isSome) && decide ([e].length + ([] : List Keyword).length + (if ([] : List Keyword).isEmpty then 0 else 1) < 30)) = true)
    (hline : (apos.endLine == pos.line) = true) (hs : starEach [e] Γ.env = (false, eval e Γ.env) :: starEach [] Γ.env := by rfl) : wpAny Γ.M Γ.A (eval (.Call (.Attribute o name apos) [e] [] pos) Γ.env) Q E s :=
  wpAny_Call_method hbase hfew hline F.plainAttrs_list slot hty (ho.use T fun ov s₁ hv T₁ => by
    obtain rfl : ov = .ref a := hv
    refine ⟨⟨_, T₁.ow _ hin, rfl⟩, fun a' q => (by cases q; exact ⟨_, T₁.ow _ hin, rfl⟩), callWith_method1 (spliced_more (he.use T₁ fun v s₂ hv T₂ => spliced_none (k s₂ v hv T₂)) hs) hs rfl⟩)
/-- a new empty list of the frame's own -/
theorem Xs.asgNil (O : Γ.Ok) {x : Str} {p lp pos} {rest} {Q : Flow → Shared → Prop} (hx : Γ.env.kindOf x = some .local) (hs : swapsWith (.List [] lp) (some (.Name x p)) pos.line Γ.env = pure false)
    (h : ∀ D, Xs Γ b (upd m x (.ref D)) ((D, lsN [] 0) :: own) rest Q) : Xs Γ b m own (.Assign [.Name x p] (.List [] lp) pos :: rest) Q := by
  intro s E T
  refine wpAny_execs_cons (wpAny_Assign_Name (List_ (spliced_none (wpAny_newObj_type ?_ (by show (0:Nat) ≤ sizeLine; exact Nat.zero_le _)))) hs)
  exact stores O (T.pushOwn (o := lsN [] 0) rfl) hx fun s' T' => h _ s' E T'
theorem wpWhile {test : Expr} {body : List Stmt} {pos : Pos} {rest : List Stmt} {Q : Flow → Shared → Prop} {E : Value → Shared → Prop} {s : Shared} (I : Nat → Shared → Prop) (J : Shared → Prop)
    (turn : ∀ n s E, I n s → wpAny Γ.M Γ.A (isTrue test Γ.env (eval test Γ.env)) (fun c s₂ => if c then wpAny Γ.M Γ.A (execs body Γ.env) (fun f s₃ => match f with | .next | .cont => ∃ m, m < n ∧ I m s₃ | .brk => J s₃ | .ret _ => False) E s₂ else J s₂) E s)
    (n : Nat) (h : I n s) (k : ∀ s', J s' → wpAny Γ.M Γ.A (execs rest Γ.env) Q E s') : wpAny Γ.M Γ.A (execs (.While test body [] pos :: rest) Γ.env) Q E s := by
  refine wpAny_execs_cons (wpAny_While (codeAny_whileLoop I (fun n s hI => ?_) n h))
  refine wpAny_mono (turn n s _ hI) (fun c s₂ hc => ?_) fun _ _ x => x
  cases c with
  | true =>
    rw [if_pos rfl] at hc ⊢
    refine wpAny_mono hc (fun f s₃ hf => ?_) fun _ _ x => x
    cases f with
    | next => exact hf
    | cont => exact hf
    | brk => exact k _ hf
    | ret v => exact hf.elim
  | false =>
    rw [if_neg Bool.false_ne_true] at hc ⊢
    exact wpAny_execs_nil (k _ hc)
/-- pop, append, remove -/
theorem pop_at {A : Around} {E : Value → Shared → Prop} {s : Shared} {a : Addr} {ys : List Value} {y : Value} {n : Nat} {Q : Value → Shared → Prop} (ho : s.heap.get? a = some (lsN (ys ++ [y]) n)) (hz : ys.length < sizeLine) 
    (h : ∀ h', Heap.SameBut a s.heap h' → h'.get? a = some (lsN ys (n + 1)) → Q y { s with heap := h' }) : wpAny Γ.M A (call (.builtin "list.pop") [.ref a]) Q E s := by
  have hk : (ys ++ [y]).toArray.size - 1 = ys.length := by rw [List.size_toArray, List.length_append]; rfl
  have hy : (ys ++ [y]).toArray[(ys ++ [y]).toArray.size - 1]? = some y := by rw [hk]; simp
  refine call_meets PySem.F.slot_list_pop ⟨_, ho, rfl⟩ PySem.F.entry_list_pop (PySem.F.args_list_pop_1 _) (PySem.MeetsSeq.list_pop_last a _ n y hy (by rw [List.size_toArray, List.length_append]; exact hz)) ⟨ho, h _ (Heap.SameBut.update ..) ?_⟩
  have q := PySem.IsL.update ho fun xs => xs.eraseIdxIfInBounds ((ys ++ [y]).toArray.size - 1)
  rw [hk, kl_erase, List.append_nil, if_neg (by simp)] at q
  rw [hk]; exact q
theorem remove_at {A : Around} {E : Value → Shared → Prop} {s : Shared} {a : Addr} {p q : List Value} {y v : Value} {xs : List Str} {x : Str} {n : Nat} {Q : Value → Shared → Prop} (ho : s.heap.get? a = some (lsN (p ++ y :: q) n)) (hv : IsS x v) (hy : IsS x y)
    (hp : All2 (fun v x => IsS x v) p xs) (hn : x ∉ xs) (hq : ∀ u ∈ q, ∃ z, IsS z u) (hz : (p ++ y :: q).length ≤ sizeLine)
    (h : ∀ h', Heap.SameBut a s.heap h' → h'.get? a = some (lsN (p ++ q) (n + 1)) → Q .none { s with heap := h' }) : wpAny Γ.M A (call (.builtin "list.remove") [.ref a, v]) Q E s := by
  obtain ⟨tv, rfl⟩ := hv
  let ef : Value → Bool := fun u => match u with | .str z _ => z == x | _ => false
  have hpm : ∀ u ∈ p, ∃ z, z ∈ xs ∧ IsS z u := by
    intro u hu
    obtain ⟨i, hi, rfl⟩ := List.mem_iff_getElem.mp hu
    obtain ⟨z, hz, r⟩ := hp.getL (i := i) (List.getElem?_eq_getElem hi)
    exact ⟨z, List.mem_of_getElem? hz, r⟩
  refine call_meets PySem.F.slot_list_remove ⟨_, ho, rfl⟩ PySem.F.entry_list_remove (PySem.F.args_list_remove_2 _ _)
    (MeetsSeq.list_remove a _ n (.str x tv) ef (fun u hu => ?_) p.length (by simp) ?_ (fun i hi hlt => ?_) (by rw [List.size_toArray]; exact hz)) ⟨ho, h _ (Heap.SameBut.update ..) ?_⟩
  · have hu' : u ∈ p ++ y :: q := by simpa using hu
    have : ∃ z, IsS z u := by
      rcases List.mem_append.mp hu' with hu | hu
      · obtain ⟨z, _, r⟩ := hpm u hu; exact ⟨z, r⟩
      · rcases List.mem_cons.mp hu with rfl | hu
        · exact ⟨x, hy⟩
        · exact hq u hu
    obtain ⟨z, t, rfl⟩ := this
    exact eqGives_str z x t tv
  · obtain ⟨t, rfl⟩ := hy
    simp [ef]
  · have hlt' : i < p.length := hlt
    have e : (p ++ y :: q).toArray[i] = p[i] := by simp [List.getElem_append_left hlt']
    rw [e]
    obtain ⟨z, hz, t, e'⟩ := hpm p[i] (List.getElem_mem hlt')
    rw [e']
    show (z == x) = false
    rw [beq_eq_false_iff_ne]
    rintro rfl
    exact hn hz
  · have r := PySem.IsL.update ho fun xs => xs.eraseIdxIfInBounds p.length
    rw [kl_erase, if_neg (by simp)] at r
    exact r
theorem remove_none_at {A : Around} {E : Value → Shared → Prop} {s : Shared} {a : Addr} {p : List Value} {v : Value} {xs : List Str} {x : Str} {n : Nat} {Q : Value → Shared → Prop} (hh : A.handled = none) (ho : s.heap.get? a = some (lsN p n)) (hv : IsS x v)
    (hp : All2 (fun v x => IsS x v) p xs) (hn : x ∉ xs) 
    (h : ∀ h' tk e, Heap.NewExc s.heap h' e "ValueError" → E (.ref e) { s with heap := h', toks := tk }) : wpAny Γ.M A (call (.builtin "list.remove") [.ref a, v]) Q E s := by
  obtain ⟨tv, rfl⟩ := hv
  let ef : Value → Bool := fun u => match u with | .str z _ => z == x | _ => false
  have hpm : ∀ u ∈ p, ∃ z, z ∈ xs ∧ IsS z u := by
    intro u hu
    obtain ⟨i, hi, rfl⟩ := List.mem_iff_getElem.mp hu
    obtain ⟨z, hz, r⟩ := hp.getL (i := i) (List.getElem?_eq_getElem hi)
    exact ⟨z, List.mem_of_getElem? hz, r⟩
  refine call_meets PySem.F.slot_list_remove ⟨_, ho, rfl⟩ PySem.F.entry_list_remove (PySem.F.args_list_remove_2 _ _)
    (MeetsSeq.list_remove_none a _ n (.str x tv) ef (fun u hu => ?_) (fun i hi => ?_)) ⟨ho, hh, fun h' tk e hx => h h' tk e hx⟩
  · have hu' : u ∈ p := by simpa using hu
    obtain ⟨z, _, t, rfl⟩ := hpm u hu'
    exact eqGives_str z x t tv
  · have hi' : i < p.length := by simpa using hi
    have e : p.toArray[i] = p[i] := by simp
    rw [e]
    obtain ⟨z, hz, t, e'⟩ := hpm p[i] (List.getElem_mem hi')
    rw [e']
    show (z == x) = false
    rw [beq_eq_false_iff_ne]
    rintro rfl
    exact hn hz
end
theorem St.gives {g b : Heap} {L : Addr} {m : Str → Option Value} {l : List (Addr × Obj)} {dr : Dn} {os : OsState} {s : Shared} (T : St g b L m [] dr os s) (nd : (L :: 57 :: l.map (·.1)).Nodup) (hs : ∀ p ∈ l, s.heap.get? p.1 = some p.2) :
    St (hideAll g (l.map (·.1))) (hideAll b (l.map (·.1))) L m l dr os s := by
  refine ⟨T.ns, fun c oc e => ?_, fun c oc e => T.keep _ _ (of_hideAll _ e), hs, nd, fun c hc => ?_, T.tab, T.dr, T.os, T.bare⟩
  · refine hideAll_get _ (T.gr _ _ (of_hideAll _ e)) fun q => ?_
    rw [hideAll_none _ q] at e; cases e
  · rcases List.mem_cons.mp hc with rfl | hc
    · exact hide_sub (T.off _ (.head _))
    · rcases List.mem_cons.mp hc with rfl | hc
      · exact hide_sub (T.off _ (.tail _ (.head _)))
      · exact hideAll_none _ hc
theorem enterH {prog : Program} {w : World} {A : Around} {s : Shared} {f : Addr} {o : Obj} {fd : FuncData} {body : List Stmt} {vals : List Value} {binds : List (Str × Value)} {dr : Dn} {os : OsState} {n : Nat} {Q : Value → Shared → Prop} {E : Value → Shared → Prop} (l : List (Addr × Obj))
    (C : Cs dr os A n s) (ho : s.heap.get? f = some o) (hd : o.data = .func fd) (hcd : s.heap.CodeRec fd.code fd.qualname) (hlim : s.heap.NoLimit) (hbody : fd.body = .stmts body) (hbind : bindArgs fd ⟨vals, []⟩ = pure binds) (hclo : fd.closure = [])
    (hkind : (binds.all fun y => fd.scope.names.lookup y.1 == some .local || fd.scope.names.lookup y.1 == some .cell) = true) (hg : fd.globals = mainGlobals) (hb : fd.builtins = builtinsNs)
    (hk : fd.scope.kind = .function) (hco : fd.scope.isCoroutine = false) (hgen : fd.scope.isGenerator = false) (hl : ∀ p ∈ l, s.heap.get? p.1 = some p.2) (nd : (57 :: l.map (·.1)).Nodup)
    (k : ∀ (L : Addr) (b : Heap) (s₁ : Shared) (Γ : Fx prog), Γ.w = w → Γ.env = callEnvC fd L f → Γ.L = L → Γ.g = hideAll (hideAll s.heap [57]) (l.map (·.1)) → Γ.dr = dr → Γ.os = os → Γ.A = A.deeper (callEnvC fd L f) → Γ.Ok → L = s.heap.objs.size →
      Γ.S b (bindL (callEnvC fd L f).kindOf binds fun _ => none) l s₁ → wpAny Γ.M Γ.A (execs body Γ.env) (fun fl s' => Q (match fl with | .ret v => v | _ => .none) s') (fun _ _ => False) s₁) :
    wpAny (model prog w) A (call (.ref f) vals) Q E s := by
  refine enter C ho hd hcd hlim hbody hbind hclo hkind hg hb hk hco hgen ?_
  intro L b s₁ Γ e2 e3 e4 e5 e6 e7 e8 O hL S hc hn
  have hs : ∀ p ∈ l, s₁.heap.get? p.1 = some p.2 := fun p hp => S.keep _ _ (S.gr _ _ (e5 ▸ gget (hl p hp) fun q => (List.nodup_cons.mp nd).1 (q ▸ List.mem_map_of_mem hp)))
  have ndL : (L :: 57 :: l.map (·.1)).Nodup := by
    refine List.nodup_cons.mpr ⟨fun q => ?_, nd⟩
    rcases List.mem_cons.mp q with q | q
    · obtain ⟨ps, et, _⟩ := C.tab
      have := Heap.lt_size et
      rw [hL] at q; exact absurd this (by rw [q]; exact Nat.lt_irrefl _)
    · obtain ⟨p, hp, e⟩ := List.mem_map.mp q
      have := Heap.lt_size (hl p hp)
      rw [e, hL] at this; exact Nat.lt_irrefl _ this
  subst e4
  exact k _ _ s₁ { Γ with g := hideAll Γ.g (l.map (·.1)) } e2 e3 rfl (by rw [← e5]) e6 e7 e8 ⟨O.kind, O.loc, O.glob, O.bui, O.hand, O.depth, O.units⟩ hL (S.gives ndL hs)
end Mine
end

section
open PySem PySem.W PySem.Calls PySem.Spec PyProof.Rows
set_option linter.unusedVariables false
namespace Mine
theorem bop_powI {i j : Int} (h0 : 0 ≤ j) (h1 : j ≤ 1000000) (hi : i.natAbs < 2 ^ 64) : Bop .Pow (IsI i) (IsI j) (IsI (i ^ j.toNat)) := by rintro _ _ _ _ _ _ _ _ ⟨t, rfl⟩ ⟨u, rfl⟩ k; exact pow_int_small h0 h1 hi (k _ _ ⟨_, rfl⟩)
/-- a thing of the frame's base becomes its own -/
theorem St.own {g b : Heap} {L : Addr} {m : Str → Option Value} {own : List (Addr × Obj)} {dr : Dn} {os : OsState} {s : Shared} {a : Addr} {o : Obj} (T : St g b L m own dr os s) (hb : b.get? a = some o) (hg : g.get? a = none) :
    St g (hideAll b [a]) L m ((a, o) :: own) dr os s := by
  have hn : a ∉ L :: 57 :: own.map (·.1) := fun q => by rw [T.off a q] at hb; cases hb
  refine ⟨T.ns, fun c oc e => hideAll_get _ (T.gr _ _ e) fun q => ?_, fun c oc e => T.keep _ _ (of_hideAll _ e), fun p hp => ?_, ?_, fun c hc => ?_, T.tab, T.dr, T.os, T.bare⟩
  · rw [List.mem_singleton.mp q, hg] at e; cases e
  · rcases List.mem_cons.mp hp with rfl | hp
    · exact T.keep _ _ hb
    · exact T.ow p hp
  · have nd := T.nd
    simp only [List.map_cons, List.nodup_cons, List.mem_cons, not_or] at hn nd ⊢
    exact ⟨⟨nd.1.1, Ne.symm hn.1, nd.1.2⟩, ⟨Ne.symm hn.2.1, nd.2.1⟩, hn.2.2, nd.2.2⟩
  · by_cases q : c = a
    · exact hideAll_none _ (by simp [q])
    · refine hide_sub (T.off c ?_)
      simp only [List.map_cons, List.mem_cons] at hc ⊢
      rcases hc with h | h | h | h
      · exact .inl h
      · exact .inr (.inl h)
      · exact absurd h q
      · exact .inr (.inr h)
section
variable {prog : Program} {Γ : Fx prog} {b : Heap} {m : Str → Option Value} {own : List (Addr × Obj)}
theorem storesCell (O : Γ.Ok) {x : Str} {c : Addr} {o : Obj} {v₀ : Option Value} {v : Value} {l1 l2 : List (Addr × Obj)} {s : Shared} {E : Value → Shared → Prop} {Q : Unit → Shared → Prop} (T : Γ.S b m (l1 ++ (c, o) :: l2) s) (ho : o.data = .cell v₀)
    (hx : Γ.env.kindOf x = some .cell) (hc : Γ.env.cells.lookup x = some c) (k : ∀ s' o', o'.data = .cell (some v) → Γ.S b m (l1 ++ (c, o') :: l2) s' → Q () s') : wpAny Γ.M Γ.A (storeName Γ.env x v) Q E s :=
  wpAny_storeName_cell O.kind hx hc ⟨o, T.ow (c, o) (by simp), ho⟩ fun h' ⟨o', e, d⟩ hs => k _ o' d (T.upd (tk := s.toks) hs e)
theorem Xs.asgCell (O : Γ.Ok) {x : Str} {e : Expr} {p pos} {rest} {c : Addr} {o : Obj} {v₀ : Option Value} {l1 l2 : List (Addr × Obj)} {P : Heap → Value → Prop} {Q : Flow → Shared → Prop} (he : Ei Γ b m (l1 ++ (c, o) :: l2) e P) (ho : o.data = .cell v₀)
    (hx : Γ.env.kindOf x = some .cell) (hc : Γ.env.cells.lookup x = some c) (hs : swapsWith e (some (.Name x p)) pos.line Γ.env = pure false)
    (h : ∀ b' v o', Le b b' → P b' v → o'.data = .cell (some v) → Xs Γ b' m (l1 ++ (c, o') :: l2) rest Q) : Xs Γ b m (l1 ++ (c, o) :: l2) (.Assign [.Name x p] e pos :: rest) Q :=
  fun s E T => wpAny_execs_cons (wpAny_Assign_Name (he.use T fun v s' b' l hp T' => storesCell O T' ho hx hc fun s'' o' d T'' => h b' v o' l hp d s'' E T'') hs)
/-- xs + ys -/
theorem Ei.addL {l r : Expr} {pos} {P : List Value → Heap → Prop} {a : Addr} {vs : List Value} (hl : Ev Γ b m own l (IsV (.ref a))) (hp : b.PlainList a vs.toArray) (hr : Ei Γ b m own r (fun b' v => ∃ ws, NewL b b' ws v ∧ P ws b' ∧ vs.length + ws.length ≤ sizeLine)) 
    (mono : ∀ ws b b', Le b b' → P ws b → P ws b') : Ei Γ b m own (.BinOp l .Add r pos) (fun b' v => ∃ ws, NewL b b' (vs ++ ws) v ∧ P ws b') := by
  intro s E T
  refine wpAny_BinOp (hl.use T fun x s₁ hx T₁ => hr.use T₁ fun y s₂ b' l hy T₂ => ?_)
  obtain rfl : x = .ref a := hx
  obtain ⟨ws, ⟨D, rfl, n1, n2, _, n3, hD⟩, p, hz⟩ := hy
  obtain ⟨n4, ha⟩ := hp
  refine PySem.P.add_list (T₂.keep _ _ (l _ _ ha)) (T₂.keep _ _ hD) ?_ (by rw [List.size_toArray, List.size_toArray]; exact hz)
  obtain ⟨b₂, l₂, m1, m2, e, T₃⟩ := pushFreeze T₂ (o := { cls := .type "list", data := .seq (vs.toArray ++ ws.toArray) }) rfl
  have ea : vs.toArray ++ ws.toArray = (vs ++ ws).toArray := by simp
  rw [ea] at e T₃ ⊢
  refine ⟨b₂, l.trans l₂, ⟨ws, ⟨_, rfl, ?_, m2, ⟨_, e, rfl, _, rfl⟩, ⟨_, e⟩⟩, mono _ _ _ l₂ p⟩, T₃⟩
  cases q : b.get? s₂.heap.objs.size with
  | none => rfl
  | some o => rw [l _ _ q] at m1; cases m1
/-- a list of lists that are each an item -/
theorem Ei.item {x y : Str} {c : Bool} {k1 k2 k3 p1 p2 p3 pos} : Ei Γ b m own (.List [.Constant (.str x) k1 p1, .Constant (.str y) k2 p2, .Constant (.bool c) k3 p3] pos) (fun b' v => ItemIs b' v (x, y, c)) := by
  refine (Ei.listE (PA := fun vs => ∃ t1 t2, vs = [.str x t1, .str y t2, .bool c]) ?_ (fun vs h => ?_)).mono fun b' v l h => ?_
  · intro s E pos T
    refine wpAny_mono (ArgsE.cons (Ev.str (x := x)) (ArgsE.cons (Ev.str (x := y)) (ArgsE.cons (Ev.bool (c := c)) ArgsE.nil (by rfl)) (by rfl)) (by rfl) s E pos T) (fun vs s' h => ⟨?_, h.2⟩) fun _ _ x => x
    obtain ⟨v1, _, rfl, ⟨t1, rfl⟩, v2, _, rfl, ⟨t2, rfl⟩, v3, _, rfl, h3, rfl⟩ := h.1
    exact ⟨t1, t2, by rw [show v3 = _ from h3]⟩
  · obtain ⟨t1, t2, rfl⟩ := h
    have := sizeLine_eq
    show 3 ≤ sizeLine; omega
  · obtain ⟨vs, ⟨D, rfl, _, _, hl, _⟩, t1, t2, rfl⟩ := h
    exact ⟨D, t1, t2, rfl, hl⟩
def ArgItems (Γ : Fx prog) (b : Heap) (m : Str → Option Value) (own : List (Addr × Obj)) (es : List Expr) (xs : List Item) : Prop := Args Γ b m own es (fun b' vs => All2 (fun v x => ItemIs b' v x) vs xs)
theorem ArgItems.nil : ArgItems Γ b m own [] [] := Args.nil.mono fun b' vs _ h => by obtain ⟨_, rfl⟩ := h; exact .nil
theorem starList {elts : List Expr} {pos : Pos} {es : List Expr} {env : Env} : starEach (.List elts pos :: es) env = (false, eval (.List elts pos) env) :: starEach es env := by rfl
theorem ArgItems.cons {x y : Str} {c : Bool} {k1 k2 k3 p1 p2 p3 pos} {es : List Expr} {xs : List Item} (h : ∀ b', Le b b' → ArgItems Γ b' m own es xs) :
    ArgItems Γ b m own (.List [.Constant (.str x) k1 p1, .Constant (.str y) k2 p2, .Constant (.bool c) k3 p3] pos :: es) ((x, y, c) :: xs) := by
  intro s E pos T
  refine spliced_more (Ei.item.use T fun v s' b' l hp T' => ?_) starList
  refine wpAny_mono (h b' l s' E pos T') (fun vs s'' hx => ?_) fun _ _ x => x
  obtain ⟨b'', l', r, T''⟩ := hx
  exact ⟨b'', l.trans l', .cons (hp.mono l') r, T''⟩
theorem Ei.items {es : List Expr} {pos} {xs : List Item} (h : ArgItems Γ b m own es xs) (hn : xs.length ≤ 100) : Ei Γ b m own (.List es pos) (fun b' v => ∃ vs, NewL b b' vs v ∧ All2 (fun v x => ItemIs b' v x) vs xs) :=
  Ei.list h (fun b b' vs l h => h.mono fun v x r => r.mono l) fun b' vs h => by have := h.length; have := sizeLine_eq; omega
theorem Xs.go {st : List Stmt} {Q : Flow → Shared → Prop} {s : Shared} {E : Value → Shared → Prop} (T : Γ.S b m own s) (h : Xs Γ b m own st Q) : wpAny Γ.M Γ.A (execs st Γ.env) Q E s := h s E T
end
end Mine
end

section
open PySem PySem.W PySem.Calls PySem.Spec PyProof.Rows
set_option linter.unusedVariables false
namespace Mine
section
variable {prog : Program} {Γ : Fx prog} {b : Heap} {m : Str → Option Value} {own : List (Addr × Obj)}
def PartIs (Γ : Fx prog) (b : Heap) (m : Str → Option Value) (own : List (Addr × Obj)) : Option Expr → Option Int → Prop
  | none, none => True
  | some e, some i => Ev Γ b m own e (IsI i)
  | _, _ => False
/-- x[i:j] of a text -/
theorem Ev.sliceS {value : Expr} {lo up : Option Expr} {p pos} {x : Str} {pl pu : Option Int} (hv : Ev Γ b m own value (IsS x)) (h1 : PartIs Γ b m own lo pl) (h2 : PartIs Γ b m own up pu) (hn : x.length ≤ 2 ^ 20) 
    (ht : ∀ o r, letTemporaryGo value o r = pure ()) : Ev Γ b m own (.Subscript value (.Slice lo up none p) pos) (IsS (StrLaws.sliceText x pl pu)) := by
  intro s E T
  have hz : x.length ≤ sizeLine := by rw [sizeLine_eq]; omega
  have kp : KeptByPush (fun s => Γ.S b m own s) := fun s ob k T => T.heap (Le.push _ _)
  refine Subscript_Slice (hv.use T fun v s₁ hv T₁ => ?_) ht
  obtain ⟨t, rfl⟩ := hv
  refine wpAny_Slice ?_
  cases lo with
  | none =>
    cases pl with
    | some i => exact h1.elim
    | none =>
      refine evalPart_none_step ?_
      cases up with
      | none =>
        cases pu with
        | some i => exact h2.elim
        | none => exact evalPart_none_step (evalPart_none_step (SBG.sliceItem_nn kp T₁ (fun s' t' T' => ⟨⟨t', rfl⟩, T'⟩) hz))
      | some e =>
        cases pu with
        | none => exact h2.elim
        | some j =>
          refine evalPart_some_step (Ev.use h2 T₁ fun v s₂ hv T₂ => ?_)
          obtain ⟨u, rfl⟩ := hv
          exact evalPart_none_step (SBG.sliceItem_ns kp T₂ (fun s' t' T' => ⟨⟨t', rfl⟩, T'⟩) hz)
  | some e₁ =>
    cases pl with
    | none => exact h1.elim
    | some i =>
      refine evalPart_some_step (Ev.use h1 T₁ fun v s₂ hv T₂ => ?_)
      obtain ⟨u, rfl⟩ := hv
      cases up with
      | none =>
        cases pu with
        | some i => exact h2.elim
        | none => exact evalPart_none_step (evalPart_none_step (SBG.sliceItem_sn kp T₂ (fun s' t' T' => ⟨⟨t', rfl⟩, T'⟩) hz))
      | some e =>
        cases pu with
        | none => exact h2.elim
        | some j =>
          refine evalPart_some_step (Ev.use h2 T₂ fun v s₃ hv T₃ => ?_)
          obtain ⟨u', rfl⟩ := hv
          exact evalPart_none_step (SBG.sliceItem_ss kp T₃ (fun s' t' T' => ⟨⟨t', rfl⟩, T'⟩) hz)
theorem strs_any {vs : List Value} {xs : List Str} {x : Str} (h : All2 (fun v x => IsS x v) vs xs) : (vs.any fun u => match u with | .str z _ => z == x | _ => false) = xs.contains x := by
  induction h with
  | nil => rfl
  | cons h _ ih =>
    obtain ⟨t, rfl⟩ := h
    rw [List.any_cons, ih, List.contains_cons]
    show (_ == x || _) = _
    rw [Bool.beq_comm]
/-- x in a tuple of texts, in a list of texts -/
theorem Ev.inTup {l r : Expr} {pos} {a : Addr} {vs : List Value} {xs : List Str} {x : Str} (hl : b.IsTuple a vs.toArray) (hi : All2 (fun v x => IsS x v) vs xs) (hk : Ev Γ b m own l (IsS x)) (he : Ev Γ b m own r (IsV (.ref a))) (hm : behindInMarks .In r = false) :
    Ev Γ b m own (.Compare l [.In] [r] pos) (IsB (xs.contains x)) := by
  intro s E T
  refine wpAny_Compare1 (hk.use T fun u s₁ hx T₁ => he.use T₁ fun v s₂ hv T₂ => ?_) hm
  obtain ⟨t, rfl⟩ := hx
  obtain rfl : v = .ref a := hv
  refine SeqAt.in_tupleAt (fun u => match u with | .str z _ => z == x | _ => false) (let ⟨o, e, q⟩ := hl; ⟨o, T₂.keep _ _ e, q⟩) (fun y hy => ?_) ⟨?_, T₂⟩
  · obtain ⟨i, hi', e⟩ := List.mem_iff_getElem.mp (by simpa using hy : y ∈ vs)
    obtain ⟨z, hz, tz, rfl⟩ := hi.getL (i := i) (x := y) (by rw [List.getElem?_eq_getElem hi', e])
    exact (eqGives_str z x tz t).at _ _
  · show Value.bool _ = Value.bool _
    rw [List.any_toArray' (h := rfl), strs_any hi]
end
end Mine
end

section
open PySem PySem.W PySem.Calls PySem.Spec PyProof.Rows
set_option linter.unusedVariables false
namespace Mine
section
variable {Γ : Fx Prg} {b : Heap} {m : Str → Option Value} {own : List (Addr × Obj)}
def tagOf (i : Int) : Option Str := if i = 1 then some "- " else if i = 2 then some "+ " else none
theorem tagDict {k1 k2 k3 k4 : Nat} {p1 p2 p3 p4 p5 pos : Pos} {slice : Expr} {i : Int} {s : Shared} {E : Value → Shared → Prop} {Q : Value → Shared → Prop} (hk : ∀ D o, Ev Γ b m ((D, o) :: own) slice (IsI i)) (T : Γ.S b m own s)
    (h : ∀ tag, tagOf i = some tag → ∀ v s', IsS tag v → Γ.S b m own s' → Q v s') (hE : tagOf i = none → ∀ s' h' e tk, Γ.S b m own s' → Heap.NewExc s'.heap h' e "KeyError" → E (.ref e) { s' with heap := h', toks := tk })
    (hh : tagOf i = none → Γ.A.handled = none) (hl : Γ.g.NoLimit)
    (hs : ∀ o v, subscripted slice false o v = operate [o, v] (getItem o v)) :
    wpAny Γ.M Γ.A (eval (.Subscript (.Dict [some (.Constant (.int 1) k1 p1), some (.Constant (.int 2) k2 p2)] [.Constant (.str "- ") k3 p3, .Constant (.str "+ ") k4 p4] p5) slice pos) Γ.env) Q E s := by
  have T0 := T.pushOwn (o := { cls := .type "dict", data := .dict #[] }) rfl
  have hsz : sysModules < s.heap.objs.size := by
    refine modules_low (?_ : s.heap.NoLimit)
    obtain ⟨mc, a, c⟩ := hl
    exact ⟨mc, a.keeps (T.gr.trans T.keep), c⟩
  have hnew := Heap.DictOf.new (knd := intKind Prg Γ.w) s.heap
  refine Subscript_ ?_
  refine wpAny_Dict_walk (knd := intKind Prg Γ.w) rfl rfl (by simp) (by show 2 ≤ 15; decide) ?_
  refine pairTrees_cons_walk ?_
  refine Ev.use (Γ := Γ) Ev.int T0 fun v1 s₁ h1 T₁ => ?_
  refine Ev.use (Γ := Γ) Ev.str T₁ fun v2 s₂ h2 T₂ => ?_
  refine pairTrees_cons_walk ?_
  refine Ev.use (Γ := Γ) Ev.int T₂ fun v3 s₃ h3 T₃ => ?_
  refine Ev.use (Γ := Γ) Ev.str T₃ fun v4 s₄ h4 T₄ => ?_
  refine pairTrees_nil_walk ?_
  obtain ⟨t1, rfl⟩ := h1
  obtain ⟨t2, rfl⟩ := h2
  obtain ⟨t3, rfl⟩ := h3
  obtain ⟨t4, rfl⟩ := h4
  refine ⟨[((1 : Int), .str "- " t2), (2, .str "+ " t4)], ⟨intKind_is _ _ _ _, rfl, intKind_is _ _ _ _, rfl, trivial⟩, hnew.at fun o e => ?_, fun h' hm hsb => ?_⟩
  · rw [Heap.get?_push_size _ rfl] at e; cases e
    exact T₄.ow _ (.head _)
  have hm' := hm
  obtain ⟨o', es, ep, e', _⟩ := hm'
  have T₅ := T₄.upd (l1 := []) (tk := s₄.toks + 2) hsb e'
  refine (hk _ o').use T₅ fun v s₆ hv T₆ => ?_
  obtain ⟨t, rfl⟩ := hv
  have hm₆ : s₆.heap.DictOf (intKind Prg Γ.w) s.heap.objs.size (merged [] [((1 : Int), .str "- " t2), (2, .str "+ " t4)]) := hm.at fun o e => by
    rw [e'] at e; cases e
    exact T₆.ow (_, o') (.head _)
  have hval : valueAt (merged [] [((1 : Int), Value.str "- " t2), (2, .str "+ " t4)]) i = if i = 1 then some (.str "- " t2) else if i = 2 then some (.str "+ " t4) else none := by
    by_cases a1 : i = 1
    · subst a1; rfl
    · by_cases a2 : i = 2
      · subst a2; rfl
      · simp [merged, stored, valueAt, a1, a2, Ne.symm a1, Ne.symm a2]
  refine tail_any hm₆.typeIs slot_dict_getitem.lookup ?_ (hs _ _)
  cases hq : tagOf i with
  | some tag =>
    unfold tagOf at hq
    by_cases a1 : i = 1
    · rw [if_pos a1] at hq hval; cases hq
      exact wpAny_getItem_of (intKind_is _ _ _ _) hm₆.mapOf hval (h _ (by rw [tagOf, if_pos a1]) _ _ ⟨_, rfl⟩ T₆.drop.toks)
    · rw [if_neg a1] at hq hval
      by_cases a2 : i = 2
      · rw [if_pos a2] at hq hval; cases hq
        exact wpAny_getItem_of (intKind_is _ _ _ _) hm₆.mapOf hval (h _ (by rw [tagOf, if_neg a1, if_pos a2]) _ _ ⟨_, rfl⟩ T₆.drop.toks)
      · rw [if_neg a2] at hq; cases hq
  | none =>
    have hv0 : valueAt (merged [] [((1 : Int), Value.str "- " t2), (2, .str "+ " t4)]) i = none := by
      rw [hval]
      unfold tagOf at hq
      by_cases a1 : i = 1
      · rw [if_pos a1] at hq; cases hq
      · rw [if_neg a1] at hq ⊢
        by_cases a2 : i = 2
        · rw [if_pos a2] at hq; cases hq
        · rw [if_neg a2]
    exact wpAny_getItem_missing_of (intKind_is _ _ _ _) (beq_eq_false_iff_ne.mpr (Nat.ne_of_gt hsz)) (hh hq) hm₆.mapOf hv0 fun h' e hx => hE hq _ h' e _ T₆.drop hx
end
end Mine
end

section
open PySem PySem.W PySem.Calls PySem.Spec PyProof.Rows
open PyProof.Rows.TI (Frs SameUp sameUp_of)
set_option linter.unusedVariables false
namespace Mine
set_option maxRecDepth 100000
local macro_rules | `(tactic| walk_at "m") => `(tactic| ((repeat (rw [upd_ne (by decide)])); first | exact upd_eq _ _ _ | assumption))
local macro_rules | `(tactic| walk_at "k") => `(tactic| exact kd (by assumption) (by kernel_rfl))
local macro_rules | `(tactic| walk_at "loc") => `(tactic| exact Ev.loc (by assumption) (by walk_at "m") (by walk_at "k") (by decide))
local macro_rules | `(tactic| walk_at "locS") => `(tactic| exact Ev.locS (by assumption) ⟨_, (by walk_at "m")⟩ (by walk_at "k") (by decide))
local macro_rules | `(tactic| walk_at "bui") => `(tactic| exact Ev.boot (by assumption) (by assumption) (by kernel_rfl) (by kernel_rfl) (by decide) (by walk_at "k") (by decide))
local macro_rules | `(tactic| walk_at "top") => `(tactic| exact Ev.top (by assumption) (by assumption) (by kernel_rfl) (by walk_at "k") (by decide))
local macro_rules | `(tactic| walk_at "u") => `(tactic| with_unfolding_all rfl)
local macro_rules | `(tactic| walk_at "kc") => `(tactic| exact kdc (by assumption) (by kernel_rfl))
local macro_rules | `(tactic| walk_at "buic") => `(tactic| exact Ev.boot (by assumption) (by assumption) (by kernel_rfl) (by kernel_rfl) (by decide) (by walk_at "kc") (by decide))
/-- what unorderable_list_difference leaves: the first list from its end -/
noncomputable def uldF : List Str → List Str → List Str → List Str × List Str
  | [], ms, as => (ms, as)
  | x :: r, ms, as => if x ∈ as then uldF r ms (as.erase x) else uldF r (ms ++ [x]) as
theorem all2_split {vs : List Value} {xs ys : List Str} (h : All2 (fun v x => IsS x v) vs (xs ++ ys)) : ∃ a c, vs = a ++ c ∧ All2 (fun v x => IsS x v) a xs ∧ All2 (fun v x => IsS x v) c ys := by
  induction xs generalizing vs with
  | nil => exact ⟨[], vs, rfl, .nil, h⟩
  | cons x xs ih =>
    cases h with
    | cons h t =>
      obtain ⟨a, c, rfl, h1, h2⟩ := ih t
      exact ⟨_ :: a, c, rfl, .cons h h1, h2⟩
theorem all2_append {a c : List Value} {xs ys : List Str} (h1 : All2 (fun v x => IsS x v) a xs) (h2 : All2 (fun v x => IsS x v) c ys) : All2 (fun v x => IsS x v) (a ++ c) (xs ++ ys) := by
  induction h1 with
  | nil => exact h2
  | cons h _ ih => exact .cons h ih
theorem all2_mem {a : List Value} {xs : List Str} (h : All2 (fun v x => IsS x v) a xs) : ∀ u ∈ a, ∃ z, IsS z u := by
  intro u hu
  obtain ⟨i, hi, rfl⟩ := List.mem_iff_getElem.mp hu
  obtain ⟨z, hz, r⟩ := h.getL (i := i) (List.getElem?_eq_getElem hi)
  exact ⟨z, r⟩
theorem erase_split {x : Str} {as : List Str} (h : x ∈ as) : ∃ p q, as = p ++ x :: q ∧ x ∉ p ∧ as.erase x = p ++ q := by
  induction as with
  | nil => exact nomatch h
  | cons y r ih =>
    by_cases e : y = x
    · subst e
      exact ⟨[], r, rfl, by simp, by simp⟩
    · obtain ⟨p, q, rfl, h1, h2⟩ := ih (by simpa [Ne.symm e] using h)
      refine ⟨y :: p, q, rfl, by simp [h1, Ne.symm e], ?_⟩
      rw [List.erase_cons_tail (by simpa using e), h2]; rfl
theorem All2.lenE {vs : List Value} {xs : List Str} (h : All2 (fun v x => IsS x v) vs xs) : vs.length = xs.length := h.length

/-- the loop's turns; its end; what the call leaves -/
inductive UInv (Γ : Fx Prg) (frs : List (Addr × Obj)) (b : Heap) (e a M : Addr) (one two : List Str) (k : Nat) (s : Shared) : Prop
  | mk (r ms as : List Str) (x1 xm xa : List Value) (k1 km ka : Nat) (frs' : List (Addr × Obj)) (m' : Str → Option Value) (b' : Heap) (hk : k = r.length) (hu : uldF r ms as = uldF one.reverse [] two) (h1 : All2 (fun v x => IsS x v) x1 r.reverse) (h2 : All2 (fun v x => IsS x v) xm ms) (h3 : All2 (fun v x => IsS x v) xa as)
    (q1 : ms.length + r.length ≤ 1000) (q2 : as.length ≤ 1000) (su : SameUp frs frs') (lb : Le b b') (g1 : m' "expected" = some (.ref e)) (g2 : m' "actual" = some (.ref a)) (g3 : m' "missing" = some (.ref M)) (S : Γ.S b' m' ((M, lsN xm km) :: (e, lsN x1 k1) :: (a, lsN xa ka) :: frs') s)
inductive UFin (Γ : Fx Prg) (frs : List (Addr × Obj)) (b : Heap) (e a M : Addr) (one two : List Str) (s : Shared) : Prop
  | mk (ms as : List Str) (x1 xm xa : List Value) (k1 km ka : Nat) (frs' : List (Addr × Obj)) (m' : Str → Option Value) (b' : Heap) (hu : (ms, as) = uldF one.reverse [] two) (h2 : All2 (fun v x => IsS x v) xm ms) (h3 : All2 (fun v x => IsS x v) xa as)
    (su : SameUp frs frs') (lb : Le b b') (g1 : m' "expected" = some (.ref e)) (g2 : m' "actual" = some (.ref a)) (g3 : m' "missing" = some (.ref M)) (S : Γ.S b' m' ((M, lsN xm km) :: (e, lsN x1 k1) :: (a, lsN xa ka) :: frs') s)
inductive UPost (dr : Dn) (os : OsState) (s : Shared) (frs : List (Addr × Obj)) (e a : Addr) (one two : List Str) (r : Value) (s' : Shared) : Prop
  | mk (keep : ∀ x o, x ∉ 57 :: e :: a :: frs.map (·.1) → s.heap.get? x = some o → s'.heap.get? x = some o) (tab : Tab s'.heap) (hdr : s'.drawn = dr.1) (hos : s'.os = os) (hgb : GB dr.2 s'.gens) (hfr : ∃ frs', SameUp frs frs' ∧ ∀ q ∈ frs', s'.heap.get? q.1 = some q.2)
    (D M : Addr) (ys zs : List Value) (nm na : Nat) (o : Obj) (hr : r = .ref D) (hDn : s.heap.get? D = none) (hMn : s.heap.get? M = none) (hDD : s'.heap.get? D = some o) (hc : o.cls = .type "tuple") (hdat : o.data = .seq #[.ref M, .ref a] 0) (hdict : o.dict = none) (hM : s'.heap.get? M = some (lsN ys nm)) (ha : s'.heap.get? a = some (lsN zs na))
    (hys : All2 (fun v x => IsS x v) ys (uldF one.reverse [] two).1) (hzs : All2 (fun v x => IsS x v) zs (uldF one.reverse [] two).2)
theorem uld_spec {w : World} {mg mb : Str → Option Value} {dr : Dn} {os : OsState} {A : Around} {s : Shared} {E : Value → Shared → Prop} {h0 : Heap} (C : Cs dr os A 0 s) (W : Wd w mg mb h0) (Ws : Wd w mg mb s.heap) (k0 : Le h0 s.heap) (n57 : h0.get? 57 = none)
    {outer : List Env} {frs : List (Addr × Obj)} (hfr : A.frames = some outer) (Fs : Frs outer frs) (hf : ∀ p ∈ frs, s.heap.get? p.1 = some p.2 ∧ h0.get? p.1 = none)
    {e a : Addr} {v1 v2 : List Value} {n1 n2 : Nat} {one two : List Str} (he : s.heap.get? e = some (lsN v1 n1)) (ha : s.heap.get? a = some (lsN v2 n2)) (he0 : h0.get? e = none) (ha0 : h0.get? a = none) (nd : (57 :: e :: a :: frs.map (·.1)).Nodup)
    (hi1 : All2 (fun v x => IsS x v) v1 one) (hi2 : All2 (fun v x => IsS x v) v2 two) (hl1 : one.length ≤ 1000) (hl2 : two.length ≤ 1000) :
    wpAny (model Prg w) A (call (.ref 69) [.ref e, .ref a]) (UPost dr os s frs e a one two) E s := by
  refine enterH (fd := fdAt w 69) ((e, lsN v1 n1) :: (a, lsN v2 n2) :: frs) C (Ws.X 69 _ rfl) (by kernel_rfl) (codeRec_of Ws.X (by kernel_rfl)) Ws.lim rfl (binds := [("expected", .ref e), ("actual", .ref a)]) (by kernel_rfl) rfl (by kernel_rfl) rfl rfl rfl rfl rfl
    (fun p hp => by
      rcases List.mem_cons.mp hp with rfl | hp
      · exact he
      · rcases List.mem_cons.mp hp with rfl | hp
        · exact ha
        · exact (hf p hp).1) nd ?_
  intro L b s₁ Γ e2 e3 e4 e5 e6 e7 e8 O hL S
  have W' : Wd w mg mb Γ.g := W.mono fun x o q => by
    rw [e5]
    refine hideAll_get _ (gget (k0 _ _ q) fun z => by rw [z, n57] at q; cases q) fun z => ?_
    rcases List.mem_cons.mp z with z | z
    · rw [z, he0] at q; cases q
    · rcases List.mem_cons.mp z with z | z
      · rw [z, ha0] at q; cases q
      · obtain ⟨p, hp, z⟩ := List.mem_map.mp z
        rw [← z, (hf p hp).2] at q; cases q
  subst e2 e6 e7
  have hm1 : (bindL (envF Γ.w 69 L).kindOf [("expected", .ref e), ("actual", .ref a)] fun _ => none) "expected" = some (.ref e) := by kernel_rfl
  have hm2 : (bindL (envF Γ.w 69 L).kindOf [("expected", .ref e), ("actual", .ref a)] fun _ => none) "actual" = some (.ref a) := by kernel_rfl
  generalize bindL (envF Γ.w 69 L).kindOf [("expected", .ref e), ("actual", .ref a)] (fun _ => none) = m at S hm1 hm2
  refine Xs.asgNil (Γ := Γ) O (by walk_at "k") (by rw [e3]; walk_at "u") (fun M s₀ E S => ?_) s₁ _ S
  have hfr' : Γ.A.frames = some (Γ.env :: outer) := by rw [e8, e3]; exact Around.frames_deeper hfr
  have hF : Γ.env.frame = some Γ.L := by rw [e3, e4]; rfl
  refine wpWhile (Γ := Γ) (UInv Γ frs b e a M one two) (UFin Γ frs b e a M one two) ?_ one.reverse.length
    ⟨one.reverse, [], two, v1, [], v2, n1, 0, n2, frs, _, b, rfl, rfl, by rw [List.reverse_reverse]; exact hi1, .nil, hi2, by simpa using hl1, hl2, SameUp.refl _, Le.refl _, by walk_at "m", by walk_at "m", by walk_at "m", S⟩ ?_
  · rintro k s E ⟨r, ms, as, x1, xm, xa, k1, km, ka, frs', m', b', rfl, hu, h1, h2, h3, q1, q2, su, lb, g1, g2, g3, S⟩
    refine isTrue_plain (Ev.use (Γ := Γ) (m := m') (P := IsV (.ref e)) (by walk_at "loc") S fun v s₂ hv S₂ => ?_)
    obtain rfl : v = .ref e := hv
    have len1 := h1.length
    rw [List.length_reverse] at len1
    refine wpAny_truthy_list ⟨_, S₂.ow (e, _) (.tail _ (.head _)), rfl, _, rfl⟩ (by simp; omega) ?_
    cases r with
    | nil =>
      obtain rfl : x1 = [] := List.length_eq_zero_iff.mp len1
      rw [if_neg (by simp)]
      exact ⟨ms, as, [], xm, xa, k1, km, ka, frs', m', b', hu, h2, h3, su, lb, g1, g2, g3, S₂.toks⟩
    | cons x r =>
      rw [List.reverse_cons] at h1
      obtain ⟨y1, y2, rfl, p1, p2⟩ := all2_split h1
      obtain ⟨y, rfl, hy⟩ : ∃ y, y2 = [y] ∧ IsS x y := by
        cases p2 with
        | cons h t => cases t with
          | nil => exact ⟨_, rfl, h⟩
      have len2 := h2.length
      have len3 := h3.length
      have len4 := p1.length
      simp only [List.length_cons, List.length_reverse] at q1 len4
      have hz := sizeLine_eq
      rw [if_pos (by simp)]
      refine wpAny_execs_cons (wpAny_Assign_Name (meth0 (Γ := Γ) (m := m') F.slot_list_pop F.type_list_pop S₂.toks (by walk_at "loc") (.tail _ (.head _)) (fun s₃ S₃ => pop_at (S₃.ow _ (.tail _ (.head _))) (by omega) fun h' hs ho' => ?_) (by walk_at "u") (by rfl)) (by rw [e3]; walk_at "u"))
      have S₄ := S₃.upd (l1 := [(M, lsN xm km)]) (tk := s₃.toks) hs ho'
      refine stores (Γ := Γ) O S₄ (by walk_at "k") fun s₅ S₅ => ?_
      refine wpAny_execs_cons (wpAny_Try_except (wpAny_execs_cons (wpAny_Expr_any (meth1 (Γ := Γ) (P := IsV y) F.slot_list_remove F.type_list_remove S₅ (by walk_at "loc") (.tail _ (.tail _ (.head _))) (by walk_at "loc") (fun s₆ v hv S₆ => ?_) (by walk_at "u") (by rfl) (by rfl)) (by rw [e3]; walk_at "u") (by rw [e3]; walk_at "u"))))
      obtain rfl : v = y := hv
      by_cases hx : x ∈ as
      · obtain ⟨p, q, rfl, hnp, her⟩ := erase_split hx
        obtain ⟨z1, z2, rfl, r1, r2⟩ := all2_split h3
        obtain ⟨u, z3, rfl, hu', r3⟩ : ∃ u z3, z2 = u :: z3 ∧ IsS x u ∧ All2 (fun v x => IsS x v) z3 q := by
          cases r2 with
          | cons h t => exact ⟨_, _, rfl, h, t⟩
        refine remove_at (S₆.ow _ (.tail _ (.tail _ (.head _)))) hy hu' r1 hnp (all2_mem r3) (by rw [len3]; omega) fun h'' hs' ho'' => ?_
        have S₇ := S₆.upd (l1 := [(M, lsN xm km), (e, lsN y1 (k1 + 1))]) (tk := s₆.toks) hs' ho''
        refine wpAny_execs_nil (wpAny_execs_nil (wpAny_execs_nil ⟨r.length, by simp, r, ms, p ++ q, y1, xm, z1 ++ z3, k1 + 1, km, ka + 1, frs', _, b', rfl, ?_, p1, h2, all2_append r1 r3, by omega, by simp at q2 ⊢; omega, su, lb, by walk_at "m", by walk_at "m", by walk_at "m", S₇⟩))
        rw [← hu]
        show _ = if x ∈ p ++ x :: q then _ else _
        rw [if_pos hx, her]
      · refine remove_none_at O.hand (S₆.ow _ (.tail _ (.tail _ (.head _)))) hy h3 hx fun h'' tk ex hX => ?_
        have S₆' := S₆.perm (own' := frs' ++ [(M, lsN xm km), (e, lsN y1 (k1 + 1)), (a, lsN xa ka)]) (by exact List.perm_append_comm (l₁ := [(M, lsN xm km), (e, lsN y1 (k1 + 1)), (a, lsN xa ka)]) (l₂ := frs'))
        refine catchHere (s := s₆) O W' hfr' hF (Fs.up su) S₆' hX ⟨_, _, rfl⟩ PySem.F.isExc_ValueError PySem.F.notTuple_ValueError (by rw [isSubtype_type]; kernel_rfl) (by kernel_rfl) (by kernel_rfl) (by decide) (by walk_at "k") (by decide) fun s₇ frs'' E su' S₇ => ?_
        have S₇' := S₇.perm (own' := (M, lsN xm km) :: (e, lsN y1 (k1 + 1)) :: (a, lsN xa ka) :: frs'') (by exact List.perm_append_comm (l₁ := frs'') (l₂ := [(M, lsN xm km), (e, lsN y1 (k1 + 1)), (a, lsN xa ka)]))
        refine wpAny_execs_cons (wpAny_Expr_any (meth1 (Γ := { Γ with A := Γ.A.mark (some (.ref ex)) }) (P := IsV v) F.slot_list_append F.type_list_append S₇' (Ev.locK O.kind O.loc (by walk_at "m") (by walk_at "k") (by decide)) (.head _) (Ev.locK O.kind O.loc (by walk_at "m") (by walk_at "k") (by decide)) (fun s₈ v' hv S₈ => ?_) (by walk_at "u") (by rfl) (by rfl)) (by rw [e3]; walk_at "u") (by rw [e3]; walk_at "u"))
        obtain rfl : v' = v := hv
        refine append_at (hsz := by show xm.toArray.size ≤ sizeLine; rw [List.size_toArray]; omega) (S₈.ow (M, _) (.head _)) fun h₉ hs₉ hD₉ => ?_
        have S₉ := St.upd (l1 := []) (o' := lsN (xm ++ [v']) (km + 1)) (tk := s₈.toks) S₈ hs₉ (hD₉.trans (by rw [List.push_toArray]))
        refine wpAny_execs_nil (wpAny_execs_nil ⟨r.length, by simp, r, ms ++ [x], as, y1, xm ++ [v'], xa, k1 + 1, km + 1, ka, frs'', _, b', rfl, ?_, p1, h2.snoc hy, h3, by simp; omega, q2, su.trans su', lb, by walk_at "m", by walk_at "m", by walk_at "m", S₉⟩)
        rw [← hu]
        show _ = if x ∈ as then _ else _
        rw [if_neg hx]
  · rintro s₂ ⟨ms, as, x1, xm, xa, k1, km, ka, frs', m', b', hu, h2, h3, su, lb, g1, g2, g3, S₂⟩
    have hz := sizeLine_eq
    refine wpAny_execs_cons (wpAny_Return_some (wpAny_Tuple_spliced (spliced_more (Ev.use (Γ := Γ) (m := m') (P := IsV (.ref M)) (by walk_at "loc") S₂ fun v1 s₃ hv1 S₃ => spliced_more (Ev.use (Γ := Γ) (m := m') (P := IsV (.ref a)) (by walk_at "loc") S₃ fun v2 s₄ hv2 S₄ => spliced_none ?_) (by rfl)) (by rfl))))
    obtain rfl : v1 = .ref M := hv1
    obtain rfl : v2 = .ref a := hv2
    have S₅ := S₄.heap' (Le.push s₄.heap { cls := .type "tuple", data := .seq [Value.ref M, Value.ref a].toArray })
    have nd' := S₄.nd
    have off' := S₄.off
    refine ⟨by show 2 ≤ sizeLine; omega, fun x o hx ex => ?_, S₅.tab, S₅.dr, S₅.os, S₅.bare, ⟨frs', su, fun q hq => S₅.ow q (.tail _ (.tail _ (.tail _ hq)))⟩, _, M, xm, xa, km, ka, _, rfl, ?_, ?_, Heap.get?_push_size _ rfl, rfl, rfl, rfl, S₅.ow _ (.head _), S₅.ow _ (.tail _ (.tail _ (.head _))), by rw [← hu]; exact h2, by rw [← hu]; exact h3⟩
    · simp only [List.map_cons, List.mem_cons, not_or] at hx
      refine S₅.keep _ _ (S₅.gr _ _ ?_)
      rw [e5]
      exact hideAll_get _ (gget ex hx.1) (by simp only [List.map_cons, List.mem_cons, not_or]; exact hx.2)
    · cases q : s.heap.get? s₄.heap.objs.size with
      | none => rfl
      | some o =>
        refine absurd (?_ : s₄.heap.objs.size < s₄.heap.objs.size) (Nat.lt_irrefl _)
        by_cases hx : s₄.heap.objs.size ∈ Γ.L :: 57 :: List.map (·.1) ((M, lsN xm km) :: (e, lsN x1 k1) :: (a, lsN xa ka) :: frs')
        · exact S₄.low hx
        · simp only [List.map_cons, List.mem_cons, not_or, SameUp.addrs su] at hx
          refine Heap.lt_size (S₄.keep _ _ (S₄.gr _ _ (?_ : _ = some o)))
          rw [e5]
          exact hideAll_get _ (gget q hx.2.1) (by simp only [List.map_cons, List.mem_cons, not_or]; exact ⟨hx.2.2.2.1, hx.2.2.2.2.1, hx.2.2.2.2.2⟩)
    · cases q : s.heap.get? M with
      | none => rfl
      | some o =>
        have nd2 := S.nd
        simp only [List.map_cons, List.nodup_cons, List.mem_cons, not_or] at nd2
        have z := S.off M (.tail _ (.tail _ (.head _)))
        rw [S.gr _ _ (?_ : _ = some o)] at z
        · cases z
        · rw [e5]
          exact hideAll_get _ (gget q (Ne.symm nd2.2.1.1)) (by simp only [List.map_cons, List.mem_cons, not_or]; exact nd2.2.2.1)
end Mine
end

section
open PySem PySem.W
set_option linter.unusedVariables false
namespace Mine
noncomputable def keepF (c : Str → Nat) : List Str → List Str
  | [] => []
  | y :: t => if c y = 0 then y :: keepF c t else keepF (fun v => if v = y then c v - 1 else c v) t
theorem keepF_add (x : Str) : ∀ (t : List Str) (c : Str → Nat), keepF (fun v => if v = x then c v + 1 else c v) t = (keepF c t).erase x
  | [], c => rfl
  | y :: t, c => by
    by_cases e : y = x
    · subst e
      by_cases h : c y = 0
      · rw [keepF, if_neg (by simp), keepF, if_pos h, List.erase_cons_head]
        congr 1
        funext v
        by_cases q : v = y <;> simp [q]
      · rw [keepF, if_neg (by simp), keepF, if_neg h, ← keepF_add y t]
        congr 1
        funext v
        by_cases q : v = y
        · subst q; simp; omega
        · simp [q]
    · by_cases h : c y = 0
      · rw [keepF, if_pos (by simp [e, h]), keepF, if_pos h, List.erase_cons_tail (by simpa using e), keepF_add x t]
      · rw [keepF, if_neg (by simp [e, h]), keepF, if_neg h, ← keepF_add x t]
        congr 1
        funext v
        by_cases q : v = y
        · subst q; simp [e]
        · by_cases q2 : v = x
          · have : ¬ x = y := by rw [← q2]; exact q
            simp [q2, this]
          · simp [q, q2]
theorem keepF_mem (x : Str) : ∀ (t : List Str) (c : Str → Nat), x ∈ keepF c t ↔ c x < t.count x
  | [], c => by simp [keepF]
  | y :: t, c => by
    by_cases h : c y = 0
    · rw [keepF, if_pos h, List.mem_cons, keepF_mem x t c, List.count_cons]
      by_cases e : x = y
      · subst e; simp [h]
      · simp [e, Ne.symm e]
    · rw [keepF, if_neg h, keepF_mem x t, List.count_cons]
      by_cases e : x = y
      · subst e; simp; omega
      · simp [e, Ne.symm e]
/-- the lacking ones, from the end: s has been taken before -/
noncomputable def lackR (two : List Str) : List Str → List Str → List Str
  | _, [] => []
  | s, x :: r => if two.count x < s.count x + 1 then x :: lackR two (x :: s) r else lackR two (x :: s) r
theorem uldF_eq (two : List Str) : ∀ (r s ms : List Str), uldF r ms (keepF (fun v => s.count v) two) = (ms ++ lackR two s r, keepF (fun v => (r.reverse ++ s).count v) two)
  | [], s, ms => by simp [uldF, lackR]
  | x :: r, s, ms => by
    have step : (keepF (fun v => s.count v) two).erase x = keepF (fun v => (x :: s).count v) two := by
      rw [← keepF_add]
      congr 1
      funext v
      rw [List.count_cons]
      by_cases q : v = x
      · subst q; simp
      · simp [q, Ne.symm q]
    by_cases h : two.count x < s.count x + 1
    · have hn : x ∉ keepF (fun v => s.count v) two := by rw [keepF_mem]; omega
      rw [uldF, if_neg hn, lackR, if_pos h]
      have e2 : keepF (fun v => s.count v) two = keepF (fun v => (x :: s).count v) two := by rw [← step, List.erase_of_not_mem hn]
      rw [e2, uldF_eq two r (x :: s)]
      simp
    · have hm : x ∈ keepF (fun v => s.count v) two := by rw [keepF_mem]; omega
      rw [uldF, if_pos hm, lackR, if_neg h, step, uldF_eq two r (x :: s)]
      simp
theorem keepF_zero (t : List Str) : keepF (fun _ => 0) t = t := by
  induction t with
  | nil => rfl
  | cons y t ih => rw [keepF, if_pos rfl, ih]
theorem uldF_two (one two : List Str) : uldF one.reverse [] two = (lackR two [] one.reverse, keepF (fun v => one.count v) two) := by
  have := uldF_eq two one.reverse [] []
  simp only [List.count_nil, keepF_zero, List.nil_append, List.append_nil, List.reverse_reverse] at this
  exact this
noncomputable def recL (q : Str → Nat → Bool) : List Str → List Str → List Str
  | _, [] => []
  | s, x :: r => if q x (s.count x + 1) then x :: recL q (x :: s) r else recL q (x :: s) r
theorem recL_congr (q : Str → Nat → Bool) : ∀ (t s s' : List Str), (∀ v, s.count v = s'.count v) → recL q s t = recL q s' t
  | [], _, _, _ => rfl
  | x :: r, s, s', h => by
    rw [recL, recL, h x, recL_congr q r (x :: s) (x :: s') fun v => by rw [List.count_cons, List.count_cons, h v]]
theorem idxL (q : Str → Nat → Bool) : ∀ (t s : List Str), ((List.range t.length).filter fun i => q (t.getD i default) ((s ++ t.take (i + 1)).count (t.getD i default))).map (fun i => t.getD i default) = recL q s t
  | [], s => rfl
  | x :: r, s => by
    have ih := idxL q r (x :: s)
    rw [List.length_cons, List.range_succ_eq_map, List.filter_cons]
    have h0 : (s ++ (x :: r).take (0 + 1)).count ((x :: r).getD 0 default) = s.count x + 1 := by simp [List.count_append]
    have h1 : (x :: r).getD 0 default = x := rfl
    have hr : ((List.range r.length).map Nat.succ).filter (fun i => q ((x :: r).getD i default) ((s ++ (x :: r).take (i + 1)).count ((x :: r).getD i default))) = ((List.range r.length).filter fun i => q (r.getD i default) ((x :: s ++ r.take (i + 1)).count (r.getD i default))).map Nat.succ := by
      rw [List.filter_map]
      congr 1
      refine List.filter_congr fun i _ => ?_
      show q ((x :: r).getD (i + 1) default) ((s ++ (x :: r).take (i + 1 + 1)).count ((x :: r).getD (i + 1) default)) = _
      rw [List.getD_cons_succ, List.take_succ_cons]
      congr 1
      simp [List.count_append, List.count_cons]
      omega
    rw [hr, h0, h1, recL]
    split
    · rw [List.map_cons, h1, List.map_map, ← ih]; rfl
    · rw [List.map_map, ← ih]; rfl
theorem lackR_eq (two : List Str) : ∀ (r s : List Str), lackR two s r = recL (fun x c => decide (two.count x < c)) s r
  | [], s => rfl
  | x :: r, s => by
    rw [lackR, recL, lackR_eq two r]
    by_cases h : two.count x < s.count x + 1 <;> simp [h]
theorem keepF_eq (one : List Str) : ∀ (t s : List Str), keepF (fun v => one.count v - s.count v) t = recL (fun x c => decide (one.count x < c)) s t
  | [], s => rfl
  | x :: t, s => by
    rw [keepF, recL, ← keepF_eq one t]
    by_cases h : one.count x < s.count x + 1
    · rw [if_pos (by omega), if_pos (by simpa using h)]
      congr 2
      funext v
      rw [List.count_cons]
      by_cases q : v = x
      · subst q; simp; omega
      · simp [Ne.symm q]
    · rw [if_neg (by omega), if_neg (by simpa using h)]
      congr 1
      funext v
      rw [List.count_cons]
      by_cases q : v = x
      · subst q; simp; omega
      · simp [q, Ne.symm q]
theorem left_eq (one two : List Str) : leftF one two = keepF (fun v => one.count v) two := by
  have h := keepF_eq one two []
  simp only [List.count_nil, Nat.sub_zero] at h
  rw [h, ← idxL]
  unfold leftF rangeL
  rw [List.filter_map, List.map_map]
  have hf : (List.range two.length).filter ((fun (k : Int) => decide ((one.count (two.getD k.toNat default) : Int) < (((two.take (k.toNat + 1)).count (two.getD k.toNat default) : Nat) : Int))) ∘ fun (i : Nat) => (0 : Int) + (i : Int) * 1) =
      (List.range two.length).filter fun i => decide (one.count (two.getD i default) < (([] : List Str) ++ two.take (i + 1)).count (two.getD i default)) := by
    refine List.filter_congr fun i hi => ?_
    simp
  rw [hf]
  refine List.map_congr_left fun i hi => ?_
  simp
theorem lack_eq (one two : List Str) : lackF one two = lackR two [] one.reverse := by
  rw [lackR_eq, ← idxL]
  unfold lackF rangeL
  rw [List.filter_map, List.map_map, List.length_reverse]
  have key : ∀ i ∈ List.range one.length, ((one.length : Int) - 1 + (i : Int) * -1).toNat = one.length - 1 - i := fun i hi => by
    have := List.mem_range.mp hi; omega
  have hg : ∀ i ∈ List.range one.length, one.getD (one.length - 1 - i) default = one.reverse.getD i default := fun i hi => by
    have hlt := List.mem_range.mp hi
    rw [List.getD_eq_getElem?_getD, List.getD_eq_getElem?_getD, List.getElem?_reverse hlt]
  have hd : ∀ i ∈ List.range one.length, ∀ v, (one.drop (one.length - 1 - i)).count v = (([] : List Str) ++ one.reverse.take (i + 1)).count v := fun i hi v => by
    have hlt := List.mem_range.mp hi
    rw [List.nil_append, List.take_reverse, List.count_reverse]
    congr 2
    omega
  have hf : (List.range one.length).filter ((fun (k : Int) => decide ((two.count (one.getD k.toNat default) : Int) < (((one.drop k.toNat).count (one.getD k.toNat default) : Nat) : Int))) ∘ fun (i : Nat) => (one.length : Int) - 1 + (i : Int) * -1) =
      (List.range one.length).filter fun i => decide (two.count (one.reverse.getD i default) < (([] : List Str) ++ one.reverse.take (i + 1)).count (one.reverse.getD i default)) := by
    refine List.filter_congr fun i hi => ?_
    show decide _ = decide _
    rw [key i hi, hg i hi, hd i hi, decide_eq_decide]
    omega
  rw [hf]
  refine List.map_congr_left fun i hi => ?_
  have hi' := (List.mem_filter.mp hi).1
  show one.getD ((one.length : Int) - 1 + (i : Int) * -1).toNat default = _
  rw [key i hi', hg i hi']
end Mine
end

section
open PySem PySem.W PySem.Calls PySem.Spec PyProof.Rows
set_option linter.unusedVariables false
namespace Mine
set_option maxRecDepth 100000
set_option maxHeartbeats 200000
local macro_rules | `(tactic| walk_at "m") => `(tactic| ((repeat (rw [upd_ne (by decide)])); first | exact upd_eq _ _ _ | assumption))
local macro_rules | `(tactic| walk_at "k") => `(tactic| exact kd (by assumption) (by kernel_rfl))
local macro_rules | `(tactic| walk_at "loc") => `(tactic| exact Ev.loc (by assumption) (by walk_at "m") (by walk_at "k") (by decide))
local macro_rules | `(tactic| walk_at "locS") => `(tactic| exact Ev.locS (by assumption) ⟨_, (by walk_at "m")⟩ (by walk_at "k") (by decide))
local macro_rules | `(tactic| walk_at "bui") => `(tactic| exact Ev.boot (by assumption) (by assumption) (by kernel_rfl) (by kernel_rfl) (by decide) (by walk_at "k") (by decide))
local macro_rules | `(tactic| walk_at "top") => `(tactic| exact Ev.top (by assumption) (by assumption) (by kernel_rfl) (by walk_at "k") (by decide))
local macro_rules | `(tactic| walk_at "u") => `(tactic| with_unfolding_all rfl)
local macro_rules | `(tactic| walk_at "kc") => `(tactic| exact kdc (by assumption) (by kernel_rfl))
local macro_rules | `(tactic| walk_at "buic") => `(tactic| exact Ev.boot (by assumption) (by assumption) (by kernel_rfl) (by kernel_rfl) (by decide) (by walk_at "kc") (by decide))
abbrev itemsA : List Item := [("a", "a", false), ("*", "", false), ("?", "", true), ("b", "b", false), ("[*]", "*", false)]
abbrev itemsB : List Item := [("[?]", "?", false), ("-", "-", false), (" ", " ", false), ("[!a]", "a", true)]
abbrev itemsC : List Item := [("[a-c]", "abc", false), ("[c-a]", "", false), ("[!c-a]", "", true)]
def itemsT : List Item := itemsA ++ itemsB ++ itemsC
def itemsF (x : Int) : List Item := (rangeL 0 1 (1 + x.fmod 3).toNat).map fun (k : Int) => itemsT.getD (((x.fdiv 3).fdiv (12 ^ k.toNat)).fmod 12).toNat default
theorem fmod_pos (x : Int) {n : Int} (h : 0 < n) : 0 ≤ x.fmod n ∧ x.fmod n < n := ⟨Int.fmod_nonneg_of_pos x h, Int.fmod_lt_of_pos x h⟩
theorem law_items_spec {w : World} {mg mb : Str → Option Value} {dr : Dn} {os : OsState} {A : Around} {s : Shared} {E : Value → Shared → Prop} (C : Cs dr os A 0 s) (W : Wd w mg mb s.heap) {x : Int} {t : Tok} :
    wpAny (model Prg w) A (call (.ref 74) [.int x t]) (fun r s' => Pur s s' ∧ ∃ D ys, r = .ref D ∧ s.heap.get? D = none ∧ s'.heap.get? D = .some (LCg.lst ys) ∧ All2 (fun v x => ItemIs s'.heap v x) ys (itemsF x)) E s := by
  refine enter (fd := fdAt w 74) C (W.X 74 _ rfl) (by kernel_rfl) (codeRec_of W.X (by kernel_rfl)) W.lim rfl (binds := [("x", .int x t)]) (by kernel_rfl) rfl (by kernel_rfl) rfl rfl rfl rfl rfl ?_
  intro L b s₁ Γ e2 e3 e4 e5 e6 e7 e8 O hL S hc hn
  have W' : Wd w mg mb Γ.g := e5 ▸ W.hide
  subst e2 e6 e7
  have h1 : ∃ o, b.get? (L + 1) = .some o ∧ o.data = .cell (.some (.int x t)) := hc "x" (L + 1) (by kernel_rfl)
  obtain ⟨o2, h2, d2⟩ : ∃ o, b.get? (L + 1 + 1) = .some o ∧ o.data = .cell .none := hc "items" (L + 1 + 1) (by kernel_rfl)
  have hn2 : s.heap.get? (L + 1 + 1) = none := hn "items" (L + 1 + 1) (by kernel_rfl)
  generalize bindL (envF Γ.w 74 L).kindOf [("x", .int x t)] (fun _ => none) = m at S
  have g2 : Γ.g.get? (L + 1 + 1) = none := by rw [e5]; exact hide_sub hn2
  have S2 := St.own S h2 g2
  have h1' : ∃ o, (hideAll b [L + 1 + 1]).get? (L + 1) = .some o ∧ o.data = .cell (.some (.int x t)) := let ⟨o, e, d⟩ := h1; ⟨o, hideAll_get _ e (by simp), d⟩
  generalize hideAll b [L + 1 + 1] = b at S2 h1'
  clear h1 h2 S hc
  have hcell : Γ.env.cells.lookup ("items" : Str) = some (L + 1 + 1) := by rw [e3]; kernel_rfl
  have hkc : Γ.env.kindOf ("items" : Str) = some .cell := by walk_at "k"
  have S3 : Γ.S b m ([] ++ (L+1+1,o2) :: []) s₁ := S2
  with_reducible refine Xs.go S3 ?_
  with_reducible refine Xs.asgCell (Γ := Γ) (l1 := []) (P := fun b' v => ∃ vs, NewL b b' vs v ∧ All2 (fun v x => ItemIs b' v x) vs itemsA) O ?_ d2 hkc hcell ?_ (fun b1 v o3 l1 hv d3 => ?_)
  · with_reducible refine Ei.items ?_ (by decide)
    iterate 5 (with_reducible refine ArgItems.cons fun _ _ => ?_)
    exact ArgItems.nil
  · rw [e3]; walk_at "u"
  obtain ⟨v5, ⟨D1, rfl, _, _, _, hD1⟩, i5⟩ := hv
  have q5 : v5.length = 5 := i5.length
  with_reducible refine Xs.asgCell (Γ := Γ) (l1 := []) (P := fun b' v => ∃ ws, NewL b1 b' (v5 ++ ws) v ∧ All2 (fun v x => ItemIs b' v x) ws itemsB) O ?_ d3 hkc hcell ?_ (fun b2 v o4 l2 hv d4 => ?_)
  · with_reducible refine Ei.addL (P := fun ws b' => All2 (fun v x => ItemIs b' v x) ws itemsB) (Ev.cellO O List.mem_cons_self d3 hcell hkc (by decide)) hD1 (Ei.mono (P := fun b' v => ∃ vs, NewL b1 b' vs v ∧ All2 (fun v x => ItemIs b' v x) vs itemsB) ?_ fun b' v l h => ?_) (fun ws b b' l h => h.mono fun v x r => r.mono l)
    · with_reducible refine Ei.items ?_ (by decide)
      iterate 4 (with_reducible refine ArgItems.cons fun _ _ => ?_)
      exact ArgItems.nil
    obtain ⟨vs, n, i⟩ := h
    have q2 : vs.length = 4 := i.length
    exact ⟨vs, n, i, by rw [q5, q2, sizeLine_eq]; decide⟩
  · rw [e3]; walk_at "u"
  obtain ⟨v4, ⟨D2, rfl, _, _, _, hD2⟩, i4⟩ := hv
  have q4 : v4.length = 4 := i4.length
  with_reducible refine Xs.asgCell (Γ := Γ) (l1 := []) (P := fun b' v => ∃ ws, NewL b2 b' (v5 ++ v4 ++ ws) v ∧ All2 (fun v x => ItemIs b' v x) ws itemsC) O ?_ d4 hkc hcell ?_ (fun b3 v o5 l3 hv d5 => ?_)
  · with_reducible refine Ei.addL (P := fun ws b' => All2 (fun v x => ItemIs b' v x) ws itemsC) (Ev.cellO O List.mem_cons_self d4 hcell hkc (by decide)) hD2 (Ei.mono (P := fun b' v => ∃ vs, NewL b2 b' vs v ∧ All2 (fun v x => ItemIs b' v x) vs itemsC) ?_ fun b' v l h => ?_) (fun ws b b' l h => h.mono fun v x r => r.mono l)
    · with_reducible refine Ei.items ?_ (by decide)
      iterate 3 (with_reducible refine ArgItems.cons fun _ _ => ?_)
      exact ArgItems.nil
    obtain ⟨vs, n, i⟩ := h
    have q2 : vs.length = 3 := i.length
    exact ⟨vs, n, i, by rw [List.length_append, q5, q4, q2, sizeLine_eq]; decide⟩
  · rw [e3]; walk_at "u"
  obtain ⟨v3, ⟨D3, rfl, m1, m2, hD3, hD3'⟩, i3⟩ := hv
  have q3 : v3.length = 3 := i3.length
  have i12 : All2 (fun v x => ItemIs b3 v x) (v5 ++ v4 ++ v3) itemsT := by
    have app : ∀ {a c : List Value} {xs ys : List Item}, All2 (fun v x => ItemIs b3 v x) a xs → All2 (fun v x => ItemIs b3 v x) c ys → All2 (fun v x => ItemIs b3 v x) (a ++ c) (xs ++ ys) := by
      intro a c xs ys h1 h2
      induction h1 with
      | nil => exact h2
      | cons h _ ih => exact .cons h ih
    exact app (app (i5.mono fun v x r => r.mono (l2.trans l3)) (i4.mono fun v x r => r.mono l3)) i3
  have fz : ∀ s, Γ.S b3 m ([] ++ (L + 1 + 1, o5) :: []) s → ∃ b4, Le b3 b4 ∧ b4.get? (L + 1 + 1) = some o5 ∧ Γ.S b4 m [] s := fun s T => St.freeze T
  intro s₂ E T
  obtain ⟨b4, l4, e4', T4⟩ := fz s₂ T
  have hit : ∃ o, b4.get? (L + 1 + 1) = .some o ∧ o.data = .cell (.some (.ref D3)) := ⟨_, e4', d5⟩
  have hx4 : ∃ o, b4.get? (L + 1) = .some o ∧ o.data = .cell (.some (.int x t)) := let ⟨o, e, d⟩ := h1'; ⟨o, (l1.trans (l2.trans (l3.trans l4))) _ _ e, d⟩
  have hf := fmod_pos x (n := 3) (by decide)
  with_reducible refine Xs.go T4 ?_
  with_reducible refine Xs.ret (P := fun b' r => ∃ D ys, r = .ref D ∧ b4.get? D = none ∧ D ≠ 57 ∧ b'.get? D = some (LCg.lst ys) ∧ All2 (fun v x => ItemIs b' v x) ys (itemsF x)) ?_ ?_
  · refine (Ei.comp O (cl := [("x", L + 1), ("items", L + 1 + 1)]) (as := rangeL 0 1 (1 + x.fmod 3).toNat) (fun _ => true) (fun (k : Int) => itemsT.getD (((x.fdiv 3).fdiv (12 ^ k.toNat)).fmod 12).toNat default) (fun v k => IsI k v) (fun b' v x => ItemIs b' v x)
      (iter_range (range_1 (a := 1 + x.fmod 3) (by walk_at "bui") (Ev.bin bop_addI Ev.int (Ev.bin (bop_modI (by decide)) (Ev.mono (Ev.cell O hx4 (by rw [e3]; kernel_rfl) (by walk_at "k") (by decide)) fun _ h => ⟨_, h⟩) Ev.int))) (small_one (by omega) (by omega) (by omega) (by omega)) (by rw [rangeSize_nat]; omega))
      (CTurn.name0 O rfl (by kernel_rfl) ?_) (by rw [e3]; walk_at "u") (fun _ _ _ _ l h => h.mono l) (by decide) rfl (by rw [sizeLine_eq]; simp [rangeL]; omega) (by decide) (fun _ => rfl)).mono fun b' v l h => ?_
    · intro C' b₁ own₁ m₁ k v hk lb ho hv hm O'
      obtain ⟨tv, rfl⟩ := hv
      have k01 : 0 ≤ k ∧ k ≤ 2 := by
        obtain ⟨j, hj, rfl⟩ := List.mem_map.mp hk
        have := List.mem_range.mp hj
        omega
      have up : ∀ {c v}, (∃ o, b4.get? c = .some o ∧ o.data = .cell (.some v)) → ∃ o, b₁.get? c = .some o ∧ o.data = .cell (.some v) := fun ⟨o, e, r⟩ => ⟨o, lb _ _ e, r⟩
      have hp : (12 : Int) ^ k.toNat ≠ 0 ∧ ((12 : Int) ^ k.toNat).natAbs < 1073741824 := by
        obtain ⟨a, rfl⟩ : ∃ a : Nat, k = a := ⟨k.toNat, by omega⟩
        have : a = 0 ∨ a = 1 ∨ a = 2 := by omega
        rcases this with rfl | rfl | rfl <;> decide
      have hq := fmod_pos ((x.fdiv 3).fdiv (12 ^ k.toNat)) (n := 12) (by decide)
      have h12 : itemsT.length = 12 := by decide
      have hlt : (((x.fdiv 3).fdiv (12 ^ k.toNat)).fmod 12).toNat < itemsT.length := by omega
      obtain ⟨u, hu, hu'⟩ := i12.get (i := (((x.fdiv 3).fdiv (12 ^ k.toNat)).fmod 12).toNat) (y := itemsT.getD (((x.fdiv 3).fdiv (12 ^ k.toNat)).fmod 12).toNat default) (by rw [List.getD_eq_getElem?_getD, List.getElem?_eq_getElem hlt]; rfl)
      refine Ev.ei (P := fun b' v => ItemIs b' v (itemsT.getD (((x.fdiv 3).fdiv (12 ^ k.toNat)).fmod 12).toNat default)) ((Ev.itemL (isl_mono (l4.trans lb) hD3) (i := ((x.fdiv 3).fdiv (12 ^ k.toNat)).fmod 12) (Ev.cell O' (up hit) (by kernel_rfl) (by walk_at "kc") (by decide)) (Ev.bin (bop_modI (by decide)) (Ev.bin (bop_divI hp.1 hp.2) (Ev.bin (bop_divI (by decide) (by decide)) (Ev.mono (Ev.cell O' (up hx4) (by kernel_rfl) (by walk_at "kc") (by decide)) fun _ h => ⟨_, h⟩) Ev.int) (Ev.bin (bop_powI k01.1 (by omega) (by decide)) Ev.int (Ev.locI O' ⟨_, hm⟩ (by walk_at "kc") (by decide)))) Ev.int) hq.1 (by omega) (x := u) (by simpa using hu) (fun _ => by walk_at "u") (fun _ => by walk_at "u")).mono fun v hv => ?_)
      rw [show v = u from hv]
      exact hu'.mono (l4.trans lb)
    · obtain ⟨D, ys, rfl, n1, n2, hD, hy⟩ := h
      refine ⟨D, ys, rfl, n1, n2, hD, ?_⟩
      rw [List.filter_eq_self.mpr (fun _ _ => rfl)] at hy
      exact hy
  · rintro b' v s' lb ⟨D, ys, rfl, n1, n2, hD, hy⟩ T
    refine ⟨fxLeave T C.dr C.os e5, D, ys, rfl, ?_, T.keep _ _ hD, hy.mono fun v x r => r.mono T.keep⟩
    refine freshIn e5 ⟨_, _, _, T4⟩ n1 n2
end Mine
end

section
open PySem PySem.W PySem.Calls PySem.Spec PyProof.Rows
open PySem.W.X (SegX)
set_option linter.unusedVariables false
namespace Mine
section
variable {M : Model} {A : Around} {P : End → Shared → Prop} {c : Code} {fs : List Frame} {s : Shared} {env : Env} {K : Flow → Sem Fin} {H : Value → Sem Fin} {gd : Bool → Bool} {lv : List Value → List Value}
theorem gx_wrap {α : Type} {m : Sem α} {K : α → Sem Fin} {H : Value → Sem Fin} {gd lv} (h : wpAny M (A.over c fs) m (fun a s' => SegX M A c (K a) fs s' P) (fun x s' => SegX M A c (H x) fs s' P) s) : SegX M A c (m.wrap K H gd lv) fs s P := by
  rintro Γ p rfl hΓ
  obtain ⟨e, s', hr, hq⟩ := runs_wrap_of_wp (Φ := fun e s' => e.quiet = true ∧ P e s') K H gd lv m (h (Γ.over fs) p (hΓ.over fs)) (fun a p' s' h' => h' Γ p' rfl hΓ) (fun x p' s' h' => h' Γ p' rfl hΓ)
  exact ⟨e, s', hr, hq⟩
theorem gx_bind_wrap {α β : Type} {m : Sem α} {K : α → Sem β} {K' : β → Sem Fin} {H' : Value → Sem Fin} {gd lv} (h : wpAny M (A.over c fs) m (fun a s' => SegX M A c ((K a).wrap K' H' gd lv) fs s' P) (fun x s' => SegX M A c (H' x) fs s' P) s) :
    SegX M A c ((m >>= K).wrap K' H' gd lv) fs s P := by
  rw [Sem.bind_eq_wrap', Sem.wrap_wrap]; exact gx_wrap h
theorem gx_at {p' : Pos} {k : Unit → Sem Fin} (h : SegX M A c (k ()) fs s P) : SegX M A c (.at p' k) fs s P := gx_wrap (m := standAt p') (K := k) (H := .raise) (gd := id) (lv := id) (wpAny_standAt h)
theorem gx_point {l : List Value} {k : Unit → Sem Fin} (h : SegX M A c (k ()) fs s P) : SegX M A c (.point l k) fs s P := gx_wrap (m := point) (K := k) (H := .raise) (gd := id) (lv := fun _ => l) (wpAny_point h)
theorem gx_call {c' : Code} {h g l} {k : Result → Sem Fin} (hc : ∀ p, SegX M A c' (M.den c') (.ret k h g l c p [] :: fs) s P) : SegX M A c (.call c' h g l k) fs s P := by
  rintro Γ p rfl hΓ
  obtain ⟨e, s', hr, he⟩ := hc p (Γ.goto c') p rfl (hΓ.goto c')
  exact ⟨e, s', runs_call_seg hr, he⟩
theorem gx_leaf {k h g l c₁ p₁ kp} (r : Result) (hk : SegX M A c₁ (k r) fs s P) : SegX M A c (leafOf r) (.ret k h g l c₁ p₁ kp :: fs) s P := by
  rintro Γ p rfl hΓ
  obtain ⟨e, s', hr, he⟩ := hk (Γ.goto c₁) p₁ rfl (hΓ.goto c₁)
  exact ⟨e, s', Runs.pop r hr, he⟩
theorem gx_again {c' : Code} (hq : c'.quiet = true) (hc : SegX M A c' (M.den c') fs s P) : SegX M A c (.pure (.again c')) fs s P := by
  rintro Γ p rfl hΓ
  obtain ⟨e, s', hr, he⟩ := hc (Γ.goto c') p rfl (hΓ.goto c')
  exact ⟨e, s', Runs.head (c₁ := c') (fun _ _ x => .again hq x) hr, he⟩
theorem gx_end (r : Result) (h : P (.ret r) s) : SegX M A c (leafOf r) [] s P := by
  rintro Γ p rfl _
  exact ⟨.ret r, s, Runs.leaf r, rfl, h⟩
theorem gx_execs_nil (h : SegX M A c (K .next) fs s P) : SegX M A c ((execs [] env).wrap K H gd lv) fs s P := h
theorem gx_execs_cons {st : Stmt} {rest : List Stmt} (h : SegX M A c ((exec st env).wrap (fun f => match f with | .next => (execs rest env).wrap K H gd lv | f => K f) H gd lv) fs s P) :
    SegX M A c ((execs (st :: rest) env).wrap K H gd lv) fs s P := by rw [execs_cons_wrap]; exact h
/-- a yield -/
theorem gx_Yield {e : Expr} {ypos pos : Pos} (hfs : splitAtGen fs = none) (hgd : gd false = false) (hfg : fs.any Frame.guarded = false)
    (h : wpAny M (A.over c fs) (eval e env) (fun v s' => ∀ (l : List Value) (k : Resume → Sem Fin) (p : Pos), (∀ s'' P', SegX M A c (K .next) fs s'' P' → SegX M A c (k (.send .none)) fs s'' P') → P (.susp v false l k c p fs) s') (fun x s' => SegX M A c (H x) fs s' P) s)
    (hco : env.scope.isCoroutine = false) (hi : interactive env = false) (hsw : swapsWith (.Yield (some e) ypos) none pos.line env = pure false := by rfl) : SegX M A c ((exec (.Expr (.Yield (some e) ypos) pos) env).wrap K H gd lv) fs s P := by
  rw [exec_Expr env _ pos hi hsw]
  show SegX M A c (.at pos fun _ => ((eval e env >>= fun v => (standAt ypos >>= fun _ => yieldOut env v)) >>= fun x => dropValue (.Yield (some e) ypos) pos x).wrap K H gd lv) fs s P
  have hy : ∀ v, yieldOut env v = yieldValue v := fun v => by simp only [yieldOut, hco, Bool.false_eq_true, if_false]
  simp only [hy]
  refine gx_at ?_
  rw [Sem.bind_eq_wrap', Sem.bind_eq_wrap', Sem.wrap_wrap, Sem.wrap_wrap]
  refine gx_wrap (wpAny_mono h (fun v s' h' => ?_) fun _ _ x => x)
  refine gx_at ?_
  rintro Γ p rfl _
  refine ⟨_, s', Runs.yield' fs hfs, by simp [End.quiet, hgd, hfg], ?_⟩
  show P (.susp v (gd false) _ _ _ _ _) s'
  rw [hgd]
  exact h' _ _ p fun s'' P' hx => hx
theorem gx_If {t : Expr} {x y : List Stmt} {pos : Pos} (h : wpAny M (A.over c fs) (isTrue t env (eval t env)) (fun b s' => SegX M A c (((if b then execs x env else execs y env)).wrap K H gd lv) fs s' P) (fun x s' => SegX M A c (H x) fs s' P) s) :
    SegX M A c ((exec (.If t x y pos) env).wrap K H gd lv) fs s P := by
  rw [exec_If]
  exact gx_bind_wrap (wpAny_standAt (gx_bind_wrap h))
theorem gx_For {target iter : Expr} {body : List Stmt} {pos : Pos}
    (h : wpAny M (A.over c fs) (eval iter env) (fun x s₁ => wpAny M (A.over c fs) (pyIter x) (fun it s₂ => ∀ p, SegX M A (.forLoop target it body [] env) (M.den (.forLoop target it body [] env))
      (.ret (fun r => ((match r with | .ok f => (.pure f : Sem Flow) | .error e => .raise e).onRaise fun (x : Value) => do
        if (← field x 1) == Value.none then unsupported "frame.own-activation:exception-without-traceback"
        setFlight x env.frame).wrap K H gd lv) none (gd false) (lv []) c p [] :: fs) s₂ P) (fun x s' => SegX M A c (H x) fs s' P) s₁) (fun x s' => SegX M A c (H x) fs s' P) s)
    (hs : ∀ x, foldedSetIterable iter env x = pure x) : SegX M A c ((exec (.For target iter body [] pos) env).wrap K H gd lv) fs s P := by
  rw [exec_For]
  refine gx_bind_wrap (wpAny_standAt (gx_bind_wrap (wpAny_mono h (fun x s₁ h₁ => ?_) fun _ _ x => x)))
  refine gx_bind_wrap (wpAny_of_eq (hs x) ?_)
  refine gx_bind_wrap (wpAny_standAt (gx_bind_wrap (wpAny_holding (wpAny_mono h₁ (fun it s₂ h₂ => gx_call h₂) fun _ _ x => x))))
end
section
variable {prog : Program} {w : World} {A : Around} {P : End → Shared → Prop} {fs : List Frame} {s : Shared} {env : Env}
def noteH (env : Env) (e : Value) : Sem Fin := (do noteFrame e env; theTreesLotGoes e : Sem Unit).wrap (fun _ => .raise e) .raise id id
theorem gx_forLoop {target : Expr} {it : Value} {body : List Stmt}
    (h : wpAny (model prog w) (A.over (.forLoop target it body [] env) fs) (pyNext it) (fun r s₁ => match r with
      | none => SegX (model prog w) A (.block [] env) ((model prog w).den (.block [] env)) fs s₁ P
      | some v => wpAny (model prog w) (A.over (.forLoop target it body [] env) fs) (letOwnedTupleGo target it v) (fun _ s₂ => wpAny (model prog w) (A.over (.forLoop target it body [] env) fs) (assign target env v) (fun _ s₃ =>
          SegX (model prog w) A (.forLoop target it body [] env) ((execs body env).wrap (fun f => match f with
            | .next | .cont => .pure (.again (.forLoop target it body [] env))
            | .brk => .pure (.done .next)
            | .ret v => .pure (.done (.ret v))) (noteH env) id id) fs s₃ P) (fun _ _ => False) s₂) (fun _ _ => False) s₁) (fun _ _ => False) s) :
    SegX (model prog w) A (.forLoop target it body [] env) ((model prog w).den (.forLoop target it body [] env)) fs s P := by
  show SegX _ A _ ((forTurn target it body [] env).onRaise (fun x => do noteFrame x env; theTreesLotGoes x)) fs s P
  rw [Sem.onRaise_eq_wrap]
  unfold forTurn
  refine gx_bind_wrap (wpAny_standAt ?_)
  refine gx_bind_wrap (wpAny_onRaise (wpAny_mono h (fun r s₁ h₁ => ?_) fun _ _ x => x.elim))
  cases r with
  | none => exact gx_again rfl h₁
  | some v =>
    refine gx_bind_wrap (wpAny_mono h₁ (fun _ s₂ h₂ => ?_) fun _ _ x => x.elim)
    refine gx_bind_wrap (wpAny_mono h₂ (fun _ s₃ h₃ => ?_) fun _ _ x => x.elim)
    rw [Sem.bind_eq_wrap', Sem.wrap_wrap]
    rw [Sem.wrap_congr (execs body env) _ _ (K' := fun f => match f with
            | .next | .cont => .pure (.again (.forLoop target it body [] env))
            | .brk => .pure (.done .next)
            | .ret v => .pure (.done (.ret v))) (H' := noteH env) (fun f => by cases f <;> rfl) (fun e => by first | exact Sem.bind_eq_wrap _ _ | (show (do noteFrame e env; theTreesLotGoes e : Sem Unit).bind (fun _ => .raise e) = _; rw [Sem.bind_eq_wrap]; rfl) | rfl)]
    exact h₃
theorem gx_func {body : List Stmt} (h : SegX (model prog w) A (.func body env) ((execs body env).wrap (fun f => .pure (.done (.ret (match f with | .ret v => v | _ => .none)))) (fun e => (leaving env e).wrap (fun _ => .raise e) .raise id id) id id) fs s P) :
    SegX (model prog w) A (.func body env) ((model prog w).den (.func body env)) fs s P := by
  show SegX _ A _ (.point [] fun _ => ((execs body env).onRaise (leaving env)) >>= _) fs s P
  refine gx_point ?_
  rw [Sem.onRaise_eq_wrap, Sem.bind_eq_wrap', Sem.wrap_wrap]
  rw [Sem.wrap_congr (execs body env) _ _ (K' := fun f => .pure (.done (.ret (match f with | .ret v => v | _ => .none))))
    (H' := fun e => (leaving env e).wrap (fun _ => .raise e) .raise id id) (fun f => by cases f <;> rfl)
    (fun e => by rw [Sem.bind_eq_wrap, Sem.wrap_wrap]; rfl)]
  exact h
end
end Mine
end

section
open PySem PySem.W PySem.Calls PySem.Spec PyProof.Rows
open PySem.W.X (SegX)
set_option linter.unusedVariables false
namespace Mine
def GoX (M : Model) (A : Around) (P : End → Shared → Prop) (gs : GenState) (s : Shared) : Prop := match gs with
  | .fresh c => SegX M A c (M.den c) [] s P
  | .suspended k _ c _ fs _ => SegX M A c (k (.send .none)) fs s P
  | _ => False
theorem wpAny_resumeX {M : Model} {A : Around} {P : End → Shared → Prop} {E : Value → Shared → Prop} {s : Shared} {g : Nat} {gs : GenState} {l : List Value} {α : Type} {k : GenResult → Sem α} {Q : α → Shared → Prop} (hg : s.gens[g]? = some gs)
    (hgo : GoX M A P gs (s.setGen g .running)) (h : ∀ e s₁, e.quiet = true → P e s₁ → wpAny M A (k e.result) Q E (s₁.setGen g e.genState)) : wpAny M A (.resume g (.send .none) l k) Q E s := by
  intro Γ p hΓ
  rw [Sem.wp_resume]
  cases gs with
  | fresh c =>
    obtain ⟨e₁, s₁, hr, hq, he⟩ := hgo (Γ.wake c p) p rfl (hΓ.wake c p)
    exact ⟨_, _, by unfold Wakes; rw [hg]; exact ⟨e₁, s₁, hr, hq, rfl, rfl⟩, h e₁ s₁ hq he Γ p hΓ⟩
  | suspended k₀ l₀ c₀ p₀ fs₀ cl =>
    obtain ⟨e₁, s₁, hr, hq, he⟩ := hgo (Γ.wake c₀ p) p₀ rfl (hΓ.wake c₀ p)
    exact ⟨_, _, by unfold Wakes; rw [hg]; exact ⟨e₁, s₁, hr, hq, rfl, rfl⟩, h e₁ s₁ hq he Γ p hΓ⟩
  | running => exact hgo.elim
  | finished => exact hgo.elim
section
variable {prog : Program} {w : World} {A : Around} {E : Value → Shared → Prop} {s : Shared}
theorem next_gen {a : Addr} {g : Nat} {gs : GenState} {P : End → Shared → Prop} {Q : Option Value → Shared → Prop} (hh : A.handled = none) (hl : s.heap.NoLimit) (hroom : A.depth < recursionLimit) (hg : s.heap.IsGen a g) (hgs : s.gens[g]? = some gs)
    (hgo : GoX (model prog w) A.in1 P gs (s.setGen g .running))
    (h : ∀ e s₁, e.quiet = true → P e s₁ → (∃ v, e.result = .yielded v ∧ Q (some v) (s₁.setGen g e.genState)) ∨ (e = .ret (.ok (.ret .none)) ∧ ∀ h', Le s₁.heap h' → Q none { s₁.setGen g .finished with heap := h' })) :
    wpAny (model prog w) A (pyNext (.ref a)) Q E s := by
  unfold pyNext
  refine wpAny_bind (wpAny_attempt (wpAny_callSpecial?_slot (name := Str.ofString "__next__") hg.typeIs slot_gen_next
    (wpAny_call_entry slot_gen_next hg.typeIs entry_gen_next ?_ (args_gen_next _))))
  show wpAny _ A.in1 (Builtin.Generator.genWake (.ref a) (.send .none)) _ _ s
  unfold Builtin.Generator.genWake
  refine wpAny_bind (wpAny_holding (wpAny_genNumber hg (wpAny_bind (wpAny_genState hgs ?_))))
  have main : wpAny (model prog w) A.in1 (.resume g (.send .none) [] fun r => match r with
      | .yielded v => ret v
      | .returned v => do
        if v == .none then raiseNew (← newExc (.type "StopIteration") [])
        rule "generator.return-value"; throw (← newExc (.type "StopIteration") [v])
      | .raised e => do
        Builtin.Generator.genLeft (.ref a) e
      | .running => do rule "generator.already-executing"; raiseError "ValueError" "generator already executing"
      | .justStarted => do rule "generator.send-to-fresh"; raiseError "TypeError" "can't send non-None value to a just-started generator"
      | .finished => do raiseNew (← newExc (.type "StopIteration") [])) (fun fin s' => ∃ r, fin = .done (.ret r) ∧ wpAny (model prog w) A (pure (some r)) Q E s') 
      (fun e s' => wpAny (model prog w) A (do if ← isInstance e (.type "StopIteration") then pure none else throw e) Q E s') s := by
    refine wpAny_resumeX hgs hgo fun e s₁ hq hP => ?_
    rcases h e s₁ hq hP with ⟨v, hv, hQ⟩ | ⟨rfl, hQ⟩
    · rw [hv]
      exact wpAny_pure ⟨v, rfl, wpAny_pure hQ⟩
    · show wpAny _ A.in1 (newExc (.type "StopIteration") [] >>= _) _ _ _
      refine wpAny_bind ?_
      simp only [newExc, newTuple]
      refine wpAny_bind (wpAny_newObj_type ?_ (by size_fits))
      refine wpAny_bind (m := firstArgMember _ _) (wpAny_of_eq (a := Value.none) (by first | rfl | (simp only [firstArgMember]; rfl)) ?_)
      refine wpAny_newObj_type ?_ (by size_fits)
      simp only [raiseNew]
      refine wpAny_bind (wpAny_bind (wpAny_handled ?_))
      first | rw [show A.in1.handled = none from hh] | rw [hh]
      refine wpAny_throw ?_
      refine wpAny_bind (wpAny_isInstance (T := "StopIteration") (b := true) ⟨_, Heap.get?_push_size _ rfl, rfl⟩ isSubtype_stop ?_)
      exact wpAny_pure (hQ _ fun b o hb => Heap.get?_push_of_some _ (Heap.get?_push_of_some _ hb))
  cases gs with
  | running => exact hgo.elim
  | finished => exact hgo.elim
  | _ =>
    refine wpAny_bind (wpAny_roomToWake hl hroom ?_)
    show wpAny _ A.in1 (.resume g (.send .none) [] _) _ _ s
    exact main

/-- list(it): what it gives goes in, one by one. J i o s: i have come, and the list is o. -/
structure Feed (prog : Program) (w : World) (A : Around) (E : Value → Shared → Prop) (I S : Addr) (n : Nat) (Pv : Nat → Value → Prop) (J : Nat → Obj → Shared → Prop) (Fin : Obj → Shared → Prop) : Prop where
  at' : ∀ i o s, J i o s → s.heap.get? S = some o
  typ : ∀ i o s, J i o s → s.TypeIs (.ref I) "generator"
  self : ∀ i o s E (Q : Value → Shared → Prop), J i o s → Q (.ref I) s → wpAny (model prog w) A (pyIter (.ref I)) Q E s
  upd' : ∀ i o s h' o' tk, J i o s → Heap.SameBut S s.heap h' → h'.get? S = some o' → J i o' { s with heap := h', toks := tk }
  item : ∀ i ys k s, i < n → J i (lsN ys k) s → wpAny (model prog w) A (pyNext (.ref I)) (fun r s' => ∃ v, r = some v ∧ Pv i v ∧ J (i + 1) (lsN ys k) s') E s
  done : ∀ ys k s, J n (lsN ys k) s → wpAny (model prog w) A (pyNext (.ref I)) (fun r s' => r = none ∧ Fin (lsN ys k) s') E s
theorem extend_loopJ {R : Result → Shared → Prop} {I S : Addr} {res : Value} {J : Nat → Obj → Shared → Prop} {n : Nat} {Pv : Nat → Value → Prop} {Fin : Obj → Shared → Prop} (F : Feed prog w A.in1 (fun e s' => R (.error e) s') I S n Pv J Fin) (hn : n ≤ sizeLine)
    (hR : ∀ ys c s', ys.length = n → (∀ j v, ys[j]? = some v → Pv j v) → Fin (lsN ys c) s' → R (.ok (.ret res)) s') :
    ∀ (k i : Nat) (s : Shared) (ys : List Value) (c : Nat), n - i = k → i ≤ n → J i (lsN ys c) s → ys.length = i → (∀ j v, ys[j]? = some v → Pv j v) →
      codeAny (model prog w) A (.builtin "list.extend.loop" ⟨[.ref S, .ref I, res], []⟩) R s := by
  intro k
  induction k with
  | zero =>
    intro i s ys c hk hi hJ hl hp
    obtain rfl : i = n := by omega
    refine codeAny_builtin PySem.F.entry_extend_loop ?_
    rw [Around.under_plainId PySem.F.plain_extend_loop _]
    show wpAny _ A.in1 (pyNext (.ref I) >>= _) _ _ s
    refine wpAny_bind (wpAny_mono (F.done ys c s hJ) (fun r s' hr => ?_) fun _ _ x => x)
    obtain ⟨rfl, hf⟩ := hr
    exact wpAny_pure (hR ys c s' hl hp hf)
  | succ k ih =>
    intro i s ys c hk hi hJ hl hp
    refine codeAny_builtin PySem.F.entry_extend_loop ?_
    rw [Around.under_plainId PySem.F.plain_extend_loop _]
    show wpAny _ A.in1 (pyNext (.ref I) >>= _) _ _ s
    refine wpAny_bind (wpAny_mono (F.item i ys c s (by omega) hJ) (fun r s' hr => ?_) fun _ _ x => x)
    obtain ⟨v, rfl, hv, hJ'⟩ := hr
    have hS' := F.at' _ _ _ hJ'
    show wpAny _ A.in1 (updateSeq S (·.push v) >>= _) _ _ _
    refine wpAny_bind ?_
    refine wpAny_updateSeq hS' rfl (wpAny_pure ⟨plainId_quiet PySem.F.plain_extend_loop _, ih (i + 1) _ (ys ++ [v]) (c + 1) (by omega) (by omega) (F.upd' _ _ _ _ _ s'.toks hJ' (Heap.SameBut.update ..) ?_) (by simp [hl]) fun j u hj => ?_⟩)
      (by rw [List.size_toArray]; omega) (by show (ys.toArray.push v).size ≤ sizeLine + 1; rw [Array.size_push, List.size_toArray]; omega)
    · rw [Heap.get?_update_self _ hS' (by rw [mapSeq_push]; rfl), mapSeq_push]
      show some _ = some (lsN (ys ++ [v]) (c + 1))
      rw [List.push_toArray]
    · rw [List.getElem?_append] at hj
      split at hj
      · exact hp j u hj
      · rename_i hlt
        have : j - ys.length = 0 := by
          cases q : j - ys.length with
          | zero => rfl
          | succ z => rw [q] at hj; simp at hj
        rw [this] at hj
        simp at hj
        subst hj
        have : j = i := by omega
        rw [this]; exact hv
theorem list_initJ {R : Result → Shared → Prop} {I S : Addr} {J : Nat → Obj → Shared → Prop} {n : Nat} {Pv : Nat → Value → Prop} {Fin : Obj → Shared → Prop} (F : Feed prog w A.in1 (fun e s' => R (.error e) s') I S n Pv J Fin) (hn : n ≤ sizeLine) (hSI : S ≠ I) {s : Shared} (hJ : J 0 (lsN [] 0) s)
    (hR : ∀ ys c s', ys.length = n → (∀ j v, ys[j]? = some v → Pv j v) → Fin (lsN ys c) s' → R (.ok (.ret .none)) s') :
    wpAny (model prog w) A.in1 (Builtin.«list.__init__» ⟨[.ref S, .ref I], []⟩)
      (fun fin s' => match fin with | .done f => R (.ok f) s' | .again c' => c'.quiet = true ∧ codeAny (model prog w) A c' R s') (fun e s' => R (.error e) s') s := by
  show wpAny _ A.in1 (do let old ← Builtin.List.listItems (.ref S); Builtin.List.listUpdate (.ref S) (fun _ => #[]); letGo old.toList.reverse; Builtin.List.listExtendWith (.ref S) (.ref I) .none) _ _ s
  have hS := F.at' _ _ _ hJ
  refine wpAny_bind ?_
  unfold Builtin.List.listItems
  refine wpAny_bind (wpAny_seqItems hS rfl (wpAny_pure ?_))
  show wpAny _ A.in1 (updateSeq S (fun _ => #[]) >>= fun _ => letGo (#[] : Array Value).toList.reverse >>= fun _ => Builtin.List.listExtendWith (.ref S) (.ref I) .none) _ _ s
  refine wpAny_bind (wpAny_updateSeq hS rfl ?_)
  have hS₂ : (s.heap.update S (Obj.mapSeq fun _ => (#[] : Array Value))).get? S = some (lsN [] 0) := Heap.get?_update_self (Obj.mapSeq (fun _ => (#[] : Array Value))) hS rfl
  have hJ₂ := F.upd' _ _ _ _ _ s.toks hJ (Heap.SameBut.update ..) hS₂
  refine wpAny_bind (wpAny_letGo ?_)
  generalize s.heap.update S (Obj.mapSeq fun _ => (#[] : Array Value)) = h₂ at hS₂ hJ₂
  have h1 : Builtin.List.listSameRef (.ref S) (.ref I) = false := by simp [Builtin.List.listSameRef, hSI]
  have h2 : (Value.type "generator" == Value.type "list") = false := by decide
  have h3 : (Value.type "generator" == Value.type "tuple") = false := by decide
  unfold Builtin.List.listExtendWith
  refine wpAny_bind (wpAny_typeOf (F.typ 0 _ _ hJ₂) ?_)
  simp only [h1, h2, h3, Bool.or_false, Bool.false_eq_true, if_false]
  refine wpAny_bind (F.self 0 _ _ _ _ hJ₂ ?_)
  refine wpAny_bind (wpAny_holding ?_)
  unfold Builtin.List.listLengthHint
  refine wpAny_bind (wpAny_specialOf (F.typ 0 _ _ hJ₂) PySem.F.gen_no_len ?_)
  show wpAny _ A.in1 (specialOf (Value.ref I) (Str.ofString "__length_hint__") >>= _) _ _ _
  refine wpAny_bind (wpAny_specialOf (F.typ 0 _ _ hJ₂) PySem.F.gen_no_hint ?_)
  refine wpAny_pure ?_
  show wpAny _ A.in1 (rule "list.extend.makes-room" >>= fun _ => Builtin.List.listTouch (.ref S) >>= fun _ =>
    again (.builtin "list.extend.loop" ⟨[.ref S, .ref I, .none], []⟩)) _ _ _
  refine wpAny_bind (wpAny_rule ?_)
  refine wpAny_bind ?_
  show wpAny _ A.in1 (updateSeq S (·.push .none) >>= fun _ => updateSeq S (·.pop)) _ _ _
  refine wpAny_bind (wpAny_updateSeq hS₂ rfl ?_)
  have hS₃ := Heap.get?_update_self (Obj.mapSeq (·.push Value.none)) hS₂ rfl
  refine wpAny_updateSeq (hz := by seq_fits) hS₃ rfl ?_
  have hS₄ : ((h₂.update S (Obj.mapSeq (·.push Value.none))).update S (Obj.mapSeq (·.pop))).get? S = some (lsN [] 2) := Heap.get?_update_self (Obj.mapSeq (·.pop)) hS₃ rfl
  have hsb : Heap.SameBut S h₂ ((h₂.update S (Obj.mapSeq (·.push Value.none))).update S (Obj.mapSeq (·.pop))) := (Heap.SameBut.update h₂ S _).trans (Heap.SameBut.update _ S _)
  have hJ₃ := F.upd' 0 (lsN [] 0) _ _ (lsN [] 2) s.toks hJ₂ hsb hS₄
  refine wpAny_pure ⟨plainId_quiet PySem.F.plain_extend_loop _, extend_loopJ F hn hR n 0 _ [] 2 rfl (Nat.zero_le _) hJ₃ rfl (fun j v h => by simp at h)⟩
theorem call_listJ {Q : Value → Shared → Prop} {I : Addr} {J : Nat → Obj → Shared → Prop} {n : Nat} {Pv : Nat → Value → Prop} {Fin : Obj → Shared → Prop} (F : Feed prog w A.in1.in1 E I s.heap.objs.size n Pv J Fin) (hn : n ≤ sizeLine) (hSI : s.heap.objs.size ≠ I)
    (hJ : J 0 (lsN [] 0) { s with heap := s.heap.push (lsN [] 0) }) (hQ : ∀ ys c s', ys.length = n → (∀ j v, ys[j]? = some v → Pv j v) → Fin (lsN ys c) s' → Q (.ref s.heap.objs.size) s') : wpAny (model prog w) A (call (.type "list") [.ref I]) Q E s := by
  refine callType_codes (Q₁ := fun obj s₁ => obj = .ref s.heap.objs.size ∧ s₁ = { s with heap := s.heap.push { cls := .type "list", data := .seq #[] } }) PySem.F.called_list (PySem.F.typeCall_list_1 _) PySem.F.entry_list_init
    (code_list_new _ ⟨rfl, rfl⟩) fun obj s₁ h₁ => ?_
  obtain ⟨rfl, rfl⟩ := h₁
  have hS : (s.heap.push { cls := .type "list", data := .seq #[] }).get? s.heap.objs.size = some { cls := .type "list", data := .seq #[] } := Heap.get?_push_size _ rfl
  refine ⟨⟨_, hS, rfl⟩, PySem.F.args_list_init_2 _ _, ?_⟩
  refine list_initJ (A := A.in1) (R := wants (fun r s₂ => r = .none ∧ Q (.ref s.heap.objs.size) s₂) E) F hn hSI hJ fun ys c s' h1 h2 h3 => ⟨rfl, hQ ys c s' h1 h2 h3⟩
end
end Mine
end

section
open PySem PySem.W PySem.Calls PySem.Spec PyProof.Rows
open PySem.W.X (SegX)
set_option linter.unusedVariables false
namespace Mine
section
variable {prog : Program} {Γ : Fx prog} {b : Heap} {m : Str → Option Value} {own : List (Addr × Obj)}
theorem Tv.inTup {l r : Expr} {pos} {a : Addr} {vs : List Value} {xs : List Str} {x : Str} (hl : b.IsTuple a vs.toArray) (hi : All2 (fun v x => IsS x v) vs xs) (hk : Ev Γ b m own l (IsS x)) (he : Ev Γ b m own r (IsV (.ref a))) (hm : behindInMarks .In r = false) :
    Tv Γ b m own (.Compare l [.In] [r] pos) (xs.contains x) := by
  intro s E T
  refine wpAny_isTrue_Compare1 (hk.use T fun u s₁ hx T₁ => he.use T₁ fun v s₂ hv T₂ => ?_) hm
  obtain ⟨t, rfl⟩ := hx
  obtain rfl : v = .ref a := hv
  refine SeqAt.in_tupleAt (fun u => match u with | .str z _ => z == x | _ => false) (let ⟨o, e, q⟩ := hl; ⟨o, T₂.keep _ _ e, q⟩) (fun y hy => ?_) ?_
  · obtain ⟨i, hi', e⟩ := List.mem_iff_getElem.mp (by simpa using hy : y ∈ vs)
    obtain ⟨z, hz, tz, rfl⟩ := hi.getL (i := i) (x := y) (by rw [List.getElem?_eq_getElem hi', e])
    exact (eqGives_str z x tz t).at _ _
  · rw [List.any_toArray' (h := rfl)]
    exact wpAny_truthy_bool ⟨strs_any hi, T₂⟩
end
abbrev Fx.seg {prog : Program} (Γ : Fx prog) (Ag : Around) (c : Code) (fs : List Frame) : Fx prog := { Γ with A := Ag.over c fs }
def passF (tag : Str) (x : Str) : Bool := ([("  " : Str), tag] : List Str).contains (StrLaws.sliceText x none (some 2))
def cutF (x : Str) : Str := StrLaws.sliceText x (some 2) none
def restF (tag : Str) (xs : List Str) : List Str := (xs.filter (passF tag)).map cutF

section
variable {Γ : Fx Prg} {b : Heap} {own : List (Addr × Obj)} {Ag : Around} {F : Frame} {P : End → Shared → Prop} {pt p1 p2 p3 p4 p5 p6 p7 p8 p9 p10 p11 p12 p13 : Pos} {k1 k2 : Nat} {I D Pt : Addr} {vs tv : List Value} {xs : List Str} {tag : Str}
abbrev rsBody (p1 p2 p3 p4 p5 p6 p7 p8 p9 p10 p11 p12 p13 : Pos) (k1 k2 : Nat) : List Stmt :=
  [.If (.Compare (.Subscript (.Name "line" p1) (.Slice none (some (.Constant (.int 2) k1 p2)) none p3) p4) [.In] [.Name "prefixes" p5] p6)
    [.Expr (.Yield (some (.Subscript (.Name "line" p7) (.Slice (some (.Constant (.int 2) k2 p8)) none none p9) p10)) p11) p12] [] p13]
theorem gen_loop (k₀ : Nat) (O : (Γ.seg Ag (.forLoop (.Name "line" pt) (.ref I) (rsBody p1 p2 p3 p4 p5 p6 p7 p8 p9 p10 p11 p12 p13 k1 k2) [] Γ.env) [F]).Ok) (hlin : Γ.env.kindOf ("line" : Str) = some .local) (hpre : Γ.env.kindOf ("prefixes" : Str) = some .local)
    (hsp : splitAtGen [F] = none) (hgu : [F].any Frame.guarded = false) (hco : Γ.env.scope.isCoroutine = false) (hint : interactive Γ.env = false)
    (hD : b.IsList D vs.toArray) (hi : All2 (fun v x => IsS x v) vs xs) (hP : b.IsTuple Pt tv.toArray) (ht : All2 (fun v x => IsS x v) tv [("  " : Str), tag]) (hlen : ∀ x ∈ xs, x.length ≤ 2 ^ 20)
    (hend : ∀ s' m', (xs.filter (passF tag)) = ((xs.take k₀).filter (passF tag)) → Γ.S b m' own s' → SegX (model Prg Γ.w) Ag (.block [] Γ.env) (leafOf (.ok .next)) [F] s' P)
    (hyield : ∀ k x v s' l κ p m' oI, k₀ ≤ k → xs[k]? = some x → passF tag x = true → ((xs.take k).filter (passF tag)) = ((xs.take k₀).filter (passF tag)) → IsS (cutF x) v → m' ("prefixes" : Str) = some (.ref Pt) → Γ.S b m' ((I, oI) :: own) s' → s'.heap.IsListIter I D (k + 1) →
      (∀ s'' P', SegX (model Prg Γ.w) Ag (.forLoop (.Name "line" pt) (.ref I) (rsBody p1 p2 p3 p4 p5 p6 p7 p8 p9 p10 p11 p12 p13 k1 k2) [] Γ.env) ((model Prg Γ.w).den (.forLoop (.Name "line" pt) (.ref I) (rsBody p1 p2 p3 p4 p5 p6 p7 p8 p9 p10 p11 p12 p13 k1 k2) [] Γ.env)) [F] s'' P' →
        SegX (model Prg Γ.w) Ag (.forLoop (.Name "line" pt) (.ref I) (rsBody p1 p2 p3 p4 p5 p6 p7 p8 p9 p10 p11 p12 p13 k1 k2) [] Γ.env) (κ (.send .none)) [F] s'' P') →
      P (.susp v false l κ (.forLoop (.Name "line" pt) (.ref I) (rsBody p1 p2 p3 p4 p5 p6 p7 p8 p9 p10 p11 p12 p13 k1 k2) [] Γ.env) p [F]) s') :
    ∀ n k s m oI, xs.length - k = n → k₀ ≤ k → k ≤ xs.length → ((xs.take k).filter (passF tag)) = ((xs.take k₀).filter (passF tag)) → m ("prefixes" : Str) = some (.ref Pt) → Γ.S b m ((I, oI) :: own) s → s.heap.IsListIter I D k →
      SegX (model Prg Γ.w) Ag (.forLoop (.Name "line" pt) (.ref I) (rsBody p1 p2 p3 p4 p5 p6 p7 p8 p9 p10 p11 p12 p13 k1 k2) [] Γ.env) ((model Prg Γ.w).den (.forLoop (.Name "line" pt) (.ref I) (rsBody p1 p2 p3 p4 p5 p6 p7 p8 p9 p10 p11 p12 p13 k1 k2) [] Γ.env)) [F] s P := by
  have hh : (Ag.over (.forLoop (.Name "line" pt) (.ref I) (rsBody p1 p2 p3 p4 p5 p6 p7 p8 p9 p10 p11 p12 p13 k1 k2) [] Γ.env) [F]).handled = none := O.hand
  have hl := hi.length
  intro n
  induction n with
  | zero =>
    intro k s m oI hn h0 hk hq hm T hit
    obtain rfl : k = xs.length := by omega
    refine gx_forLoop (wpAny_pyNext_list_end hh hit (isl_mono T.keep hD) (by rw [List.getElem?_toArray]; exact List.getElem?_eq_none (by omega)) fun h₂ he => ?_)
    rw [List.take_length] at hq
    have T₀ := T.drop
    have nI := T.nd
    have offI := T.off I (by simp)
    simp only [List.map_cons, List.nodup_cons, List.mem_cons, not_or] at nI
    have kk : ∀ a o, a ≠ I → s.heap.get? a = some o → h₂.get? a = some o := fun a o n e => he a o n e
    refine hend _ m hq ⟨T₀.ns.at' fun o e => kk _ _ nI.1.2.1 e, T₀.gr, fun a o e => kk _ _ (fun q => by rw [q, offI] at e; cases e) (T₀.keep _ _ e), fun p hp => kk _ _ (fun q => nI.2.2.1 (q ▸ List.mem_map_of_mem hp)) (T₀.ow p hp), T₀.nd, T₀.off, ?_, T₀.dr, T₀.os, T₀.bare⟩
    obtain ⟨ps, e, t⟩ := T₀.tab
    exact ⟨ps, kk _ _ nI.2.1.1 e, t⟩
  | succ n ih =>
    intro k s m oI hn h0 hk hq hm T hit
    have hlt : k < vs.length := by omega
    obtain ⟨x, hx, hv⟩ := hi.getL (i := k) (List.getElem?_eq_getElem hlt)
    refine gx_forLoop (wpAny_pyNext_list_item hit (isl_mono T.keep hD) (x := vs[k]) (by rw [List.getElem?_toArray]; exact List.getElem?_eq_getElem hlt) fun h₁ hit₁ hs₁ => ?_)
    have hit₁' := hit₁
    obtain ⟨o₁, e₁, _⟩ := hit₁'
    have T₁ := T.upd (l1 := []) (tk := s.toks) hs₁ e₁
    refine wpAny_of_eq (rfl : letOwnedTupleGo (.Name "line" pt) (.ref I) vs[k] = pure ()) ?_
    refine wpAny_assign_Name (stores (Γ := Γ.seg Ag _ [F]) O T₁ hlin fun s₂ T₂ => ?_)
    have hit₂ : s₂.heap.IsListIter I D (k + 1) := by
      obtain ⟨o', e', r⟩ := hit₁
      rw [e₁] at e'; cases e'
      exact ⟨o₁, T₂.ow (I, o₁) (.head _), r⟩
    have hline : ∃ t, upd m ("line" : Str) vs[k] ("line" : Str) = some (.str x t) := by
      obtain ⟨t, e⟩ := hv
      exact ⟨t, by rw [upd_eq, e]⟩
    have hpre' : upd m ("line" : Str) vs[k] ("prefixes" : Str) = some (.ref Pt) := by rw [upd_ne (by decide)]; exact hm
    have hxl : x.length ≤ 2 ^ 20 := hlen x (List.mem_of_getElem? hx)
    have tk : xs.take (k + 1) = xs.take k ++ [x] := by rw [List.take_add_one, hx]; rfl
    have eline : ∀ {pos}, Ev (Γ.seg Ag (.forLoop (.Name "line" pt) (.ref I) (rsBody p1 p2 p3 p4 p5 p6 p7 p8 p9 p10 p11 p12 p13 k1 k2) [] Γ.env) [F]) b (upd m ("line" : Str) vs[k]) ((I, o₁) :: own) (.Name "line" pos) (IsS x) := Ev.locS O hline hlin (by decide)
    refine gx_execs_cons (gx_If (Tv.use (Γ := Γ.seg Ag (.forLoop (.Name "line" pt) (.ref I) (rsBody p1 p2 p3 p4 p5 p6 p7 p8 p9 p10 p11 p12 p13 k1 k2) [] Γ.env) [F]) (Tv.inTup hP ht (Ev.sliceS eline (pl := none) (pu := some 2) trivial Ev.int hxl (fun _ _ => rfl)) (Ev.loc O hpre' hpre (by decide)) (by rfl)) T₂ fun s₃ T₃ => ?_))
    have hit₃ : s₃.heap.IsListIter I D (k + 1) := by
      obtain ⟨o', e', r⟩ := hit₂
      rw [T₂.ow (I, o₁) (.head _)] at e'; cases e'
      exact ⟨o₁, T₃.ow (I, o₁) (.head _), r⟩
    cases hc : ([("  " : Str), tag] : List Str).contains (StrLaws.sliceText x none (some 2)) with
    | false =>
      rw [if_neg Bool.false_ne_true]
      refine gx_again rfl (ih (k + 1) s₃ _ o₁ (by omega) (by omega) (by omega) ?_ hpre' T₃ hit₃)
      rw [tk, List.filter_append, List.filter_cons_of_neg (by rw [passF, hc]; exact Bool.false_ne_true), List.filter_nil, List.append_nil, hq]
    | true =>
      rw [if_pos rfl]
      refine gx_execs_cons (gx_Yield hsp rfl hgu (Ev.use (Γ := Γ.seg Ag (.forLoop (.Name "line" pt) (.ref I) (rsBody p1 p2 p3 p4 p5 p6 p7 p8 p9 p10 p11 p12 p13 k1 k2) [] Γ.env) [F]) (Ev.sliceS eline (pl := some 2) (pu := none) Ev.int trivial hxl (fun _ _ => rfl)) T₃ fun v s₄ hv4 T₄ l κ p hκ => ?_) hco hint)
      refine hyield k x v s₄ l κ p _ o₁ h0 hx hc hq hv4 hpre' T₄ ?_ fun s'' P' hS => hκ s'' P' (gx_again rfl hS)
      obtain ⟨o', e', r⟩ := hit₃
      rw [T₃.ow (I, o₁) (.head _)] at e'; cases e'
      exact ⟨o₁, T₄.ow (I, o₁) (.head _), r⟩
end
end Mine
end

section
open PySem PySem.W PySem.Calls PySem.Spec PyProof.Rows
open PySem.W.X (SegX)
set_option linter.unusedVariables false
namespace Mine
theorem gb_set {n g : Nat} {a : Array GenState} {x : GenState} (h : GB n a) (hx : x.bare = true) : GB n (a.setIfInBounds g x) := by
  refine ⟨fun y hy => ?_, by simpa using h.2⟩
  obtain ⟨i, hi, rfl⟩ := Array.mem_iff_getElem.mp hy
  rw [Array.getElem_setIfInBounds (by simpa using hi)]
  split
  · exact hx
  · exact h.1 _ (Array.getElem_mem _)
theorem St.setGen {g b : Heap} {L : Addr} {m : Str → Option Value} {own : List (Addr × Obj)} {dr : Dn} {os : OsState} {s : Shared} (T : St g b L m own dr os s) {i : Nat} {x : GenState} (hx : x.bare = true) : St g b L m own dr os (s.setGen i x) :=
  ⟨T.ns, T.gr, T.keep, T.ow, T.nd, T.off, T.tab, T.dr, T.os, gb_set T.bare hx⟩
structure Rs where
  (pt p1 p2 p3 p4 p5 p6 p7 p8 p9 p10 p11 p12 p13 a1 a2 a3 a4 a5 a6 a7 a8 a9 b1 b2 b3 b4 b5 c1 c2 q1 q2 q3 q4 q5 : Pos)
  (k1 k2 r1 r2 r3 r4 kb kt : Nat)
  (b₀ : Stmt)
  (suite : List Stmt)
abbrev Rs.loopBody (r : Rs) : List Stmt := rsBody r.p1 r.p2 r.p3 r.p4 r.p5 r.p6 r.p7 r.p8 r.p9 r.p10 r.p11 r.p12 r.p13 r.k1 r.k2
abbrev Rs.body (r : Rs) : List Stmt :=
  [.Try [.Assign [.Name "tag" r.a1] (.Subscript (.Dict [some (.Constant (.int 1) r.r1 r.q1), some (.Constant (.int 2) r.r2 r.q2)] [.Constant (.str "- ") r.r3 r.q3, .Constant (.str "+ ") r.r4 r.q4] r.q5) (.Call (.Name "int" r.a2) [.Name "which" r.a3] [] r.a4) r.a5) r.a6]
      [.ExceptHandler (some (.Name "KeyError" r.a7)) none (r.b₀ :: r.suite) r.a8] [] [] r.a9,
    .Assign [.Name "prefixes" r.b1] (.Tuple [.Constant (.str "  ") r.kb r.b2, .Name "tag" r.b3] r.kt r.b4) r.b5,
    .For (.Name "line" r.pt) (.Name "delta" r.c1) r.loopBody [] r.c2]
abbrev Rs.LC (r : Rs) (env : Env) (I : Addr) : Code := .forLoop (.Name "line" r.pt) (.ref I) r.loopBody [] env
abbrev K0 : Flow → Sem PySem.Fin := fun f => .pure (.done (.ret (match f with | .ret v => v | _ => .none)))
abbrev H0 (env : Env) : Value → Sem PySem.Fin := fun e => (leaving env e).wrap (fun _ => .raise e) .raise id id
abbrev K1 (env : Env) : Flow → Sem PySem.Fin := fun f => match f with | .next => (execs [] env).wrap K0 (H0 env) id id | f => K0 f
abbrev goOn (env : Env) : Result → Sem PySem.Fin := fun r => ((match r with | .ok f => (.pure f : Sem Flow) | .error e => .raise e).onRaise fun (x : Value) => do
        if (← field x 1) == Value.none then unsupported "frame.own-activation:exception-without-traceback"
        setFlight x env.frame).wrap (K1 env) (H0 env) id id
abbrev Rs.F (r : Rs) (env : Env) (p : Pos) : Frame := .ret (goOn env) none false [] (.func r.body env) p []
section
variable {Γ : Fx Prg} {b : Heap} {own : List (Addr × Obj)} {m : Str → Option Value} {Ag : Around} {P : End → Shared → Prop} {r : Rs} {D : Addr} {vs : List Value} {xs : List Str} {tag : Str} {wv : Value} {i : Int} {w : World} {mg mb : Str → Option Value}
theorem gen_start (W : Wd w mg mb Γ.g) (O1 : (Γ.seg Ag (.func r.body Γ.env) []).Ok) (O2 : ∀ I p, (Γ.seg Ag (r.LC Γ.env I) [r.F Γ.env p]).Ok)
    (hk : ∀ x k, (x, k) ∈ ([("line", .local), ("prefixes", .local), ("tag", .local), ("delta", .local), ("which", .local), ("int", .globalImplicit)] : List (Str × NameKind)) → Γ.env.kindOf x = some k) (hco : Γ.env.scope.isCoroutine = false) (hint : interactive Γ.env = false)
    (hD : b.IsList D vs.toArray) (hi : All2 (fun v x => IsS x v) vs xs) (hlen : ∀ x ∈ xs, x.length ≤ 2 ^ 20) (htag : tagOf i = some tag) (hcev : ∀ b m own, Cev (Γ.seg Ag (.func r.body Γ.env) []) b m own (.type "int") [wv] (IsI i))
    (hm1 : m ("delta" : Str) = some (.ref D)) (hm2 : m ("which" : Str) = some wv)
    (hend : ∀ s' b' m', xs.filter (passF tag) = [] → Le b b' → Γ.S b' m' own s' → P (.ret (.ok (.ret .none))) s')
    (hyield : ∀ k x v s' l κ p p' m' oI b' I Pt tv, Le b b' → xs[k]? = some x → passF tag x = true → (xs.take k).filter (passF tag) = [] → IsS (cutF x) v → b'.IsTuple Pt tv.toArray → All2 (fun v x => IsS x v) tv [("  " : Str), tag] → m' ("prefixes" : Str) = some (.ref Pt) → Γ.S b' m' ((I, oI) :: own) s' → s'.heap.IsListIter I D (k + 1) →
      (∀ s'' P', SegX (model Prg Γ.w) Ag (r.LC Γ.env I) ((model Prg Γ.w).den (r.LC Γ.env I)) [r.F Γ.env p'] s'' P' → SegX (model Prg Γ.w) Ag (r.LC Γ.env I) (κ (.send .none)) [r.F Γ.env p'] s'' P') → P (.susp v false l κ (r.LC Γ.env I) p [r.F Γ.env p']) s')
    {s : Shared} (T : Γ.S b m own s) : SegX (model Prg Γ.w) Ag (.func r.body Γ.env) ((model Prg Γ.w).den (.func r.body Γ.env)) [] s P := by
  have kl := hk ("line" : Str) .local (by simp)
  have kp := hk ("prefixes" : Str) .local (by simp)
  have kt := hk ("tag" : Str) .local (by simp)
  have kd := hk ("delta" : Str) .local (by simp)
  have kw := hk ("which" : Str) .local (by simp)
  have ki := hk ("int" : Str) .globalImplicit (by simp)
  refine gx_func (gx_execs_cons (gx_wrap ?_))
  refine wpAny_Try_except ?_
  refine wpAny_execs_cons ?_
  with_reducible refine wpAny_Assign_Name ?_ ?_
  rotate_left
  · rfl
  with_reducible refine tagDict (Γ := Γ.seg Ag (.func r.body Γ.env) []) (m := m) (b := b) (own := own) (i := i) (fun D' o' => ?_) T (fun tg htg v s₁ hv T₁ => ?_) (fun h => by rw [htag] at h; cases h) (fun h => by rw [htag] at h; cases h) W.lim ?_
  rotate_left 2
  · exact fun _ _ => rfl
  · refine Ev.call1 (P := IsV wv) (Ev.boot O1 W (by kernel_rfl) (by kernel_rfl) (by decide) ki (by decide)) (.typ "int") (Ev.loc O1 hm2 kw (by decide)) fun x hx => ?_
    rw [show x = wv from hx]
    exact hcev _ _ _
  rw [htag] at htg
  cases htg
  refine stores (Γ := Γ.seg Ag (.func r.body Γ.env) []) O1 T₁ kt fun s₂ T₂ => ?_
  refine wpAny_execs_nil (wpAny_execs_nil ?_)
  show SegX _ Ag _ ((execs _ Γ.env).wrap _ _ _ _) [] s₂ P
  refine gx_execs_cons ?_
  refine gx_wrap ?_
  with_reducible refine wpAny_Assign_Name ?_ ?_
  rotate_left
  · rfl
  refine wpAny_Tuple_spliced ?_
  have hv' : ∃ t, upd m ("tag" : Str) v ("tag" : Str) = some (.str tag t) := by
    obtain ⟨t, rfl⟩ := hv
    exact ⟨t, upd_eq _ _ _⟩
  refine spliced_more (Ev.use (Γ := Γ.seg Ag (.func r.body Γ.env) []) Ev.str T₂ fun v1 s₃ h1 T₃ => ?_) (by rfl)
  refine spliced_more (Ev.use (Γ := Γ.seg Ag (.func r.body Γ.env) []) (Ev.locS O1 hv' kt (by decide)) T₃ fun v2 s₄ h2 T₄ => ?_) (by rfl)
  refine spliced_none ⟨by show 2 ≤ sizeLine; rw [sizeLine_eq]; decide, ?_⟩
  obtain ⟨b', l, n1, n2, e, T₅⟩ := pushFreeze (Γ := Γ.seg Ag (.func r.body Γ.env) []) T₄ (o := { cls := .type "tuple", data := .seq [v1, v2].toArray }) rfl
  refine stores (Γ := Γ.seg Ag (.func r.body Γ.env) []) O1 T₅ kp fun s₆ T₆ => ?_
  show SegX _ Ag _ ((execs _ Γ.env).wrap _ _ _ _) [] s₆ P
  have hD' := isl_mono l hD
  refine gx_execs_cons (gx_For (Ev.use (Γ := Γ.seg Ag (.func r.body Γ.env) []) (P := IsV (.ref D)) (Ev.loc O1 (by rw [upd_ne (by decide), upd_ne (by decide)]; exact hm1) kd (by decide)) T₆ fun v3 s₇ h3 T₇ => ?_) (fun _ => rfl))
  obtain rfl : v3 = .ref D := h3
  refine wpAny_pyIter_list (isl_mono T₇.keep hD') fun p => ?_
  have T₈ := T₇.pushOwn (o := { cls := .type "list_iterator", data := .fields #[.ref D, .int 0 0] }) rfl
  have hP : b'.IsTuple s₄.heap.objs.size [v1, v2].toArray := ⟨_, e, rfl, _, rfl⟩
  have ht : All2 (fun v x => IsS x v) [v1, v2] [("  " : Str), tag] := .cons h1 (.cons h2 .nil)
  refine gen_loop (Γ := Γ) (Ag := Ag) (F := r.F Γ.env p) (b := b') 0 (O2 _ p) kl kp rfl rfl hco hint hD' hi hP ht hlen ?_ ?_ xs.length 0 _ _ _ rfl (Nat.le_refl _) (Nat.zero_le _) rfl (upd_eq _ _ _) T₈ ⟨_, T₈.ow _ (.head _), rfl, rfl⟩
  · intro s' m' hq S'
    exact gx_leaf (.ok .next) (gx_end (.ok (.ret .none)) (hend s' b' m' (by simpa using hq) l S'))
  · intro k x v s' l' κ p' m' oI _ hx hp hq hv hm' S' hit hκ
    exact hyield k x v s' l' κ p' p m' oI b' _ _ _ l hx hp (by simpa using hq) hv hP ht hm' S' hit hκ
end
end Mine
end

section
open PySem PySem.W PySem.Calls PySem.Spec PyProof.Rows
open PySem.W.X (SegX)
set_option linter.unusedVariables false
namespace Mine
theorem St.redr {g b : Heap} {L : Addr} {m : Str → Option Value} {own : List (Addr × Obj)} {dr : Dn} {os : OsState} {s : Shared} (T : St g b L m own dr os s) {n : Nat} (h : n ≤ s.gens.size) : St g b L m own (dr.1, n) os s :=
  ⟨T.ns, T.gr, T.keep, T.ow, T.nd, T.off, T.tab, T.dr, T.os, ⟨T.bare.1, h⟩⟩
/-- the other frame -/
theorem St.swap {g b : Heap} {L L' : Addr} {m m' : Str → Option Value} {l1 l2 : List (Addr × Obj)} {o' oL : Obj} {dr : Dn} {os : OsState} {s : Shared} (T : St g b L m (l1 ++ (L', o') :: l2) dr os s) (hn : s.heap.Ns L' m') (hL : s.heap.get? L = some oL) :
    St g b L' m' (l1 ++ (L, oL) :: l2) dr os s := by
  have perm : (L' :: 57 :: (l1 ++ (L, oL) :: l2).map (·.1)).Perm (L :: 57 :: (l1 ++ (L', o') :: l2).map (·.1)) := by
    have e1 : ∀ x y, ((l1 ++ (x, y) :: l2).map (·.1)).Perm (x :: (l1 ++ l2).map (·.1)) := fun x y => by
      have : (l1 ++ (x, y) :: l2).Perm ((x, y) :: (l1 ++ l2)) := List.perm_middle
      exact this.map _
    have a1 := ((e1 L oL).cons 57).cons L'
    have a2 := ((e1 L' o').cons 57).cons L
    refine a1.trans (List.Perm.trans ?_ a2.symm)
    refine List.Perm.trans (.swap 57 L' _) (List.Perm.trans (.cons 57 (.swap L L' _)) ?_)
    exact List.Perm.trans (.cons 57 (List.Perm.refl _)) (.swap L 57 _)
  refine ⟨hn, T.gr, T.keep, fun p hp => ?_, perm.nodup_iff.mpr T.nd, fun a ha => T.off a (perm.mem_iff.mp ha), T.tab, T.dr, T.os, T.bare⟩
  rcases List.mem_append.mp hp with hp | hp
  · exact T.ow p (List.mem_append_left _ hp)
  · rcases List.mem_cons.mp hp with rfl | hp
    · exact hL
    · exact T.ow p (List.mem_append_right _ (.tail _ hp))
end Mine
end

section
open PySem PySem.W PySem.Calls PySem.Spec PyProof.Rows
open PySem.W.X (SegX)
set_option linter.unusedVariables false
namespace Mine
/-- the generator has given i texts; S holds o -/
def GJ (Γ : Fx Prg) (Ag : Around) (r : Rs) (D : Addr) (xs : List Str) (tag : Str) (g : Nat) (m0 : Str → Option Value) (b : Heap) (S : Addr) (own : List (Addr × Obj)) (i : Nat) (o : Obj) (s : Shared) : Prop :=
  (i = 0 ∧ s.gens[g]? = some (.fresh (.func r.body Γ.env)) ∧ Γ.S b m0 ((S, o) :: own) s) ∨
  ∃ k x gs I oI b' m' Pt tv p', xs[k]? = some x ∧ passF tag x = true ∧ ((xs.take k).filter (passF tag)).length + 1 = i ∧ Le b b' ∧ b'.IsTuple Pt tv ∧ All2 (fun v x => IsS x v) tv.toList [("  " : Str), tag] ∧ m' ("prefixes" : Str) = some (.ref Pt) ∧
    Γ.S b' m' ((I, oI) :: (S, o) :: own) s ∧ s.heap.IsListIter I D (k + 1) ∧ s.gens[g]? = some gs ∧
    ∀ s'' P', SegX (model Prg Γ.w) Ag (r.LC Γ.env I) ((model Prg Γ.w).den (r.LC Γ.env I)) [r.F Γ.env p'] s'' P' → GoX (model Prg Γ.w) Ag P' gs s''
def GP (Γ : Fx Prg) (Ag : Around) (r : Rs) (D : Addr) (xs : List Str) (tag : Str) (b : Heap) (S : Addr) (own : List (Addr × Obj)) (i : Nat) (o : Obj) (e : End) (s : Shared) : Prop :=
  (∃ k x v I oI b' m' Pt tv p' l κ p, e = .susp v false l κ (r.LC Γ.env I) p [r.F Γ.env p'] ∧ xs[k]? = some x ∧ passF tag x = true ∧ ((xs.take k).filter (passF tag)).length = i ∧ IsS (cutF x) v ∧ Le b b' ∧ b'.IsTuple Pt tv ∧ All2 (fun v x => IsS x v) tv.toList [("  " : Str), tag] ∧ m' ("prefixes" : Str) = some (.ref Pt) ∧
    Γ.S b' m' ((I, oI) :: (S, o) :: own) s ∧ s.heap.IsListIter I D (k + 1) ∧
    ∀ s'' P', SegX (model Prg Γ.w) Ag (r.LC Γ.env I) ((model Prg Γ.w).den (r.LC Γ.env I)) [r.F Γ.env p'] s'' P' → SegX (model Prg Γ.w) Ag (r.LC Γ.env I) (κ (.send .none)) [r.F Γ.env p'] s'' P') ∨
  (e = .ret (.ok (.ret .none)) ∧ (xs.filter (passF tag)).length = i ∧ ∃ b' m', Le b b' ∧ Γ.S b' m' ((S, o) :: own) s)
section
variable {Γ : Fx Prg} {b : Heap} {own : List (Addr × Obj)} {m0 : Str → Option Value} {Ag : Around} {r : Rs} {D S : Addr} {vs : List Value} {xs : List Str} {tag : Str} {wv : Value} {i : Int} {w : World} {mg mb : Str → Option Value} {g : Nat}
theorem gen_go (W : Wd w mg mb Γ.g) (O1 : (Γ.seg Ag (.func r.body Γ.env) []).Ok) (O2 : ∀ I p, (Γ.seg Ag (r.LC Γ.env I) [r.F Γ.env p]).Ok)
    (hk : ∀ x k, (x, k) ∈ ([("line", .local), ("prefixes", .local), ("tag", .local), ("delta", .local), ("which", .local), ("int", .globalImplicit)] : List (Str × NameKind)) → Γ.env.kindOf x = some k) (hco : Γ.env.scope.isCoroutine = false) (hint : interactive Γ.env = false)
    (hD : b.IsList D vs.toArray) (hi : All2 (fun v x => IsS x v) vs xs) (hlen : ∀ x ∈ xs, x.length ≤ 2 ^ 20) (htag : tagOf i = some tag) (hcev : ∀ b m own, Cev (Γ.seg Ag (.func r.body Γ.env) []) b m own (.type "int") [wv] (IsI i))
    (hm1 : m0 ("delta" : Str) = some (.ref D)) (hm2 : m0 ("which" : Str) = some wv) {n : Nat} {o : Obj} {s : Shared} (J : GJ Γ Ag r D xs tag g m0 b S own n o s) :
    ∃ gs, s.gens[g]? = some gs ∧ GoX (model Prg Γ.w) Ag (GP Γ Ag r D xs tag b S own n o) gs (s.setGen g .running) := by
  rcases J with ⟨rfl, hg, T⟩ | ⟨k, x, gs, I, oI, b', m', Pt, tv, p', hx, hp, hn, lb, hPt, htv, hm', T, hit, hg, hgo⟩
  · refine ⟨_, hg, gen_start W O1 O2 hk hco hint hD hi hlen htag hcev hm1 hm2 ?_ ?_ (T.setGen rfl)⟩
    · intro s' b' m' hq l T'
      exact .inr ⟨rfl, by rw [hq]; rfl, b', m', l, T'⟩
    · intro k x v s' l κ p p' m' oI b' I Pt tv lb hx hp hq hv hPt htv hm' T' hit hκ
      exact .inl ⟨k, x, v, I, oI, b', m', Pt, tv.toArray, p', l, κ, p, rfl, hx, hp, by rw [hq]; rfl, hv, lb, hPt, by simpa using htv, hm', T', hit, hκ⟩
  · refine ⟨gs, hg, hgo _ _ ?_⟩
    have kl := hk ("line" : Str) .local (by simp)
    have kp := hk ("prefixes" : Str) .local (by simp)
    have hlt : k < xs.length := (List.getElem?_eq_some_iff.mp hx).1
    have tk : xs.take (k + 1) = xs.take k ++ [x] := by rw [List.take_add_one, hx]; rfl
    have hc : ((xs.take (k + 1)).filter (passF tag)).length = n := by
      rw [tk, List.filter_append, List.filter_cons_of_pos hp, List.length_append, ← hn]; rfl
    refine gen_loop (Γ := Γ) (Ag := Ag) (F := r.F Γ.env p') (b := b') (tv := tv.toList) (k + 1) (O2 _ p') kl kp rfl rfl hco hint (isl_mono lb hD) hi (by simpa using hPt) htv hlen ?_ ?_ (xs.length - (k + 1)) (k + 1) _ _ _ rfl (Nat.le_refl _) hlt rfl hm' (T.setGen rfl) hit
    · intro s' m'' hq S'
      exact gx_leaf (.ok .next) (gx_end (.ok (.ret .none)) (.inr ⟨rfl, by rw [hq]; exact hc, b', m'', lb, S'⟩))
    · intro k' x' v s' l' κ p m'' oI' h0 hx' hp' hq hv hm'' S' hit' hκ
      exact .inl ⟨k', x', v, I, oI', b', m'', Pt, tv, p', l', κ, p, rfl, hx', hp', by rw [hq]; exact hc, hv, lb, hPt, htv, hm'', S', hit', hκ⟩
theorem cnt_lt {k : Nat} {x : Str} (hx : xs[k]? = some x) (hp : passF tag x = true) : ((xs.take k).filter (passF tag)).length < (xs.filter (passF tag)).length ∧ (restF tag xs)[((xs.take k).filter (passF tag)).length]? = some (cutF x) := by
  have hlt : k < xs.length := (List.getElem?_eq_some_iff.mp hx).1
  have e : xs = xs.take k ++ x :: xs.drop (k + 1) := by
    have h1 := List.take_append_drop k xs
    have h2 : xs.drop k = x :: xs.drop (k + 1) := by
      rw [List.drop_eq_getElem_cons hlt]
      have := (List.getElem?_eq_some_iff.mp hx).2
      rw [this]
    rw [h2] at h1
    exact h1.symm
  have ef : xs.filter (passF tag) = (xs.take k).filter (passF tag) ++ x :: (xs.drop (k + 1)).filter (passF tag) := by
    conv => lhs; rw [e]
    rw [List.filter_append, List.filter_cons_of_pos hp]
  refine ⟨by rw [ef, List.length_append, List.length_cons]; omega, ?_⟩
  unfold restF
  rw [ef, List.map_append, List.getElem?_append_right (by simp), List.length_map, Nat.sub_self]
  rfl
/-- the feed -/
theorem gen_feed {A₂ : Around} {E : Value → Shared → Prop} {G : Addr} {gobj : Obj} {Fin : Obj → Shared → Prop} (hA : A₂.in1 = Ag) (hh : A₂.handled = none) (hroom : A₂.depth < recursionLimit) (hdr : Γ.dr.2 = g + 1) (hG : b.IsGen G g) 
    (W : Wd w mg mb Γ.g) (O1 : (Γ.seg Ag (.func r.body Γ.env) []).Ok) (O2 : ∀ I p, (Γ.seg Ag (r.LC Γ.env I) [r.F Γ.env p]).Ok)
    (hk : ∀ x k, (x, k) ∈ ([("line", .local), ("prefixes", .local), ("tag", .local), ("delta", .local), ("which", .local), ("int", .globalImplicit)] : List (Str × NameKind)) → Γ.env.kindOf x = some k) (hco : Γ.env.scope.isCoroutine = false) (hint : interactive Γ.env = false)
    (hD : b.IsList D vs.toArray) (hi : All2 (fun v x => IsS x v) vs xs) (hlen : ∀ x ∈ xs, x.length ≤ 2 ^ 20) (htag : tagOf i = some tag) (hcev : ∀ b m own, Cev (Γ.seg Ag (.func r.body Γ.env) []) b m own (.type "int") [wv] (IsI i))
    (hm1 : m0 ("delta" : Str) = some (.ref D)) (hm2 : m0 ("which" : Str) = some wv) (hfin : ∀ o s' b' m', Le b b' → Γ.S b' m' ((S, o) :: own) s' → Fin o s') :
    Feed Prg Γ.w A₂ E G S (xs.filter (passF tag)).length (fun j v => ∃ y, (restF tag xs)[j]? = some y ∧ IsS y v) (GJ Γ Ag r D xs tag g m0 b S own) Fin := by
  have base : ∀ {i o s}, GJ Γ Ag r D xs tag g m0 b S own i o s → Le b s.heap ∧ Le Γ.g s.heap ∧ s.heap.get? S = some o := by
    intro i o s J
    rcases J with ⟨_, _, T⟩ | ⟨k, x, gs, I, oI, b', m', Pt, tv, p', _, _, _, lb, _, _, _, T, _⟩
    · exact ⟨T.keep, T.gr.trans T.keep, T.ow _ (.head _)⟩
    · exact ⟨lb.trans T.keep, T.gr.trans T.keep, T.ow _ (.tail _ (.head _))⟩
  have isg : ∀ {i o s}, GJ Γ Ag r D xs tag g m0 b S own i o s → s.heap.IsGen G g := fun J => hG.keeps (base J).1
  have nl : ∀ {i o s}, GJ Γ Ag r D xs tag g m0 b S own i o s → s.heap.NoLimit := fun J => (W.mono (base J).2.1).lim
  have next : ∀ {n o s} {Q : Option Value → Shared → Prop}, GJ Γ Ag r D xs tag g m0 b S own n o s → (∀ e s₁, e.quiet = true → GP Γ Ag r D xs tag b S own n o e s₁ → (∃ v, e.result = .yielded v ∧ Q (some v) (s₁.setGen g e.genState)) ∨ (e = .ret (.ok (.ret .none)) ∧ ∀ h', Le s₁.heap h' → Q none { s₁.setGen g .finished with heap := h' })) →
      wpAny (model Prg Γ.w) A₂ (pyNext (.ref G)) Q E s := by
    intro n o s Q J h
    obtain ⟨gs, hg, hgo⟩ := gen_go W O1 O2 hk hco hint hD hi hlen htag hcev hm1 hm2 J
    exact next_gen hh (nl J) hroom (isg J) hg (by rw [hA]; exact hgo) h
  refine ⟨fun i o s J => (base J).2.2, fun i o s J => (isg J).typeIs, fun i o s E Q J hQ => wpAny_pyIter_gen (isg J) hQ, ?_, ?_, ?_⟩
  · intro i o s h' o' tk J hs ho
    rcases J with ⟨e, hg, T⟩ | ⟨k, x, gs, I, oI, b', m', Pt, tv, p', hx, hp, hn, lb, hPt, htv, hm', T, hit, hg, hgo⟩
    · exact .inl ⟨e, hg, T.upd (l1 := []) hs ho⟩
    · have T' := T.upd (l1 := [(I, oI)]) (tk := tk) hs ho
      refine .inr ⟨k, x, gs, I, oI, b', m', Pt, tv, p', hx, hp, hn, lb, hPt, htv, hm', T', ?_, hg, hgo⟩
      obtain ⟨oi, e, q⟩ := hit
      rw [T.ow (I, oI) (.head _)] at e; cases e
      exact ⟨oI, T'.ow (I, oI) (.head _), q⟩
  · intro n ys k s hn J
    refine next J fun e s₁ hq hP => ?_
    rcases hP with ⟨k', x, v, I, oI, b', m', Pt, tv, p', l, κ, p, rfl, hx, hp, hc, hv, lb, hPt, htv, hm', T, hit, hκ⟩ | ⟨rfl, hc, _⟩
    · refine .inl ⟨v, rfl, v, rfl, ⟨cutF x, by rw [← hc]; exact (cnt_lt hx hp).2, hv⟩, .inr ⟨k', x, (End.susp v false l κ (r.LC Γ.env I) p [r.F Γ.env p']).genState, I, oI, b', m', Pt, tv, p', hx, hp, by omega, lb, hPt, htv, hm', T.setGen (End.bare_of_quiet hq), hit, ?_, fun s'' P' hS => hκ s'' P' hS⟩⟩
      have hlt : g < s₁.gens.size := by have := T.bare.2; omega
      show (s₁.gens.setIfInBounds g _)[g]? = _
      simp [hlt]
    · omega
  · intro ys k s J
    refine next J fun e s₁ hq hP => ?_
    rcases hP with ⟨k', x, v, I, oI, b', m', Pt, tv, p', l, κ, p, rfl, hx, hp, hc, hv, lb, hPt, htv, hm', T, hit, hκ⟩ | ⟨rfl, hc, b', m', lb, T⟩
    · have := (cnt_lt hx hp).1
      omega
    · exact .inr ⟨rfl, fun h' l => ⟨rfl, hfin _ _ b' m' lb ((T.setGen (x := .finished) rfl).heap' l)⟩⟩
end
end Mine
end

section
open PySem PySem.W PySem.Calls PySem.Spec PyProof.Rows
open PySem.W.X (SegX)
set_option linter.unusedVariables false
namespace Mine
set_option maxRecDepth 100000
local macro_rules | `(tactic| walk_at "m") => `(tactic| ((repeat (rw [upd_ne (by decide)])); first | exact upd_eq _ _ _ | assumption))
local macro_rules | `(tactic| walk_at "k") => `(tactic| exact kd (by assumption) (by kernel_rfl))
local macro_rules | `(tactic| walk_at "loc") => `(tactic| exact Ev.loc (by assumption) (by walk_at "m") (by walk_at "k") (by decide))
local macro_rules | `(tactic| walk_at "locS") => `(tactic| exact Ev.locS (by assumption) ⟨_, (by walk_at "m")⟩ (by walk_at "k") (by decide))
local macro_rules | `(tactic| walk_at "bui") => `(tactic| exact Ev.boot (by assumption) (by assumption) (by kernel_rfl) (by kernel_rfl) (by decide) (by walk_at "k") (by decide))
local macro_rules | `(tactic| walk_at "top") => `(tactic| exact Ev.top (by assumption) (by assumption) (by kernel_rfl) (by walk_at "k") (by decide))
local macro_rules | `(tactic| walk_at "u") => `(tactic| with_unfolding_all rfl)
local macro_rules | `(tactic| walk_at "kc") => `(tactic| exact kdc (by assumption) (by kernel_rfl))
local macro_rules | `(tactic| walk_at "buic") => `(tactic| exact Ev.boot (by assumption) (by assumption) (by kernel_rfl) (by kernel_rfl) (by decide) (by walk_at "kc") (by decide))
noncomputable abbrev genv (w : World) (L : Addr) : Env := newEnv (fdAt w 38).scope L (fdAt w 38).globals (fdAt w 38).closure ((fdAt w 38).qualname ++ ".<locals>.") (some 38) (fdAt w 38).code none (fdAt w 38).builtins
theorem rs_body (w : World) : ∃ r : Rs, (fdAt w 38).body = .stmts r.body := ⟨⟨_, _, _, _, _, _, _, _, _, _, _, _, _, _, _, _, _, _, _, _, _, _, _, _, _, _, _, _, _, _, _, _, _, _, _, _, _, _, _, _, _, _, _, _, _⟩, rfl⟩
abbrev genObj (g : Nat) (n q : Str) (t : Tok) : Obj := { cls := .type "generator", data := .fields #[.int g 0, .str n t, .str q (t + 1)] }
theorem all2_of {ys : List Value} {zs : List Str} (hl : ys.length = zs.length) (h : ∀ (j : Nat) (v : Value), ys[j]? = some v → ∃ y, zs[j]? = some y ∧ IsS y v) : All2 (fun v x => IsS x v) ys zs := by
  induction ys generalizing zs with
  | nil => cases zs with
    | nil => exact .nil
    | cons _ _ => simp at hl
  | cons v ys ih => cases zs with
    | nil => simp at hl
    | cons z zs =>
      obtain ⟨y, hy, hv⟩ := h 0 v rfl
      simp at hy
      subst hy
      exact .cons hv (ih (by simpa using hl) fun j u hj => by simpa using h (j + 1) u (by simpa using hj))
theorem genv_kinds (w : World) (L : Addr) : ∀ x k, (x, k) ∈ ([("line", .local), ("prefixes", .local), ("tag", .local), ("delta", .local), ("which", .local), ("int", .globalImplicit)] : List (Str × NameKind)) → (genv w L).kindOf x = some k := by
  intro x k hx
  simp only [List.mem_cons, List.not_mem_nil, or_false, Prod.mk.injEq] at hx
  rcases hx with ⟨rfl, rfl⟩ | ⟨rfl, rfl⟩ | ⟨rfl, rfl⟩ | ⟨rfl, rfl⟩ | ⟨rfl, rfl⟩ | ⟨rfl, rfl⟩ <;> kernel_rfl
section
variable {Γ : Fx Prg} {b : Heap} {own : List (Addr × Obj)} {m : Str → Option Value} {D : Addr} {vs : List Value} {xs : List Str} {tag : Str} {wv : Value} {i : Int} {mg mb : Str → Option Value}
theorem restore_feed (O : Γ.Ok) (W : Wd Γ.w mg mb Γ.g) (hd : Γ.A.depth + 40 < recursionLimit) (hu : Γ.A.units + 200 < cLine) (hD : b.IsList D vs.toArray) (hi : All2 (fun v x => IsS x v) vs xs) (hlen : ∀ x ∈ xs, x.length ≤ 2 ^ 20) (hxs : xs.length ≤ 1000) (htag : tagOf i = some tag)
    (hcev : ∀ (Γ' : Fx Prg) b m own, Cev Γ' b m own (.type "int") [wv] (IsI i)) {r : Rs} {L' G : Addr} {g : Nat} {oF : Obj} {m0 : Str → Option Value} {s : Shared} {E : Value → Shared → Prop} (T : Γ.S b m ((L', oF) :: own) s) (hn : s.heap.Ns L' m0) (hG : b.IsGen G g)
    (hg : s.gens[g]? = some (.fresh (.func r.body (genv Γ.w L')))) (hgs : s.gens.size = g + 1) (hgd : Γ.dr.2 ≤ g) (hm1 : m0 ("delta" : Str) = some (.ref D)) (hm2 : m0 ("which" : Str) = some wv) :
    wpAny Γ.M Γ.A (call (.type "list") [.ref G]) (fun r s₂ => ∃ b', Le b b' ∧ (∃ ys, NewL b b' ys r ∧ All2 (fun v x => IsS x v) ys (restF tag xs)) ∧ Γ.S b' m own s₂) E s := by
  obtain ⟨oL, hoL, nsL⟩ := LCg.ns_obj T.ns
  have T4 := T.pushOwn (o := lsN [] 0) rfl
  have T5 := (T4.redr (n := g + 1) (by rw [← hgs]; exact Nat.le_refl _)).swap (l1 := [(s.heap.objs.size, lsN [] 0)]) (hn.push (lsN [] 0)) (Heap.get?_push_of_some _ hoL)
  have hn16 : (xs.filter (passF tag)).length ≤ sizeLine := by rw [sizeLine_eq]; exact Nat.le_trans (List.length_filter_le _ _) (by omega)
  have hGS : s.heap.objs.size ≠ G := by
    obtain ⟨o, _, _, e, _⟩ := hG
    exact Nat.ne_of_gt (Heap.lt_size (T.keep _ _ e))
  have hks : (fdAt Γ.w 38).scope.kind = .function := by kernel_rfl
  have hgl : (fdAt Γ.w 38).globals = mainGlobals := by kernel_rfl
  have hbu : (fdAt Γ.w 38).builtins = builtinsNs := by kernel_rfl
  have hco : (fdAt Γ.w 38).scope.isCoroutine = false := by kernel_rfl
  have feed := gen_feed (Γ := ⟨Γ.w, Γ.A, genv Γ.w L', Γ.g, L', (Γ.dr.1, g + 1), Γ.os⟩) (Ag := Γ.A.in1.in1.in1) (A₂ := Γ.A.in1.in1) (E := E) (S := s.heap.objs.size) (r := r) (own := (Γ.L, oL) :: own) (b := b) (D := D) (vs := vs) (xs := xs) (tag := tag) (wv := wv) (i := i) (g := g) (m0 := m0) (G := G) (gobj := default)
    (Fin := fun o s' => ∃ b', Le b b' ∧ Γ.S b' m ((s.heap.objs.size, o) :: own) s') rfl O.hand (by show Γ.A.depth < _; omega) rfl hG W ⟨hks, rfl, hgl, hbu, O.hand, (by show Γ.A.depth + 0 + 1 + 20 < _; omega), (by show Γ.A.units + 1 + 1 + 1 + 0 + 3 + 100 < _; omega)⟩
    (fun I p => ⟨hks, rfl, hgl, hbu, O.hand, (by show Γ.A.depth + (1 + 0) + 0 + 20 < _; omega), (by show Γ.A.units + 1 + 1 + 1 + (3 + 0) + 0 + 100 < _; omega)⟩) (genv_kinds _ _) hco rfl hD hi hlen htag (fun _ _ _ => hcev _ _ _ _) hm1 hm2 (fun o s' b' m' lb T' => ?_)
  · refine call_listJ feed hn16 hGS (.inl ⟨rfl, hg, T5⟩) fun ys c s' hl hp hf => ?_
    obtain ⟨b', lb, T'⟩ := hf
    have nD := newD (Γ := Γ) lb T'
    obtain ⟨b₂, l₂, e₂, T₂⟩ := T'.freeze
    exact ⟨b₂, lb.trans l₂, ⟨ys, ⟨_, rfl, nD.1, nD.2, ⟨_, e₂, rfl, _, rfl⟩, ⟨_, e₂⟩⟩, all2_of (by rw [hl]; simp [restF]) hp⟩, T₂⟩
  · have hL := T'.ow (Γ.L, oL) (.tail _ (.head _))
    obtain ⟨oF', hoF', _⟩ := LCg.ns_obj T'.ns
    have T6 := (T'.swap (l1 := [(s.heap.objs.size, o)]) (nsL.ns hL) hoF').redr (n := Γ.dr.2) (by have := T'.bare.2; exact Nat.le_trans hgd (Nat.le_trans (Nat.le_succ g) this))
    exact ⟨b', lb, St.dropMid (l1 := [(s.heap.objs.size, o)]) T6⟩
theorem restore_list (O : Γ.Ok) (W : Wd Γ.w mg mb Γ.g) (hd : Γ.A.depth + 40 < recursionLimit) (hu : Γ.A.units + 200 < cLine) (hD : b.IsList D vs.toArray) (hi : All2 (fun v x => IsS x v) vs xs) (hlen : ∀ x ∈ xs, x.length ≤ 2 ^ 20) (hxs : xs.length ≤ 1000) (htag : tagOf i = some tag)
    (hcev : ∀ (Γ' : Fx Prg) b m own, Cev Γ' b m own (.type "int") [wv] (IsI i)) {s : Shared} {E : Value → Shared → Prop} (T : Γ.S b m own s) :
    wpAny Γ.M Γ.A (call (.ref 38) [.ref D, wv]) (fun gv s₁ => (∃ b', Le b b' ∧ Γ.S b' m own s₁) ∧ wpAny Γ.M Γ.A (call (.type "list") [gv]) (fun r s₂ => ∃ b', Le b b' ∧ (∃ ys, NewL b b' ys r ∧ All2 (fun v x => IsS x v) ys (restF tag xs)) ∧ Γ.S b' m own s₂) E s₁) E s := by
  have Ws := W.mono (T.gr.trans T.keep)
  obtain ⟨r, hr⟩ := rs_body Γ.w
  refine wpAny_call (codeAny_call_generator (fd := fdAt Γ.w 38) (by omega) (Ws.X 38 _ rfl) (by kernel_rfl) rfl rfl hr (codeRec_of Ws.X (by kernel_rfl)) ?_)
  have hb : bindArgs (fdAt Γ.w 38) ⟨[.ref D, wv], []⟩ = pure [(("delta" : Str), Value.ref D), ("which", wv)] := by kernel_rfl
  with_reducible refine wpAny_of_eq hb ?_
  have hall : ((fdAt Γ.w 38).scope.names.all fun y => y.2 != .cell) = true := by kernel_rfl
  have hc1 : ∀ x ∈ (fdAt Γ.w 38).scope.names, x.2 ≠ .cell := fun x hx => by
    have := List.all_eq_true.mp hall x hx
    simpa using this
  have hl1 : ∀ x ∈ [(("delta" : Str), Value.ref D), ("which", wv)], (fdAt Γ.w 38).scope.names.lookup x.1 = some .local := fun x hx => by
    rcases List.mem_cons.mp hx with rfl | hx
    · show (fdAt Γ.w 38).scope.names.lookup ("delta" : Str) = _
      kernel_rfl
    · rcases List.mem_cons.mp hx with rfl | hx
      · show (fdAt Γ.w 38).scope.names.lookup ("which" : Str) = _
        kernel_rfl
      · exact nomatch hx
  have hks : (fdAt Γ.w 38).scope.kind = .function := by kernel_rfl
  with_reducible refine wpAny_newFunctionEnv hc1 hl1 (fun h' hn hsb => ?_) hks
  have TL := T.pushOwn (o := { cls := .type "frame", data := .dict #[] }) rfl
  obtain ⟨oF, hoF, nsF⟩ := LCg.ns_obj hn
  have T1 := TL.upd (l1 := []) (tk := s.toks + 2) hsb hoF
  refine ⟨(W.mono (T1.gr.trans T1.keep)).lim, ?_⟩
  have T2 := T1.take (r := h'.objs.size) (o := genObj s.gens.size (fdAt Γ.w 38).name (fdAt Γ.w 38).qualname (s.toks + 2))
    (s' := { s with gens := s.gens.push (.fresh (.func r.body (genv Γ.w s.heap.objs.size))), toks := s.toks + 2 + 1 + 1, heap := h'.push (genObj s.gens.size (fdAt Γ.w 38).name (fdAt Γ.w 38).qualname (s.toks + 2)) })
    (get_size _) (Le.push _ _) (Heap.get?_push_size _ rfl) rfl rfl (fun h => ⟨h.1.push rfl, Nat.le_trans h.2 (by simp)⟩)
  obtain ⟨b₁, l₁, eG, T3⟩ := T2.freeze
  show (∃ b', Le b b' ∧ Γ.S b' m own _) ∧ _
  refine ⟨⟨b₁, l₁, T3.drop⟩, ?_⟩
  have hnG := hn.push (genObj s.gens.size (fdAt Γ.w 38).name (fdAt Γ.w 38).qualname (s.toks + 2))
  have gsz : Γ.dr.2 ≤ s.gens.size := T.bare.2
  refine wpAny_mono (restore_feed O W hd hu (isl_mono l₁ hD) hi hlen hxs htag hcev (r := r) (g := s.gens.size) T3 hnG ⟨_, _, _, eG, rfl, rfl, rfl⟩ (by simp) (by simp) gsz rfl rfl) (fun r' s₂ hr' => ?_) fun _ _ x => x
  obtain ⟨b', l', ⟨ys, ⟨D', rfl, n1, n2, h3, h4⟩, hy⟩, T'⟩ := hr'
  refine ⟨b', l₁.trans l', ⟨ys, ⟨D', rfl, ?_, n2, h3, h4⟩, hy⟩, T'⟩
  cases q : b.get? D' with
  | none => rfl
  | some o => rw [l₁ _ _ q] at n1; cases n1
end
end Mine
end

section
open PySem PySem.W PySem.Calls PySem.Spec PyProof.Rows
set_option linter.unusedVariables false
namespace Mine
set_option maxRecDepth 100000
noncomputable def es45 (w : World) : Array DictEntry := match (KK w).lookup 45 with
  | some ⟨_, _, .dict es _, _⟩ => es
  | _ => #[]
def keyOk (e : DictEntry) : Bool := match e.key with | .int k _ => e.hash == hashInt k | _ => false
theorem es45_ok (w : World) : ((es45 w).toList.all keyOk) = true := by kernel_rfl
theorem es45_at (w : World) : ∃ o ep, (KK w).lookup 45 = some o ∧ o.cls = .type "dict" ∧ o.dict = none ∧ o.data = .dict (es45 w) ep := ⟨_, _, rfl, rfl, rfl, rfl⟩
noncomputable abbrev f45 (w : World) : Int → Option Value := fun k => findBy (intKind Prg w).is (es45 w) k
theorem map45 {w : World} {h : Heap} (X : (KK w).In h) : h.MapOf (intKind Prg w) 45 (f45 w) := by
  obtain ⟨o, ep, hl, h1, h2, h3⟩ := es45_at w
  have hs : o.slots = #[] := by
    have : ∀ o', (KK w).lookup 45 = some o' → o'.slots = #[] := by
      intro o' e
      have z : ∃ o'', (KK w).lookup 45 = some o'' ∧ o''.slots = #[] := ⟨_, rfl, rfl⟩
      obtain ⟨o'', e', q⟩ := z
      rw [e] at e'; cases e'; exact q
    exact this o hl
  refine ⟨o, es45 w, ep, X _ _ hl, ⟨h1, h2, hs⟩, h3, fun e he => ?_, fun k => rfl⟩
  have hk := List.all_eq_true.mp (es45_ok w) e (by simpa using he)
  unfold keyOk at hk
  split at hk
  · rename_i k t q
    exact ⟨k, by show Value.isInt k e.key = true; rw [q]; simp [Value.isInt], eq_of_beq hk⟩
  · cases hk
def isTx (y : Str) : Option Value → Bool
  | some (.str x _) => x == y
  | _ => false
theorem isTx_of {y : Str} {o : Option Value} (h : isTx y o = true) : ∃ t, o = some (.str y t) := by
  unfold isTx at h
  split at h
  · rename_i x t
    exact ⟨t, by rw [eq_of_beq h]⟩
  · cases h
theorem f45_minus (w : World) : ∃ t, f45 w 45 = some (.str "\\-" t) := isTx_of (by kernel_rfl)
theorem f45_blank (w : World) : ∃ t, f45 w 32 = some (.str "\\ " t) := isTx_of (by kernel_rfl)
theorem f45_a (w : World) : f45 w 97 = none := by kernel_rfl
theorem f45_b (w : World) : f45 w 98 = none := by kernel_rfl
section
variable {w : World} {A : Around} {E : Value → Shared → Prop} {s : Shared}
open Builtin Builtin.Str in
theorem look_text {c : Nat} {y : Str} {t : Tok} {Q : Builtin.Str.Mapped → Shared → Prop} (X : (KK w).In s.heap) (hf : f45 w c = some (.str y t)) (h : ∀ tk, Q (.text y) { s with toks := tk }) : wpAny (model Prg w) A (Builtin.Str.tableLookup (.ref 45) c) Q E s := by
  unfold Builtin.Str.tableLookup
  refine wpAny_bind (wpAny_attempt (wpAny_bind (wpAny_mkInt (wpAny_getItem_of (s := { s with toks := s.toks + 1 }) (intKind_is Prg w c s.toks) (map45 X) hf ?_))))
  obtain ⟨hp, g, d, tk, os⟩ := s
  wp_walk
  exact h _
open Builtin Builtin.Str in
theorem look_keep {c : Nat} {Q : Builtin.Str.Mapped → Shared → Prop} (X : (KK w).In s.heap) (hh : A.handled = none) (hf : f45 w c = none) (h : ∀ h' tk, Le s.heap h' → Q .keep { s with heap := h', toks := tk }) : wpAny (model Prg w) A (Builtin.Str.tableLookup (.ref 45) c) Q E s := by
  unfold Builtin.Str.tableLookup
  refine wpAny_bind (wpAny_attempt (wpAny_bind (wpAny_mkInt (wpAny_getItem_missing_of (s := { s with toks := s.toks + 1 }) (intKind_is Prg w c s.toks) (by decide) hh (map45 X) hf fun h' e hx => ?_))))
  have hk := hx.keeps
  obtain ⟨ob, tp, he, hcls, hdt⟩ := hx.there
  refine wpAny_bind (wpAny_isInstance (T := "KeyError") (b := true) ⟨ob, he, hcls⟩ (by rw [isSubtype_type]; kernel_rfl) ?_)
  rw [if_pos rfl]
  exact wpAny_bind (wpAny_rule (wpAny_pure (h _ _ hk)))
theorem iteT {α : Type} {M : Model} {c : Prop} {inst : Decidable c} {a b : Sem α} {Q : α → Shared → Prop} (hc : c) (h : wpAny M A a Q E s) : wpAny M A (@ite _ c inst a b) Q E s := by rw [if_pos hc]; exact h
theorem iteF {α : Type} {M : Model} {c : Prop} {inst : Decidable c} {a b : Sem α} {Q : α → Shared → Prop} (hc : ¬ c) (h : wpAny M A b Q E s) : wpAny M A (@ite _ c inst a b) Q E s := by rw [if_neg hc]; exact h
local macro_rules | `(tactic| walk_at "tr") => `(tactic| ((with_reducible show wpAny _ _ (ite _ _ _) _ _ _); (try dsimp only [List.lookup_nil]); first
        | ((with_reducible refine iteT ?hc ?hh); (case hc => decide +kernel); (try dsimp only [List.lookup_nil]))
        | ((with_reducible refine iteF ?hc ?hh); (case hc => decide +kernel); (try dsimp only [List.lookup_nil]))))
open Builtin Builtin.Str in
theorem trans_minus {u : Tok} {Q : Value → Shared → Prop} (X : (KK w).In s.heap) (h : ∀ tk v, IsS "\\-" v → Q v { s with toks := tk }) :
    wpAny (model Prg w) A (call (.builtin "str.translate") [.str "-" u, .ref 45]) Q E s := by
  obtain ⟨t, hf⟩ := f45_minus w
  refine wpAny_call_entry PySem.F.slot_str_translate (typeIs_str _ _ _) PySem.F.entry_str_translate ?_ (PySem.F.args_str_translate_2 _ _)
  unfold «str.translate»
  obtain ⟨hp, g, d, tk, os⟩ := s
  repeat (any_goals (first
    | ((with_reducible show wpAny _ _ (tableLookup _ _) _ _ _); refine look_text X hf fun tk => ?_; dsimp only)
    | walk_at "tr"
    | wp_step))
  exact ⟨_, rfl, h _ _ ⟨_, congrArg (Value.str · _) (by decide +kernel)⟩⟩
open Builtin Builtin.Str in
theorem trans_blank {u : Tok} {Q : Value → Shared → Prop} (X : (KK w).In s.heap) (h : ∀ tk v, IsS "\\ " v → Q v { s with toks := tk }) :
    wpAny (model Prg w) A (call (.builtin "str.translate") [.str " " u, .ref 45]) Q E s := by
  obtain ⟨t, hf⟩ := f45_blank w
  refine wpAny_call_entry PySem.F.slot_str_translate (typeIs_str _ _ _) PySem.F.entry_str_translate ?_ (PySem.F.args_str_translate_2 _ _)
  unfold «str.translate»
  obtain ⟨hp, g, d, tk, os⟩ := s
  repeat (any_goals (first
    | ((with_reducible show wpAny _ _ (tableLookup _ _) _ _ _); refine look_text X hf fun tk => ?_; dsimp only)
    | walk_at "tr"
    | wp_step))
  exact ⟨_, rfl, h _ _ ⟨_, congrArg (Value.str · _) (by decide +kernel)⟩⟩
open Builtin Builtin.Str in
theorem trans_a {u : Tok} {Q : Value → Shared → Prop} (X : (KK w).In s.heap) (hh : A.handled = none) (h : ∀ h' tk v, Le s.heap h' → IsS "a" v → Q v { s with heap := h', toks := tk }) :
    wpAny (model Prg w) A (call (.builtin "str.translate") [.str "a" u, .ref 45]) Q E s := by
  have hf := f45_a w
  refine wpAny_call_entry PySem.F.slot_str_translate (typeIs_str _ _ _) PySem.F.entry_str_translate ?_ (PySem.F.args_str_translate_2 _ _)
  unfold «str.translate»
  obtain ⟨hp, g, d, tk, os⟩ := s
  repeat (any_goals (first
    | ((with_reducible show wpAny _ _ (tableLookup _ _) _ _ _); refine look_keep X hh hf fun h' tk hle => ?_; dsimp only)
    | walk_at "tr"
    | wp_step))
  rename_i hle
  exact ⟨_, rfl, h _ _ _ hle ⟨_, congrArg (Value.str · _) (by decide +kernel)⟩⟩
open Builtin Builtin.Str in
theorem trans_b {u : Tok} {Q : Value → Shared → Prop} (X : (KK w).In s.heap) (hh : A.handled = none) (h : ∀ h' tk v, Le s.heap h' → IsS "b" v → Q v { s with heap := h', toks := tk }) :
    wpAny (model Prg w) A (call (.builtin "str.translate") [.str "b" u, .ref 45]) Q E s := by
  have hf := f45_b w
  refine wpAny_call_entry PySem.F.slot_str_translate (typeIs_str _ _ _) PySem.F.entry_str_translate ?_ (PySem.F.args_str_translate_2 _ _)
  unfold «str.translate»
  obtain ⟨hp, g, d, tk, os⟩ := s
  repeat (any_goals (first
    | ((with_reducible show wpAny _ _ (tableLookup _ _) _ _ _); refine look_keep X hh hf fun h' tk hle => ?_; dsimp only)
    | walk_at "tr"
    | wp_step))
  rename_i hle
  exact ⟨_, rfl, h _ _ _ hle ⟨_, congrArg (Value.str · _) (by decide +kernel)⟩⟩
end
end Mine
end

section
open PySem PySem.W PySem.Calls PySem.Spec PyProof.Rows
set_option linter.unusedVariables false
namespace Mine
set_option maxRecDepth 100000
local macro_rules | `(tactic| walk_at "m") => `(tactic| ((repeat (rw [upd_ne (by decide)])); first | exact upd_eq _ _ _ | assumption))
local macro_rules | `(tactic| walk_at "k") => `(tactic| exact kd (by assumption) (by kernel_rfl))
local macro_rules | `(tactic| walk_at "loc") => `(tactic| exact Ev.loc (by assumption) (by walk_at "m") (by walk_at "k") (by decide))
local macro_rules | `(tactic| walk_at "locS") => `(tactic| exact Ev.locS (by assumption) ⟨_, (by walk_at "m")⟩ (by walk_at "k") (by decide))
local macro_rules | `(tactic| walk_at "bui") => `(tactic| exact Ev.boot (by assumption) (by assumption) (by kernel_rfl) (by kernel_rfl) (by decide) (by walk_at "k") (by decide))
local macro_rules | `(tactic| walk_at "top") => `(tactic| exact Ev.top (by assumption) (by assumption) (by kernel_rfl) (by walk_at "k") (by decide))
local macro_rules | `(tactic| walk_at "u") => `(tactic| with_unfolding_all rfl)
local macro_rules | `(tactic| walk_at "kc") => `(tactic| exact kdc (by assumption) (by kernel_rfl))
local macro_rules | `(tactic| walk_at "buic") => `(tactic| exact Ev.boot (by assumption) (by assumption) (by kernel_rfl) (by kernel_rfl) (by decide) (by walk_at "kc") (by decide))
def escF (c : Str) : Option Str := if c = "-" then some "\\-" else if c = " " then some "\\ " else if c = "a" then some "a" else if c = "b" then some "b" else none
theorem cal_trans {Γ : Fx Prg} {b : Heap} {m : Str → Option Value} {own : List (Addr × Obj)} (O : Γ.Ok) (X : (KK Γ.w).In Γ.g) {c y : Str} {v : Value} (h : escF c = some y) (hv : IsS c v) : Cal Γ b m own (.builtin "str.translate") [v, .ref 45] (fun _ v => IsS y v) := by
  obtain ⟨t, rfl⟩ := hv
  intro s E T
  have X' : (KK Γ.w).In s.heap := fun a o e => T.keep _ _ (T.gr _ _ (X a o e))
  unfold escF at h
  split at h
  · rename_i q; subst q; cases h
    exact trans_minus X' fun tk v hv => ⟨b, Le.refl _, hv, T.toks⟩
  · split at h
    · rename_i q; subst q; cases h
      exact trans_blank X' fun tk v hv => ⟨b, Le.refl _, hv, T.toks⟩
    · split at h
      · rename_i q; subst q; cases h
        exact trans_a X' O.hand fun h' tk v l hv => ⟨b, Le.refl _, hv, T.heap l⟩
      · split at h
        · rename_i q; subst q; cases h
          exact trans_b X' O.hand fun h' tk v l hv => ⟨b, Le.refl _, hv, T.heap l⟩
        · cases h
theorem escape_spec {w : World} {mg mb : Str → Option Value} {dr : Dn} {os : OsState} {A : Around} {s : Shared} {E : Value → Shared → Prop} (C : Cs dr os A 0 s) (W : Wd w mg mb s.heap) {c y : Str} {t : Tok} (hc : escF c = some y) :
    wpAny (model Prg w) A (call (.ref 55) [.str c t]) (fun r s' => Pur s s' ∧ IsS y r) E s := by
  refine enter (fd := fdAt w 55) C (W.X 55 _ rfl) (by kernel_rfl) (codeRec_of W.X (by kernel_rfl)) W.lim rfl (binds := [("pattern", .str c t)]) (by kernel_rfl) rfl (by kernel_rfl) rfl rfl rfl rfl rfl ?_
  intro L b s₁ Γ e2 e3 e4 e5 e6 e7 e8 O hL S hcc hn
  have W' : Wd w mg mb Γ.g := e5 ▸ W.hide
  subst e2 e6 e7
  have hm1 : (bindL (envF Γ.w 55 L).kindOf [("pattern", .str c t)] fun _ => none) "pattern" = some (.str c t) := by kernel_rfl
  generalize bindL (envF Γ.w 55 L).kindOf [("pattern", .str c t)] (fun _ => none) = m at S hm1
  have hp : ∀ {b' own pos}, Ev Γ b' m own (.Name "pattern" pos) (IsV (.str c t)) := by
    intro b' own pos
    walk_at "loc"
  with_reducible refine Xs.go S ?_
  with_reducible refine Xs.ifT ?_ ?_
  · intro s' E' T
    refine isTrue_plain (Ev.use (Γ := Γ) (m := m) (b := b) (own := []) (P := IsB true) ?_ T fun v s₂ hv T₂ => ?_)
    · refine Ev.ofCallE (f := .builtin "isinstance") (PA := fun vs => vs = [.str c t, .type "str"]) (by walk_at "bui") (.bui "isinstance") (fun s E pos T => wpAny_mono (ArgsE.cons (P := IsV (.str c t)) hp (ArgsE.cons (P := IsV (.type "str")) (by walk_at "bui") ArgsE.nil (by rfl)) (by rfl) s E pos T) (fun vs s' h => ⟨?_, h.2⟩) fun _ _ x => x) (fun vs h => ?_)
      · obtain ⟨v1, _, rfl, h1, v2, _, rfl, h2, rfl⟩ := h.1
        rw [show v1 = _ from h1, show v2 = _ from h2]
      · subst h
        intro s E T
        exact PySem.IsiPair.str_str ⟨rfl, T⟩
    · obtain rfl : v = .bool true := hv
      exact wpAny_truthy_bool ⟨rfl, T₂⟩
  · with_reducible refine Xs.ret (P := fun _ v => IsS y v) ?_ ?_
    · refine Ei.meth (Po := fun b' v => b' = b ∧ v = .str c t) F.plainAttrs_str F.slot_str_translate F.type_str_translate (fun s E T => hp.use T fun v s' hv T' => ⟨b, Le.refl _, ⟨rfl, hv⟩, T'⟩) (fun b' ov h => by obtain ⟨rfl, rfl⟩ := h; exact recv_str)
        (fun b₁ ov l h => ?_) (by walk_at "u") (by rfl) (by rfl) (by rfl) (by rfl)
      obtain ⟨rfl, rfl⟩ := h
      refine ⟨fun vs => vs = [.ref 45], fun s E pos T => wpAny_mono (ArgsE.cons (P := IsV (.ref 45)) (by walk_at "top") ArgsE.nil (by rfl) s E pos T) (fun vs s' h => ⟨?_, h.2⟩) fun _ _ x => x, fun vs h => ?_⟩
      · obtain ⟨v1, _, rfl, h1, rfl⟩ := h.1
        rw [show v1 = _ from h1]
      · subst h
        exact cal_trans O W'.X hc ⟨_, rfl⟩
    · intro b' v s' lb hv T
      exact ⟨fxLeave T C.dr C.os e5, hv⟩
end Mine
end

section
open PySem PySem.W PySem.Calls PySem.Spec PyProof.Rows
set_option linter.unusedVariables false
namespace Mine
theorem memLe {h₀ h : Heap} {news : List (Addr × Obj)} (D : X.Mem h₀ h [] news) : Le h₀ h := fun a o e => D.keep a o e (by simp [X.away])
abbrev bmObj (id : String) (R : Addr) : Obj := { cls := .type "builtin_function_or_method", data := .fields #[.builtin id, .ref R] }
section
local macro_rules | `(tactic| x_close) => `(tactic| exact ⟨_, _, rfl, rfl, memLe (by assumption), X.Mem.nw (by assumption) _ List.mem_cons_self⟩)
theorem get_append0 {w : World} {A : Around} {E : Value → Shared → Prop} {h : Heap} {g : Array GenState} {d : Drawn} {tk : Nat} {os : OsState} {R : Addr} {xs : Array Value} {n : Nat} {t : Tok} (ho : h.get? R = some { cls := .type "list", dict := none, data := .seq xs n, slots := #[] }) :
    wpAny (model Prg w) A (call (.builtin "list.__getattribute__") [.ref R, .str "append" t]) (fun v s' => ∃ h' M, v = .ref M ∧ s' = ⟨h', g, d, tk, os⟩ ∧ Le h h' ∧ h'.get? M = some (bmObj "list.append" R) ∧ h.get? M = none) E ⟨h, g, d, tk, os⟩ := by
  x_run
end
theorem call_bound {w : World} {A : Around} {E : Value → Shared → Prop} {s : Shared} {R M : Addr} {v : Value} {its : Array Value} {n : Nat} {Q : Value → Shared → Prop} (hM : s.heap.get? M = some (bmObj "list.append" R)) (ho : s.heap.get? R = some { cls := .type "list", data := .seq its n })
    (h : ∀ h', Heap.SameBut R s.heap h' → h'.get? R = some { cls := .type "list", data := .seq (its.push v) (n + 1) } → Q .none { s with heap := h' }) (hsz : its.size ≤ sizeLine) : wpAny (model Prg w) A (call (.ref M) [v]) Q E s := by
  refine wpAny_call (codeAny_of_tree ?_)
  show wpAny _ _ (callAny (.ref M) ⟨[v], []⟩) _ _ s
  simp only [callAny]
  refine wpAny_bind (wpAny_load hM ?_)
  have f1 : isSubtype (.type "list") (.type "module") = pure false := by rw [isSubtype_type]; kernel_rfl
  have f2 : isSubtype (.type "list") (.type "type") = pure false := by rw [isSubtype_type]; kernel_rfl
  repeat (any_goals (first
    | ((with_reducible show wpAny _ _ (isSubtype _ _) _ _ _); (try dsimp only); first | rw [f1] | rw [f2])
    | ((with_reducible show wpAny _ _ (ite _ _ _) _ _ _); (try dsimp only); first
        | ((with_reducible refine iteT ?hc ?hh); (case hc => decide +kernel); (try dsimp only))
        | ((with_reducible refine iteF ?hc ?hh); (case hc => decide +kernel); (try dsimp only)))
    | wp_step))
  refine ⟨plainId_quiet (by decide +kernel : plainId "list.append" = true) _, codeAny_builtin PySem.F.entry_list_append ?_⟩
  rw [Around.under_plainId (by decide +kernel : plainId "list.append" = true) _]
  show wpAny _ A.in1 (updateSeq R (·.push v) >>= fun _ => ret .none) _ _ _
  refine wpAny_bind ?_
  refine wpAny_updateSeq ho rfl (wpAny_pure (h _ (Heap.SameBut.update ..) ?_))
  rw [Heap.get?_update_self _ ho (by rw [mapSeq_push]; rfl), mapSeq_push]
end Mine
end

section
open PySem PySem.W PySem.Calls PySem.Spec PyProof.Rows
set_option linter.unusedVariables false
namespace Mine
section
local macro_rules | `(tactic| x_close) => `(tactic| exact ⟨_, _, _, rfl, rfl, memLe (by assumption)⟩)

theorem sub_star {w : World} {A : Around} {E : Value → Shared → Prop} {h : Heap} {g : Array GenState} {d : Drawn} {tk : Nat} {os : OsState} {t : Tok} {lam : Addr} {fd : FuncData} (X : (KF w.params).In h) (hl : h.get? lam = some { cls := .type "function", dict := none, data := .func fd, slots := #[] }) :
    wpAny (model Prg w) A (call (.builtin "re.Pattern.sub") [.ref 43, .ref lam, .str "*" t]) (fun v s' => ∃ h' t' tk', v = .str "*" t' ∧ s' = ⟨h', g, d, tk', os⟩ ∧ Le h h') E ⟨h, g, d, tk, os⟩ := by
  x_run
theorem sub_quest {w : World} {A : Around} {E : Value → Shared → Prop} {h : Heap} {g : Array GenState} {d : Drawn} {tk : Nat} {os : OsState} {t : Tok} {lam : Addr} {fd : FuncData} (X : (KF w.params).In h) (hl : h.get? lam = some { cls := .type "function", dict := none, data := .func fd, slots := #[] }) :
    wpAny (model Prg w) A (call (.builtin "re.Pattern.sub") [.ref 43, .ref lam, .str "?" t]) (fun v s' => ∃ h' t' tk', v = .str "?" t' ∧ s' = ⟨h', g, d, tk', os⟩ ∧ Le h h') E ⟨h, g, d, tk, os⟩ := by
  x_run
theorem sub_na {w : World} {A : Around} {E : Value → Shared → Prop} {h : Heap} {g : Array GenState} {d : Drawn} {tk : Nat} {os : OsState} {t : Tok} {lam : Addr} {fd : FuncData} (X : (KF w.params).In h) (hl : h.get? lam = some { cls := .type "function", dict := none, data := .func fd, slots := #[] }) :
    wpAny (model Prg w) A (call (.builtin "re.Pattern.sub") [.ref 43, .ref lam, .str "!a" t]) (fun v s' => ∃ h' t' tk', v = .str "!a" t' ∧ s' = ⟨h', g, d, tk', os⟩ ∧ Le h h') E ⟨h, g, d, tk, os⟩ := by
  x_run
theorem sub_ac {w : World} {A : Around} {E : Value → Shared → Prop} {h : Heap} {g : Array GenState} {d : Drawn} {tk : Nat} {os : OsState} {t : Tok} {lam : Addr} {fd : FuncData} (X : (KF w.params).In h) (hl : h.get? lam = some { cls := .type "function", dict := none, data := .func fd, slots := #[] }) :
    wpAny (model Prg w) A (call (.builtin "re.Pattern.sub") [.ref 43, .ref lam, .str "a-c" t]) (fun v s' => ∃ h' t' tk', v = .str "a-c" t' ∧ s' = ⟨h', g, d, tk', os⟩ ∧ Le h h') E ⟨h, g, d, tk, os⟩ := by
  x_run
theorem sub_nil {w : World} {A : Around} {E : Value → Shared → Prop} {h : Heap} {g : Array GenState} {d : Drawn} {tk : Nat} {os : OsState} {t : Tok} {lam : Addr} {fd : FuncData} (X : (KF w.params).In h) (hl : h.get? lam = some { cls := .type "function", dict := none, data := .func fd, slots := #[] }) :
    wpAny (model Prg w) A (call (.builtin "re.Pattern.sub") [.ref 43, .ref lam, .str "" t]) (fun v s' => ∃ h' t' tk', v = .str "" t' ∧ s' = ⟨h', g, d, tk', os⟩ ∧ Le h h') E ⟨h, g, d, tk, os⟩ := by
  x_run
theorem sub_ex {w : World} {A : Around} {E : Value → Shared → Prop} {h : Heap} {g : Array GenState} {d : Drawn} {tk : Nat} {os : OsState} {t : Tok} {lam : Addr} {fd : FuncData} (X : (KF w.params).In h) (hl : h.get? lam = some { cls := .type "function", dict := none, data := .func fd, slots := #[] }) :
    wpAny (model Prg w) A (call (.builtin "re.Pattern.sub") [.ref 43, .ref lam, .str "!" t]) (fun v s' => ∃ h' t' tk', v = .str "!" t' ∧ s' = ⟨h', g, d, tk', os⟩ ∧ Le h h') E ⟨h, g, d, tk, os⟩ := by
  x_run
end
end Mine
end

section
open PySem PySem.W PySem.Calls PySem.Spec PyProof.Rows
set_option linter.unusedVariables false
namespace Mine
theorem bind_list_ga (v : Value) : bindSpecial (.builtin "list.__getattribute__") v = pure (.builtin "list.__getattribute__", [v]) := by
  have hop : withoutEnding? "list.__getattribute__" "#opaque" = none := by decide +kernel
  have hdat : withoutEnding? "list.__getattribute__" "#data" = none := by decide +kernel
  have hk : builtinKind "list.__getattribute__" = some .slot := by decide +kernel
  simp only [bindSpecial, typeOf, builtinType, hop, hdat, hk]; rfl
theorem get_append {w : World} {A : Around} {E : Value → Shared → Prop} {h : Heap} {g : Array GenState} {d : Drawn} {tk : Nat} {os : OsState} {R : Addr} {xs : Array Value} {n : Nat} {Q : Value → Shared → Prop} (ho : h.get? R = some { cls := .type "list", dict := none, data := .seq xs n, slots := #[] })
    (hQ : ∀ h' M tk', Le h h' → h'.get? M = some (bmObj "list.append" R) → h.get? M = none → Q (.ref M) ⟨h', g, d, tk', os⟩) : wpAny (model Prg w) A (getAttr (.ref R) "append" true) Q E ⟨h, g, d, tk, os⟩ := by
  unfold getAttr
  have f3 : typeLookup (.type "list") "__getattribute__" = pure (some (.builtin "list.__getattribute__")) := by rw [typeLookup_type, builtinLookup_eq_fast]; kernel_rfl
  repeat (any_goals (first
    | ((with_reducible refine wpAny_loadPart_at ho ?_); (try dsimp only))
    | ((with_reducible show wpAny _ _ (typeLookup _ _) _ _ _); (try dsimp only); rw [f3])
    | ((with_reducible show wpAny _ _ (bindSpecial _ _) _ _ _); rw [bind_list_ga]; refine wpAny_pure ?_; show wpAny _ _ (call (.builtin "list.__getattribute__") [.ref R, .str "append" _]) _ _ _; refine wpAny_mono (E := fun _ _ => False) (get_append0 ho) ?kq (fun _ _ x => x.elim))
    | wp_step))
  rintro v s' ⟨h', M, rfl, rfl, l, e1, e2⟩
  exact wpAny_pure (hQ h' M _ l e1 e2)
end Mine
end

section
open PySem PySem.W PySem.Calls PySem.Spec PyProof.Rows
set_option linter.unusedVariables false
namespace Mine
theorem St.tab57 {g b : Heap} {L : Addr} {m : Str → Option Value} {own : List (Addr × Obj)} {dr : Dn} {os : OsState} {s : Shared} (T : St g b L m own dr os s) {h' : Heap} {tk : Nat} {ps : Array Value} (hs : Heap.ExtBut 57 s.heap h') (e : h'.get? 57 = some (tabObj ps)) (t : TriplesOk ps.toList) :
    St g b L m own dr os { s with heap := h', toks := tk } := by
  have nL := List.nodup_cons.mp T.nd
  have n57 := List.nodup_cons.mp nL.2
  refine ⟨T.ns.at' fun o e => hs _ _ (fun q => nL.1 (q ▸ .head _)) e, T.gr, fun a o e => hs _ _ (fun q => ?_) (T.keep _ _ e), fun p hp => hs _ _ (fun q => ?_) (T.ow p hp), T.nd, T.off, ⟨ps, e, t⟩, T.dr, T.os, T.bare⟩
  · subst q; rw [T.off _ (.tail _ (.head _))] at e; cases e
  · exact n57.1 (q ▸ List.mem_map_of_mem hp)
theorem triples_snoc {v : Value} {i j : Int} : ∀ {l : List Value}, TriplesOk l → TriplesOk (l ++ [rawInt i, rawInt j, v])
  | [], _ => trivial
  | .int _ _ :: .int _ _ :: _ :: rest, h => triples_snoc (l := rest) h
section
variable {Γ : Fx Prg} {b : Heap} {m : Str → Option Value} {own : List (Addr × Obj)} {mg mb : Str → Option Value}
/-- a lambda: a new function; the table of codes may grow -/
theorem Ei.lam (O : Γ.Ok) (W : Wd Γ.w mg mb Γ.g) {args : Arguments} {body : Expr} {scope : Scope} {pos : Pos} {clos : List (Str × Addr)} {c : Addr} (hcl : closureFor scope Γ.env = pure clos) (hcode : Γ.env.code = .ref c) (C : CodeHd Γ.g c 57) (hb : Γ.g.BuiltinsAt mg 57)
    (he : eval (.Lambda args body scope pos) Γ.env = makeFunction "<lambda>" (Γ.env.qual ++ "<lambda>") args (.expr body) scope Γ.env [] [] [] pos pos.line) :
    Ei Γ b m own (.Lambda args body scope pos) (fun b' v => ∃ f fd, v = .ref f ∧ b.get? f = none ∧ b'.get? f = some { cls := .type "function", data := .func fd }) := by
  intro s E T
  rw [he]
  have le : Le Γ.g s.heap := T.gr.trans T.keep
  obtain ⟨ps, e57, t57⟩ := T.tab
  have Cs' : CodeHd s.heap c 57 := by
    obtain ⟨o, vs, file, tf, flags, tg, inF, text, tt, e, r⟩ := C
    exact ⟨o, vs, file, tf, flags, tg, inF, text, tt, le _ _ e, r⟩
  have fin : ∀ {s' : Shared} {fd : FuncData}, Γ.S b m own s' → ∃ b', Le b b' ∧ (∃ f fd', Value.ref s'.heap.objs.size = .ref f ∧ b.get? f = none ∧ b'.get? f = some { cls := .type "function", data := .func fd' }) ∧ Γ.S b' m own { s' with heap := s'.heap.push { cls := .type "function", data := .func fd } } := by
    intro s' fd T'
    obtain ⟨b', l, n1, n2, e, T''⟩ := pushFreeze T' (o := { cls := .type "function", data := .func fd }) rfl
    exact ⟨b', l, ⟨_, fd, rfl, n1, e⟩, T''⟩
  cases hf : codeAmong pos ps.toList with
  | some cv =>
    refine kla_makeFunctionHit hcl O.glob (W.G.keeps le) hcode Cs' e57 t57 hf (hb.keeps le) fun ctv h' tk hk hsz => ?_
    exact fin (s' := { s with heap := h', toks := tk }) (T.heap hk)
  | none =>
    refine kla_makeFunction hcl O.glob (W.G.keeps le) hcode Cs' e57 t57 hf (by decide) (hb.keeps le) fun c' ctv h' tk hx h1 h2 h3 h4 => ?_
    exact fin (s' := { s with heap := h', toks := tk }) (T.tab57 hx h4 (by rw [Array.toList_append]; exact triples_snoc t57))
end
end Mine
end

section
open PySem PySem.W PySem.Calls PySem.Spec PyProof.Rows
set_option linter.unusedVariables false
namespace Mine
section
variable {Γ : Fx Prg} {b : Heap} {m : Str → Option Value} {own : List (Addr × Obj)}
/-- x, y = e, f -/
theorem Xs.asg2 (O : Γ.Ok) {x y : Str} {e f : Expr} {px py tp vp pos : Pos} {k1 k2 : Nat} {rest : List Stmt} {P : Heap → Value → Value → Prop} {Q : Flow → Shared → Prop} (ha : Args Γ b m own [e, f] (fun b' vs => ∃ u v, vs = [u, v] ∧ P b' u v)) (hx : Γ.env.kindOf x = some .local) (hy : Γ.env.kindOf y = some .local)
    (hs : swapsWithSole [.Tuple [.Name x px, .Name y py] k1 tp] (.Tuple [e, f] k2 vp) pos.line Γ.env = pure false) (hw : swappedStores [.Tuple [.Name x px, .Name y py] k1 tp] (.Tuple [e, f] k2 vp) Γ.env = pure (some [x, y]))
    (h : ∀ b' u v, Le b b' → P b' u v → Xs Γ b' (upd (upd m y v) x u) own rest Q) : Xs Γ b m own (.Assign [.Tuple [.Name x px, .Name y py] k1 tp] (.Tuple [e, f] k2 vp) pos :: rest) Q := by
  intro s E T
  refine wpAny_execs_cons (Assign_Tuple_swapped ?_ hs hw)
  refine wpAny_Tuple_spliced (wpAny_mono (ha s E vp T) (fun vs s₁ hvs => ?_) fun _ _ x => x)
  obtain ⟨b', l, ⟨u, v, rfl, p⟩, T₁⟩ := hvs
  refine ⟨by show 2 ≤ sizeLine; rw [sizeLine_eq]; decide, ?_⟩
  have T₂ := T₁.heap' (Le.push s₁.heap { cls := .type "tuple", data := .seq [u, v].toArray })
  refine unpackItems_tuple O.hand (items := [u, v].toArray) ⟨_, Heap.get?_push_size _ rfl, rfl, _, rfl⟩ fun h' he => ?_
  have T₃ : Γ.S b' m own { s₁ with heap := h' } := T₂.heap' fun a o e => he a o (Nat.ne_of_lt (Heap.lt_size e)) e
  show wpAny _ _ (assignInOrder [fun z => bindName Γ.env y z, fun z => bindName Γ.env x z] [v, u]) _ _ _
  unfold assignInOrder
  refine wpAny_bind (wpAny_holding (bindName_ (stores O T₃ hy fun s₄ T₄ => ?_)))
  unfold assignInOrder
  refine wpAny_bind (wpAny_holding (bindName_ (stores O T₄ hx fun s₅ T₅ => ?_)))
  unfold assignInOrder
  exact wpAny_pure (h b' u v l p s₅ E T₅)
end
end Mine
end

section
open PySem PySem.W PySem.Calls PySem.Spec PyProof.Rows
set_option linter.unusedVariables false
namespace Mine
section
variable {Γ : Fx Prg} {b : Heap} {m : Str → Option Value} {own : List (Addr × Obj)}
/-- a call of a bound append -/
theorem addCall {fn e : Expr} {pos : Pos} {R M : Addr} {ys : List Value} {n : Nat} {P : Value → Prop} {Q : Value → Shared → Prop} {E : Value → Shared → Prop} {s : Shared} (T : Γ.S b m ((R, lsN ys n) :: own) s) (hf : Ev Γ b m ((R, lsN ys n) :: own) fn (IsV (.ref M))) (hM : b.get? M = some (bmObj "list.append" R))
    (h1 : Ev Γ b m ((R, lsN ys n) :: own) e P) (hz : ys.length ≤ 1000) (k : ∀ v s', P v → Γ.S b m ((R, lsN (ys ++ [v]) (n + 1)) :: own) s' → Q .none s')
    (he : eval (.Call fn [e] [] pos) Γ.env = (do callWith pos (← eval fn Γ.env) [] (backTo pos (starEach [e] Γ.env)) (backToKw pos (keywordEach [] Γ.env))) := by rfl)
    (hs : starEach [e] Γ.env = (false, eval e Γ.env) :: starEach [] Γ.env := by rfl) : wpAny Γ.M Γ.A (eval (.Call fn [e] [] pos) Γ.env) Q E s := by
  refine Call_ (hf.use T fun v s₁ hv T₁ => ?_) he
  obtain rfl : v = .ref M := hv
  have hsp : wpAny Γ.M Γ.A (spliced (backTo pos (starEach [e] Γ.env))) (fun vs s₂ => ∃ v, vs = [v] ∧ P v ∧ Γ.S b m ((R, lsN ys n) :: own) s₂) E s₁ := spliced_more (h1.use T₁ fun v s₂ hv T₂ => spliced_none ⟨v, rfl, hv, T₂⟩) hs
  show wpAny _ _ (callWith pos (.ref M) [] (backTo pos (starEach [e] Γ.env)) []) _ _ _
  rw [hs] at hsp ⊢
  unfold callWith
  refine wpAny_bind (wpAny_holding (evalArgs_plain (wpAny_mono hsp (fun vs s₂ h₂ => wpAny_bind (wpAny_standAt ?_)) fun _ _ x => x)))
  obtain ⟨v, rfl, hv, T₂⟩ := h₂
  have ho := T₂.keep _ _ hM
  refine wpAny_bind (m := keeperOf (.ref M)) ?_
  unfold keeperOf
  refine wpAny_bind (wpAny_load ho ?_)
  simp only [show (Value.type "builtin_function_or_method" != Value.type "method") = true by decide, show (Value.type "builtin_function_or_method" == Value.type "builtin_function_or_method" || Value.type "builtin_function_or_method" == Value.type "method-wrapper") = true by decide, if_true]
  refine wpAny_pure ?_
  refine wpAny_bind (wpAny_mono (E := E) (call_bound (E := E) (Q := fun r s₃ => r = .none ∧ Γ.S b m ((R, lsN (ys ++ [v]) (n + 1)) :: own) s₃) ho (T₂.ow (R, _) (.head _)) (fun h' hsb hD => ⟨rfl, ?_⟩) (by rw [List.size_toArray, sizeLine_eq]; omega)) (fun r s₃ hr => wpAny_bind (wpAny_holding (wpAny_point (wpAny_pure ?_)))) fun _ _ x => x)
  · exact T₂.upd (l1 := []) (tk := s₂.toks) hsb (hD.trans (by rw [List.push_toArray]))
  · obtain ⟨rfl, T₃⟩ := hr
    exact k v s₃ hv T₃
end
end Mine
end

section
open PySem PySem.W
set_option linter.unusedVariables false
namespace Mine
abbrev Part : Type := Option Str
/-- what _translate makes of an item's text; what a part takes -/
def pieceF (t : Str) : Str := if t = "?" then "." else if t = "-" then "\\-" else if t = " " then "\\ " else if t = "[!a]" then "[^a]" else if t = "[c-a]" then "(?!)" else if t = "[!c-a]" then "." else t
def addPart (acc : List Part) (t : Str) : List Part := if t = "*" then (if acc.getLast? = some none then acc else acc ++ [none]) else acc ++ [some (pieceF t)]
def transF (items : List Item) : List Part := items.foldl (fun acc x => addPart acc x.1) []
def sigF (x : Str) : Option (Str × Bool) := if x = "(?!)" then none else if x = "." then some ("", true) else if x = "[*]" then some ("*", false) else if x = "[?]" then some ("?", false) else if x = "\\-" then some ("-", false) else if x = "\\ " then some (" ", false)
  else if x = "[^a]" then some ("a", true) else if x = "[a-c]" then some ("abc", false) else some (x, false)
def takeStep (line : Str) (pl : List Int) (p : Part) : List Int := match p with
  | none => if pl = [] then [] else rangeL (pl.headD 0) 1 ((line.length : Int) + 1 - pl.headD 0).toNat
  | some x => match sigF x with
    | none => []
    | some (s, barred) => stepF line pl s barred
theorem stepF_nil (line s : Str) (c : Bool) : stepF line [] s c = [] := rfl
theorem takeStep_pl {line : Str} {pl : List Int} (h : Pl line.length pl) (p : Part) : Pl line.length (takeStep line pl p) := by
  unfold takeStep
  cases p with
  | none =>
    dsimp only
    split
    · exact Pl.nil _
    · rename_i hne
      obtain ⟨k, r, rfl⟩ : ∃ k r, pl = k :: r := by cases pl with | nil => exact absurd rfl hne | cons k r => exact ⟨k, r, rfl⟩
      exact Pl.range (h.lo k (.head _)) (h.hi k (.head _))
  | some x =>
    dsimp only
    split
    · exact Pl.nil _
    · exact h.step
theorem fold_pl {line : Str} : ∀ (ps : List Part) {pl : List Int}, Pl line.length pl → Pl line.length (ps.foldl (takeStep line) pl)
  | [], _, h => h
  | p :: ps, _, h => fold_pl ps (takeStep_pl h p)
theorem star_twice {line : Str} {pl : List Int} (h : Pl line.length pl) : takeStep line (takeStep line pl none) none = takeStep line pl none := by
  unfold takeStep
  dsimp only
  by_cases e : pl = []
  · rw [if_pos e, if_pos rfl]
  · rw [if_neg e]
    obtain ⟨k, r, rfl⟩ : ∃ k r, pl = k :: r := by cases pl with | nil => exact absurd rfl e | cons k r => exact ⟨k, r, rfl⟩
    have h1 := h.hi k (.head _)
    obtain ⟨n, hn⟩ : ∃ n, ((line.length : Int) + 1 - k).toNat = n + 1 := ⟨((line.length : Int) - k).toNat, by omega⟩
    show (if rangeL k 1 ((line.length : Int) + 1 - k).toNat = [] then [] else _) = rangeL k 1 ((line.length : Int) + 1 - k).toNat
    have hh : rangeL k 1 (n + 1) = k :: ((List.range n).map Nat.succ).map fun (i : Nat) => k + (i : Int) * 1 := by simp [rangeL, List.range_succ_eq_map]
    rw [hn, hh, if_neg (by simp)]
    show rangeL ((rangeL k 1 ((line.length : Int) + 1 - k).toNat).headD 0) 1 ((line.length : Int) + 1 - (rangeL k 1 ((line.length : Int) + 1 - k).toNat).headD 0).toNat = _
    rw [hn, hh, List.headD_cons, hn, hh]
theorem stepF_empty (line : Str) (pl : List Int) : stepF line pl "" false = [] := by
  unfold stepF
  rw [List.filter_eq_nil_iff.mpr, List.map_nil]
  intro k _
  have : (("" : Str).cps.toList) = [] := by decide +kernel
  rw [this]
  simp
theorem meant_nil (line : Str) (x : Item) : meantStep line [] x = [] := by unfold meantStep; rw [if_pos rfl]
theorem piece_step {line : Str} {x : Item} (hx : x ∈ itemsT) (hs : x.1 ≠ "*") (pl : List Int) : takeStep line pl (some (pieceF x.1)) = meantStep line pl x := by
  have key : takeStep line pl (some (pieceF x.1)) = stepF line pl x.2.1 x.2.2 := by
    have hm := hx
    simp only [itemsT, itemsA, itemsB, itemsC, List.mem_append, List.mem_cons, List.not_mem_nil, or_false] at hm
    have go : ∀ (t s : Str) (c : Bool), sigF (pieceF t) = some (s, c) → takeStep line pl (some (pieceF t)) = stepF line pl s c := fun t s c e => by
      show (match sigF (pieceF t) with | none => [] | some (s, barred) => stepF line pl s barred) = _
      rw [e]
    have go0 : ∀ (t : Str), sigF (pieceF t) = none → takeStep line pl (some (pieceF t)) = [] := fun t e => by
      show (match sigF (pieceF t) with | none => [] | some (s, barred) => stepF line pl s barred) = _
      rw [e]
    rcases hm with ((rfl | rfl | rfl | rfl | rfl) | (rfl | rfl | rfl | rfl)) | (rfl | rfl | rfl)
    · exact go _ _ _ (by decide +kernel)
    · exact absurd rfl hs
    · exact go _ _ _ (by decide +kernel)
    · exact go _ _ _ (by decide +kernel)
    · exact go _ _ _ (by decide +kernel)
    · exact go _ _ _ (by decide +kernel)
    · exact go _ _ _ (by decide +kernel)
    · exact go _ _ _ (by decide +kernel)
    · exact go _ _ _ (by decide +kernel)
    · exact go _ _ _ (by decide +kernel)
    · exact (go0 _ (by decide +kernel)).trans (stepF_empty line pl).symm
    · exact go _ _ _ (by decide +kernel)
  rw [key]
  unfold meantStep
  by_cases e : pl = []
  · rw [if_pos e, e, stepF_nil]
  · rw [if_neg e, if_neg hs]
theorem add_step {line : Str} {x : Item} (hx : x ∈ itemsT) (acc : List Part) : (addPart acc x.1).foldl (takeStep line) [0] = meantStep line (acc.foldl (takeStep line) [0]) x := by
  unfold addPart
  by_cases hs : x.1 = "*"
  · rw [if_pos hs]
    have hm : ∀ pl, takeStep line pl none = meantStep line pl x := fun pl => by
      unfold takeStep meantStep
      dsimp only
      by_cases e : pl = []
      · rw [if_pos e, if_pos e]
      · rw [if_neg e, if_neg e, if_pos hs]
    by_cases hl : acc.getLast? = some none
    · rw [if_pos hl]
      obtain ⟨a', rfl⟩ : ∃ a', acc = a' ++ [none] := by
        obtain ⟨a', q⟩ := List.getLast?_eq_some_iff.mp hl
        exact ⟨a', q⟩
      rw [List.foldl_append, List.foldl_cons, List.foldl_nil, ← hm, star_twice (fold_pl a' (Pl.start _))]
    · rw [if_neg hl, List.foldl_append, List.foldl_cons, List.foldl_nil, hm]
  · rw [if_neg hs, List.foldl_append, List.foldl_cons, List.foldl_nil, piece_step hx hs]
theorem taken_meant {line : Str} : ∀ (items : List Item) (acc : List Part), (∀ x ∈ items, x ∈ itemsT) → (items.foldl (fun acc x => addPart acc x.1) acc).foldl (takeStep line) [0] = items.foldl (meantStep line) (acc.foldl (takeStep line) [0])
  | [], _, _ => rfl
  | x :: r, acc, h => by
    rw [List.foldl_cons, List.foldl_cons, taken_meant r _ fun y hy => h y (.tail _ hy), add_step (h x (.head _))]
theorem trans_meant (items : List Item) (h : ∀ x ∈ items, x ∈ itemsT) (line : Str) : ((transF items).foldl (takeStep line) [0]).any (· == (line.length : Int)) = meantF items line := by
  unfold transF meantF
  rw [taken_meant items [] h]
  rfl
end Mine
end

section
open PySem PySem.W
set_option linter.unusedVariables false
namespace Mine
theorem slice_to2 {tag text : Str} (h : tag.cps.toList.length = 2) : StrLaws.sliceText (tag ++ text) none (some 2) = tag := by
  rw [StrLaws.sliceText_to ⟨by omega, by rw [PyProof.Rows.cps_toList_append, List.length_append, h]; omega⟩, PyProof.Rows.cps_toList_append, List.drop_zero]
  have e : ((2 : Int) - 0).toNat = 2 := rfl
  rw [e, ← h, List.take_left]
theorem slice_from2 {tag text : Str} (h : tag.cps.toList.length = 2) : StrLaws.sliceText (tag ++ text) (some 2) none = text := by
  rw [StrLaws.sliceText_from ⟨by omega, by rw [PyProof.Rows.cps_toList_append, List.length_append, h]; omega⟩, PyProof.Rows.cps_toList_append]
  have e : ((2 : Int)).toNat = 2 := rfl
  have e2 : ((((tag.cps.toList ++ text.cps.toList).length : Nat) : Int) - 2).toNat = text.cps.toList.length := by rw [List.length_append, h]; omega
  rw [e2, e, ← h, List.drop_left, List.take_length]
/-- the side of a delta whose lines are a tag and a text -/
theorem restF_lines (T : Str) : ∀ (lines : List (Str × Str)), (∀ x ∈ lines, x.1.cps.toList.length = 2) → restF T (lines.map fun x => x.1 ++ x.2) = (lines.filter fun x => ([("  " : Str), T] : List Str).contains x.1).map (·.2)
  | [], _ => rfl
  | x :: r, h => by
    have ih := restF_lines T r fun y hy => h y (.tail _ hy)
    have h1 := h x (.head _)
    unfold restF at ih ⊢
    have hp : passF T (x.1 ++ x.2) = ([("  " : Str), T] : List Str).contains x.1 := by unfold passF; rw [slice_to2 h1]
    rw [List.map_cons, List.filter_cons, List.filter_cons, hp]
    cases ([("  " : Str), T] : List Str).contains x.1 with
    | true => rw [if_pos rfl, if_pos rfl, List.map_cons, List.map_cons, ih]; unfold cutF; rw [slice_from2 h1]
    | false => rw [if_neg Bool.false_ne_true, if_neg Bool.false_ne_true, ih]
end Mine
end

section
open PySem PySem.W PySem.Calls PySem.Spec PyProof.Rows
set_option linter.unusedVariables false
namespace Mine
section
variable {Γ : Fx Prg} {b : Heap} {m : Str → Option Value} {own : List (Addr × Obj)}
theorem Tw.orN {pos} : Tw Γ b m own (.BoolOp .Or [] pos) false := fun _ _ _ T => isTrue_or_nil ⟨rfl, T⟩
theorem Tw.orT {x : Expr} {rest} {pos} (h : Tv Γ b m own x true) : Tw Γ b m own (.BoolOp .Or (x :: rest) pos) true := fun _ _ _ T => isTrue_or (h.use T fun _ T' => by rw [if_pos rfl]; exact ⟨rfl, T'⟩)
theorem Tw.orF {x : Expr} {rest} {pos} {c : Bool} (h : Tv Γ b m own x false) (k : Tw Γ b m own (.BoolOp .Or rest pos) c) : Tw Γ b m own (.BoolOp .Or (x :: rest) pos) c :=
  fun _ _ _ T => isTrue_or (h.use T fun _ T' => by rw [if_neg Bool.false_ne_true]; exact k _ _ _ T')
theorem Tv.lstOwn {e : Expr} {a : Addr} {ys : List Value} {n : Nat} (he : Ev Γ b m own e (IsV (.ref a))) (hin : (a, lsN ys n) ∈ own) (hl : ys.length ≤ 1000) (hp : ∀ whole, isTrue e Γ.env whole = (do let v ← whole; standAt e.pos; holding [v] (truthy v))) :
    Tv Γ b m own e (!decide (ys.length = 0)) := fun s E T => isTrue_plain (he.use T fun v s₁ hv T₁ => by
  obtain rfl : v = .ref a := hv
  refine wpAny_truthy_list ⟨_, T₁.ow (a, _) hin, rfl, _, rfl⟩ (by simp; omega) ?_
  refine ⟨?_, T₁.toks⟩
  cases ys <;> simp) (hp _)
theorem Tv.str {e : Expr} {x : Str} (he : Ev Γ b m own e (IsS x)) (hl : x.length ≤ 1000000) (hp : ∀ whole, isTrue e Γ.env whole = (do let v ← whole; standAt e.pos; holding [v] (truthy v))) :
    Tv Γ b m own e ((x.length : Int) != 0) := fun s E T => isTrue_plain (he.use T fun v s₁ hv T₁ => by
  obtain ⟨t, rfl⟩ := hv
  exact PySem.P.truthy_str (by omega) ⟨rfl, T₁.toks⟩) (hp _)
theorem Ev.itemOwn {value slice : Expr} {pos} {a : Addr} {ys : List Value} {n k : Nat} {x : Value} (hin : (a, lsN ys n) ∈ own) (hv : Ev Γ b m own value (IsV (.ref a))) (hi : Ev Γ b m own slice (IsI k)) (hx : ys[k]? = some x) (hl : ys.length ≤ 1000)
    (hs : ∀ u, subscripted slice false (.ref a) (.int k u) = operate [.ref a, .int k u] (getItem (.ref a) (.int k u))) (ht : ∀ r, letTemporaryGo value (.ref a) r = pure ()) : Ev Γ b m own (.Subscript value slice pos) (IsV x) := by
  intro s E T
  refine Subscript_ (hv.use T fun v s₁ hv T₁ => hi.use T₁ fun j s₂ hj T₂ => ?_)
  obtain rfl : v = .ref a := hv
  obtain ⟨u, rfl⟩ := hj
  have hk := (List.getElem?_eq_some_iff.mp hx).1
  exact item_list (items := ys.toArray) ⟨_, T₂.ow (a, _) hin, rfl, _, rfl⟩ (by omega) (by omega) (by simpa using hx) ⟨rfl, T₂⟩ (hs u) ht
theorem Ev.itemOwnN {value slice : Expr} {pos} {a : Addr} {ys : List Value} {n : Nat} {x : Value} (hin : (a, lsN (ys ++ [x]) n) ∈ own) (hv : Ev Γ b m own value (IsV (.ref a))) (hi : Ev Γ b m own slice (IsI (-1))) (hl : ys.length ≤ 1000)
    (hs : ∀ u, subscripted slice false (.ref a) (.int (-1) u) = operate [.ref a, .int (-1) u] (getItem (.ref a) (.int (-1) u))) (ht : ∀ r, letTemporaryGo value (.ref a) r = pure ()) : Ev Γ b m own (.Subscript value slice pos) (IsV x) := by
  intro s E T
  refine Subscript_ (hv.use T fun v s₁ hv T₁ => hi.use T₁ fun j s₂ hj T₂ => ?_)
  obtain rfl : v = .ref a := hv
  obtain ⟨u, rfl⟩ := hj
  have hl' : s₂.heap.IsList a (ys ++ [x]).toArray := ⟨_, T₂.ow (a, _) hin, rfl, _, rfl⟩
  refine subscriptTail_builtin hl'.typeIs F.slot_list_getitem.lookup (wpAny_getItem_list_neg (x := x) hl' (by omega) (by simp; omega) (by omega) ?_ ⟨rfl, T₂⟩) (hs u) ht
  have e : ((-1 : Int) + ((ys ++ [x]).toArray.size : Int)).toNat = ys.length := by simp; omega
  rw [e]; simp
theorem cop_isnot_same {a : Addr} : Cop .IsNot (IsV (.ref a)) (IsV (.ref a)) (IsB false) := by
  rintro _ _ _ _ s _ _ _ rfl rfl k
  have := k (.bool false) s.toks rfl
  exact isnot_ref_same this
theorem cop_isnot_sr {a : Addr} {x : Str} : Cop .IsNot (IsS x) (IsV (.ref a)) (IsB true) := by
  rintro _ _ _ _ s _ _ _ ⟨t, rfl⟩ rfl k
  have := k (.bool true) s.toks rfl
  exact wpAny_pure this
theorem cop_is_same {a : Addr} : Cop .Is (IsV (.ref a)) (IsV (.ref a)) (IsB true) := by
  intro prog w A E s x y Q h1 h2 k
  obtain rfl : x = .ref a := h1
  obtain rfl : y = .ref a := h2
  have := k (.bool true) s.toks rfl
  show wpAny _ A (do return Value.bool (← isSame (.ref a) (.ref a))) Q E s
  unfold isSame
  simp only [beq_self_eq_true, if_true]
  exact wpAny_bind (wpAny_pure (wpAny_pure this))
theorem cop_is_sr {a : Addr} {x : Str} : Cop .Is (IsS x) (IsV (.ref a)) (IsB false) := by
  rintro _ _ _ _ s _ _ _ ⟨t, rfl⟩ rfl k
  have := k (.bool false) s.toks rfl
  exact wpAny_pure this
theorem cop_gtS {x y : Str} : Cop .Gt (IsS x) (IsS y) (IsB (decide (y.cps.toList < x.cps.toList))) := by
  rintro _ _ _ _ s _ _ _ ⟨t, rfl⟩ ⟨u, rfl⟩ k
  have := k (.bool (decide (y.cps.toList < x.cps.toList))) s.toks rfl
  exact PySem.P.gt_str this
theorem cop_notinS {x y : Str} : Cop .NotIn (IsS y) (IsS x) (IsB (!Txt.contains x y)) := by
  rintro _ _ _ _ s _ _ _ ⟨t, rfl⟩ ⟨u, rfl⟩ k
  have := k (.bool (!Txt.contains x y)) s.toks rfl
  exact PySem.P.notIn_str this
theorem cev_replace {x y z : Str} {vx vy vz : Value} (h : (Builtin.Str.occurrences x y 0 x.length (x.length + 1)).isEmpty = true) (hx : IsS x vx) (hy : IsS y vy) (hz : IsS z vz) : Cev Γ b m own (.builtin "str.replace") [vx, vy, vz] (IsS x) := by
  intro s E T
  obtain ⟨t, rfl⟩ := hx
  obtain ⟨u, rfl⟩ := hy
  obtain ⟨v, rfl⟩ := hz
  refine call_gives F.slot_str_replace (typeIs_str _ _ _) F.entry_str_replace (F.args_str_replace_3 _ _ _) (gives_str_replace x y z t u v fun q => ?_) ?_
  · rw [h] at q; cases q
  · rw [h]
    exact ⟨⟨t, rfl⟩, T⟩
theorem Xs.addS {fn e : Expr} {pos p4 : Pos} {R M : Addr} {ys : List Value} {n : Nat} {P : Value → Prop} {rest : List Stmt} {Q : Flow → Shared → Prop} (hf : Ev Γ b m ((R, lsN ys n) :: own) fn (IsV (.ref M))) (hM : b.get? M = some (bmObj "list.append" R))
    (h1 : Ev Γ b m ((R, lsN ys n) :: own) e P) (hz : ys.length ≤ 1000) (hi : interactive Γ.env = false) (hw : swapsWith (.Call fn [e] [] pos) none p4.line Γ.env = pure false)
    (he : eval (.Call fn [e] [] pos) Γ.env = (do callWith pos (← eval fn Γ.env) [] (backTo pos (starEach [e] Γ.env)) (backToKw pos (keywordEach [] Γ.env))))
    (hs : starEach [e] Γ.env = (false, eval e Γ.env) :: starEach [] Γ.env)
    (k : ∀ v, P v → Xs Γ b m ((R, lsN (ys ++ [v]) (n + 1)) :: own) rest Q) : Xs Γ b m ((R, lsN ys n) :: own) (.Expr (.Call fn [e] [] pos) p4 :: rest) Q :=
  fun s E T => wpAny_execs_cons (wpAny_Expr_any (addCall T hf hM h1 hz (fun v s' hv T' => k v hv s' E T') he hs) hi hw)
end
end Mine
end

section
open PySem PySem.W PySem.Calls PySem.Spec PyProof.Rows
set_option linter.unusedVariables false
namespace Mine
section
variable {Γ : Fx Prg} {b : Heap} {m : Str → Option Value} {own : List (Addr × Obj)}
theorem cop_geI {i j : Int} : Cop .GtE (IsI i) (IsI j) (IsB (decide (j ≤ i))) := by rintro _ _ _ _ _ _ _ _ ⟨t, rfl⟩ ⟨u, rfl⟩ k; exact PyProof.Rows.ge_int (k _ _ rfl)
theorem bop_addS {x y : Str} (h : x.length + y.length ≤ 1000000) : Bop .Add (IsS x) (IsS y) (IsS (x ++ y)) := by
  rintro _ _ _ _ s _ _ _ ⟨t, rfl⟩ ⟨u, rfl⟩ k
  exact PyProof.Rows.add_str (fun t' tk => k _ _ ⟨_, rfl⟩) (by have := sizeLine_eq; omega)
theorem item_last {x : Str} {c : Nat} (hc : x.cps[x.length - 1]? = some c) : Txt.item x (-1) = ⟨#[c]⟩ := by
  have h1 : 0 < x.length := by
    rcases Nat.eq_zero_or_pos x.length with h | h
    · have h : x.cps.size = 0 := h
      have := (Array.getElem?_eq_some_iff.mp hc).1
      omega
    · exact h
  have e : seqIndex? (-1) x.length = some (x.length - 1) := by
    unfold seqIndex?
    rw [if_pos (show (-1 : Int) < 0 by omega)]
    have : (decide (0 ≤ (-1 : Int) + (x.length : Int)) && decide ((-1 : Int) + (x.length : Int) < (x.length : Int))) = true := by simp; omega
    simp only [this, if_true]
    congr 1; omega
  unfold Txt.item Txt.charAt
  rw [e]
  show (⟨#[(x.cps[x.length - 1]?).getD 0]⟩ : Str) = _
  rw [hc]; rfl
theorem Ev.itemSN {value slice : Expr} {pos} {x : Str} {c : Nat} (hv : Ev Γ b m own value (IsS x)) (hi : Ev Γ b m own slice (IsI (-1))) (hc : x.cps[x.length - 1]? = some c) (hl : x.length ≤ 1000)
    (hs : ∀ t u, subscripted slice false (.str x t) (.int (-1) u) = operate [.str x t, .int (-1) u] (getItem (.str x t) (.int (-1) u))) (ht : ∀ t r, letTemporaryGo value (.str x t) r = pure ()) : Ev Γ b m own (.Subscript value slice pos) (IsS ⟨#[c]⟩) := by
  intro s E T
  refine Subscript_ (hv.use T fun v s₁ hv T₁ => hi.use T₁ fun j s₂ hj T₂ => ?_)
  obtain ⟨t, rfl⟩ := hv
  obtain ⟨u, rfl⟩ := hj
  have h1 : 0 < x.cps.size := by have := (Array.getElem?_eq_some_iff.mp hc).1; omega
  have e : x.length = x.cps.size := rfl
  refine item_str (by decide +kernel) (by omega) (by omega) (fun _ => ?_) (hs t u) (ht t)
  rw [item_last hc]
  exact ⟨⟨_, rfl⟩, T₂.toks⟩
/-- xs[k] = v, del xs[k] for an own list -/
theorem Xs.setOwn {o i value : Expr} {p pos : Pos} {a : Addr} {ys : List Value} {n k : Nat} {P : Value → Prop} {rest : List Stmt} {Q : Flow → Shared → Prop} (hv : Ev Γ b m ((a, lsN ys n) :: own) value P) (ho : Ev Γ b m ((a, lsN ys n) :: own) o (IsV (.ref a))) (hi : Ev Γ b m ((a, lsN ys n) :: own) i (IsI k))
    (hk : k < ys.length) (hl : ys.length ≤ 1000) (hs : swapsWith value (some (.Subscript o i p)) pos.line Γ.env = pure false)
    (K : ∀ v, P v → Xs Γ b m ((a, lsN (ys.set k v) n) :: own) rest Q) : Xs Γ b m ((a, lsN ys n) :: own) (.Assign [.Subscript o i p] value pos :: rest) Q := by
  intro s E T
  refine wpAny_execs_cons (wpAny_Assign_Subscript (hv.use T fun v s₁ hp T₁ => ho.use T₁ fun ov s₂ hov T₂ => hi.use T₂ fun iv s₃ hiv T₃ => ?_) hs)
  obtain rfl : ov = .ref a := hov
  obtain ⟨u, rfl⟩ := hiv
  have h0 := T₃.ow (a, _) (.head _)
  refine ki_setAt (n := n) (items := ys.toArray) h0 (by omega) (by omega) (by simpa using hk) ?_
  refine K v hp _ _ (T₃.upd (l1 := []) (tk := s₃.toks) (Heap.SameBut.update ..) ?_)
  have q := PySem.IsL.update (n := n) (items := ys.toArray) h0 (·.setIfInBounds (k : Int).toNat v)
  rw [if_pos (by simp)] at q
  have e : ys.toArray.setIfInBounds (k : Int).toNat v = (ys.set k v).toArray := by simp
  rw [e] at q
  exact q
theorem Xs.delOwn {o i : Expr} {p pos : Pos} {a : Addr} {ys : List Value} {n k : Nat} {rest : List Stmt} {Q : Flow → Shared → Prop} (ho : Ev Γ b m ((a, lsN ys n) :: own) o (IsV (.ref a))) (hi : Ev Γ b m ((a, lsN ys n) :: own) i (IsI k))
    (hk : k < ys.length) (hl : ys.length ≤ 1000)
    (K : Xs Γ b m ((a, lsN (ys.eraseIdx k) (n + 1)) :: own) rest Q) : Xs Γ b m ((a, lsN ys n) :: own) (.Delete [.Subscript o i p] pos :: rest) Q := by
  intro s E T
  refine wpAny_execs_cons (wpAny_Delete (wpAny_deleteEach_cons (delete_Subscript (ho.use T fun ov s₂ hov T₂ => hi.use T₂ fun iv s₃ hiv T₃ => ?_))))
  obtain rfl : ov = .ref a := hov
  obtain ⟨u, rfl⟩ := hiv
  have h0 := T₃.ow (a, _) (.head _)
  refine PySem.P.delItem_list (n := n) (items := ys.toArray) (k := k) h0 ?_ ?_ ?_ (by have := sizeLine_eq; simp; omega)
  · unfold Builtin.List.listFitsIndex; simp; omega
  · unfold seqIndex?
    rw [if_neg (show ¬ (k : Int) < 0 by omega)]
    have : (decide (0 ≤ (k : Int)) && decide ((k : Int) < (ys.toArray.size : Int))) = true := by simp; omega
    simp only [this, if_true]; simp
  · refine wpAny_deleteEach_nil (K _ _ (T₃.upd (l1 := []) (tk := s₃.toks) (Heap.SameBut.update ..) ?_))
    have q := PySem.IsL.update (n := n) (items := ys.toArray) h0 (·.eraseIdxIfInBounds k)
    have e : ys.toArray.eraseIdxIfInBounds k = (ys.eraseIdx k).toArray := by simp
    rw [e, if_neg (by simp [List.length_eraseIdx, hk]; omega)] at q
    exact q
/-- the first place of a text -/
theorem occ_first {x y : Str} {lo hi : Nat} (hy : y.length = 1) (h : lo + 1 ≤ hi) (hs : Builtin.Str.subAt x y lo = true) : Builtin.Str.occurrences x y lo hi 1 = [lo] := by
  rw [StrLaws.occ_eq, show hi + 1 - lo = (hi - lo) + 1 by omega, List.range'_succ, List.forIn_cons]
  have e : StrLaws.occBody x y hi 1 lo (#[], lo) = pure (ForInStep.yield (#[lo], lo + y.length)) := by
    unfold StrLaws.occBody
    rw [if_pos ⟨⟨⟨by simp, Nat.le_refl _⟩, by omega⟩, hs⟩]; rfl
  rw [e]
  have more : ∀ (l : List Nat) (f : Nat), (forIn l (#[lo], f) (StrLaws.occBody x y hi 1) : Id _).run.fst.toList = [lo] := by
    intro l
    induction l with
    | nil => intro f; rfl
    | cons a r ih =>
      intro f
      rw [List.forIn_cons]
      have e : StrLaws.occBody x y hi 1 a (#[lo], f) = pure (ForInStep.yield (#[lo], f)) := by
        unfold StrLaws.occBody
        rw [if_neg (fun h => absurd h.1.1.1 (by simp))]
      rw [e]
      exact ih f
  exact more _ _
theorem occ_none {x y : Str} {lo hi : Nat} (h : hi + 1 ≤ lo) : Builtin.Str.occurrences x y lo hi 1 = [] := by
  rw [StrLaws.occ_eq, show hi + 1 - lo = 0 by omega]; rfl
theorem gives_find4 (x y : Str) (i j : Nat) (t u v v' : Tok) (hj : j ≤ x.length) : Gives (Builtin.«str.find» ⟨[.str x t, .str y u, .int i v, .int j v'], []⟩) (.int (match Builtin.Str.occurrences x y i j 1 with | k :: _ => (k : Int) | [] => -1)) := by
  have e1 : (max 0 (if (i : Int) < 0 then (i : Int) + (x.length : Int) else (i : Int))).toNat = i := by rw [if_neg (by omega)]; omega
  have e2 : min (max 0 (if (j : Int) < 0 then (j : Int) + (x.length : Int) else (j : Int))).toNat x.length = j := by rw [if_neg (by omega)]; omega
  have : Gives (match Builtin.Str.occurrences x y (max 0 (if (i : Int) < 0 then (i : Int) + (x.length : Int) else (i : Int))).toNat (min (max 0 (if (j : Int) < 0 then (j : Int) + (x.length : Int) else (j : Int))).toNat x.length) 1 with | k :: _ => retInt k | [] => (do rule "str.find.not-found"; retInt (-1))) (.int (match Builtin.Str.occurrences x y i j 1 with | k :: _ => (k : Int) | [] => -1)) := by
    rw [e1, e2]
    cases Builtin.Str.occurrences x y i j 1 with
    | nil => exact .rule (.of_eq rfl)
    | cons k _ => exact .of_eq rfl
  exact this
theorem cev_find {x y : Str} {i j : Nat} {r : Int} {vx vy vi vj : Value} (hj : j ≤ x.length) (hr : (match Builtin.Str.occurrences x y i j 1 with | k :: _ => (k : Int) | [] => -1) = r) (hx : IsS x vx) (hy : IsS y vy) (h1 : IsI i vi) (h2 : IsI j vj) :
    Cev Γ b m own (.builtin "str.find") [vx, vy, vi, vj] (IsI r) := by
  intro s E T
  obtain ⟨t, rfl⟩ := hx
  obtain ⟨u, rfl⟩ := hy
  obtain ⟨v, rfl⟩ := h1
  obtain ⟨v', rfl⟩ := h2
  refine call_gives F.slot_str_find (typeIs_str _ _ _) F.entry_str_find (F.args_str_find_4 _ _ _ _) (gives_find4 x y i j t u v v' hj) ?_
  rw [hr]
  exact ⟨⟨_, rfl⟩, T.toks⟩
theorem Ev.sliceT {value : Expr} {lo up : Option Expr} {p pos} {x : Str} {pl pu : Option Int} (hv : Ev Γ b m own value (IsS x)) (h1 : PartIs Γ b m own lo pl) (h2 : PartIs Γ b m own up pu) (hn : x.length ≤ 2 ^ 20) 
    (ht : ∀ t r, letTemporaryGo value (.str x t) r = pure ()) : Ev Γ b m own (.Subscript value (.Slice lo up none p) pos) (IsS (StrLaws.sliceText x pl pu)) := by
  intro s E T
  have hz : x.length ≤ sizeLine := by rw [sizeLine_eq]; omega
  have kp : KeptByPush (fun s => Γ.S b m own s) := fun s ob k T => T.heap (Le.push _ _)
  refine Subscript_ (hv.use T fun v s₁ hv T₁ => ?_)
  obtain ⟨t, rfl⟩ := hv
  refine wpAny_Slice ?_
  cases lo with
  | none =>
    cases pl with
    | some i => exact h1.elim
    | none =>
      refine evalPart_none_step ?_
      cases up with
      | none =>
        cases pu with
        | some i => exact h2.elim
        | none => exact evalPart_none_step (evalPart_none_step (tail_of_ItemOn (SBG.sliceItem_nn kp T₁ (fun s' t' T' => ⟨⟨t', rfl⟩, T'⟩) hz) (by with_unfolding_all rfl) (ht t)))
      | some e =>
        cases pu with
        | none => exact h2.elim
        | some j =>
          refine evalPart_some_step (Ev.use h2 T₁ fun v s₂ hv T₂ => ?_)
          obtain ⟨u, rfl⟩ := hv
          exact evalPart_none_step (tail_of_ItemOn (SBG.sliceItem_ns kp T₂ (fun s' t' T' => ⟨⟨t', rfl⟩, T'⟩) hz) (by with_unfolding_all rfl) (ht t))
  | some e₁ =>
    cases pl with
    | none => exact h1.elim
    | some i =>
      refine evalPart_some_step (Ev.use h1 T₁ fun v s₂ hv T₂ => ?_)
      obtain ⟨u, rfl⟩ := hv
      cases up with
      | none =>
        cases pu with
        | some i => exact h2.elim
        | none => exact evalPart_none_step (evalPart_none_step (tail_of_ItemOn (SBG.sliceItem_sn kp T₂ (fun s' t' T' => ⟨⟨t', rfl⟩, T'⟩) hz) (by with_unfolding_all rfl) (ht t)))
      | some e =>
        cases pu with
        | none => exact h2.elim
        | some j =>
          refine evalPart_some_step (Ev.use h2 T₂ fun v s₃ hv T₃ => ?_)
          obtain ⟨u', rfl⟩ := hv
          exact evalPart_none_step (tail_of_ItemOn (SBG.sliceItem_ss kp T₃ (fun s' t' T' => ⟨⟨t', rfl⟩, T'⟩) hz) (by with_unfolding_all rfl) (ht t))
end
end Mine
end

section
open PySem PySem.W PySem.Calls PySem.Spec PyProof.Rows
set_option linter.unusedVariables false
namespace Mine
section
variable {Γ : Fx Prg} {b : Heap} {m : Str → Option Value} {own : List (Addr × Obj)} {mg mb : Str → Option Value}
theorem Keeps.here {s : Shared} {tk : Nat} : Keeps s { s with toks := tk } := ⟨_, _, rfl, fun _ _ e => e⟩
/-- x.replace(y, z) where there is nothing to replace, in any frame -/
theorem replAny {w : World} {A : Around} {E : Value → Shared → Prop} {s₀ s : Shared} {env : Env} {o : Expr} {ap pos p1 p2 : Pos} {k1 k2 : Nat} {x y z : Str} (h : wpAny (model Prg w) A (eval o env) (fun v s₁ => IsS x v ∧ Keeps s₀ s₁) E s) 
    (hocc : (Builtin.Str.occurrences x y 0 x.length (x.length + 1)).isEmpty = true)
    (hbase : attributeBase o "replace" env (eval o env) = eval o env) (hline : (ap.endLine == pos.line) = true) 
    (hs : starEach [Expr.Constant (.str y) k1 p1, Expr.Constant (.str z) k2 p2] env = [(false, eval (.Constant (.str y) k1 p1) env), (false, eval (.Constant (.str z) k2 p2) env)] := by rfl) :
    wpAny (model Prg w) A (eval (.Call (.Attribute o "replace" ap) [.Constant (.str y) k1 p1, .Constant (.str z) k2 p2] [] pos) env) (fun v s₁ => IsS x v ∧ Keeps s₀ s₁) E s := by
  refine wpAny_Call_method hbase (by rfl) hline F.plainAttrs_str F.slot_str_replace F.type_str_replace (wpAny_mono h (fun v s₁ hv => ?_) fun _ _ e => e)
  obtain ⟨⟨t, rfl⟩, hk⟩ := hv
  refine ⟨typeIs_str _ _ _, fun a q => (by cases q), callWith_method1 ?_⟩
  refine spliced_more (wpAny_Constant_str (spliced_more (wpAny_Constant_str (spliced_none ?_)))) 
  refine call_gives F.slot_str_replace (typeIs_str _ _ _) F.entry_str_replace (F.args_str_replace_3 _ _ _) (gives_str_replace x y z _ _ _ fun q => ?_) ?_
  · rw [hocc] at q; cases q
  · rw [hocc]
    refine ⟨⟨t, rfl⟩, ?_⟩
    obtain ⟨h', tk, rfl, hk'⟩ := hk
    exact ⟨h', _, rfl, hk'⟩
theorem passing_all (n : Nat) : passing (fun _ => true) n 0 = List.range n := by
  unfold passing; simp
theorem genJoin (O : Γ.Ok) (W : Wd Γ.w mg mb Γ.g) {c D : Addr} {ys : List Value} {n : Nat} {xs : List Str} {sep x y : Str} {t : Tok} (hcode : Γ.env.code = .ref c) (C : CodeHd Γ.g c 57) (hb : Γ.g.BuiltinsAt mg 57)
    {elt : Expr} {px py gp : Pos} {scope : Scope} {cl : List (Str × Addr)} (hin : (D, lsN ys n) ∈ own) (hys : All2 (fun v x => IsS x v) ys xs) (hlen : ys.length ≤ 1000)
    (hy : m y = some (.ref D)) (ky : Γ.env.kindOf y = some .local) (hyd : (y == ("__debug__" : Str)) = false)
    (hco : scope.isCoroutine = false) (hclos : closureFor scope Γ.env = pure cl) (hcell : ∀ y ∈ scope.names, y.2 ≠ .cell) (h0 : scope.names.lookup (".0" : Str) = some NameKind.local) (hx : scope.names.lookup x = some .local) (hkind : scope.kind = .function)
    (helt : ∀ (A' : Around) E' C' code bi v z s₂ m₂, A'.handled = none → z ∈ xs → IsS z v → s₂.heap.Ns C' m₂ → m₂ x = some v → wpAny (model Prg Γ.w) A' (eval elt (genEnv scope cl C' code bi Γ.env)) (fun y s₃ => IsS z y ∧ Keeps s₂ s₃) E' s₂)
    (hs : ∀ x, genFold (.Name y py) Γ.env x = pure x) (hok : JoinOk sep xs = true) {s : Shared} {Q E : Value → Shared → Prop} (T : Γ.S b m own s) (k : ∀ s' t', Γ.S b m own s' → Q (.str (Txt.join sep xs) t') s') :
    wpAny Γ.M Γ.A (eval (.GeneratorExp elt [⟨.Name x px, .Name y py, [], 0⟩] scope gp) Γ.env) (fun v s' => wpAny Γ.M Γ.A (call (.builtin "str.join") [.str sep t, v]) Q E s') E s := by
  refine wpAny_GeneratorExp_walksQ O.hand hco hclos hcell h0 hx hkind (by have := O.depth; omega) (Ev.use (Γ := Γ) (P := IsV (.ref D)) (Ev.loc O hy ky hyd) T fun xv s₁ hv T₁ => ?_) hs
  obtain rfl : xv = .ref D := hv
  have hl : s₁.heap.IsList D ys.toArray := ⟨_, T₁.ow (D, _) hin, rfl, _, rfl⟩
  have hlt : D < s₁.heap.objs.size := Heap.lt_size (T₁.ow (D, _) hin)
  have n57D : D ≠ 57 := fun q => by
    have := (List.nodup_cons.mp (List.nodup_cons.mp T₁.nd).2).1
    exact this (q ▸ List.mem_map_of_mem (f := (·.1)) hin)
  refine wpAny_pyIter_list hl ?_
  have T₂ : Γ.S b m own { s₁ with heap := s₁.heap.push { cls := .type "list_iterator", data := .fields #[.ref D, .int 0 0] } } := T₁.heap' (Le.push _ _)
  refine ⟨?_, ?_⟩
  · obtain ⟨mc, a, d⟩ := W.lim
    exact ⟨mc, a.keeps (T₂.gr.trans T₂.keep), d⟩
  obtain ⟨ps, e57, t57⟩ := T₂.tab
  have n57I : s₁.heap.objs.size ≠ 57 := fun q => by
    have h1 : (57 : Nat) < s₁.heap.objs.size := T₁.low (a := 57) (by simp)
    have h2 : (s₁.heap.objs.size : Nat) = 57 := q
    omega
  have C₂ := C.keeps (T₂.gr.trans T₂.keep)
  have fin : ∀ (code : Value) (h₃ : Heap) (tk₃ : Nat), Heap.ExtBut 57 (s₁.heap.push { cls := .type "list_iterator", data := .fields #[.ref D, .int 0 0] }) h₃ → (s₁.heap.push { cls := .type "list_iterator", data := .fields #[.ref D, .int 0 0] }).objs.size ≤ h₃.objs.size →
      Γ.S b m own { s₁ with heap := h₃, toks := tk₃ } → wpAny Γ.M Γ.A (builtinsFor Γ.env.globals Γ.env.builtins) (fun bi s₄ => ∃ I fp wr n₀ P St₀ pz F, Value.ref s₁.heap.objs.size = .ref I ∧ (∀ A' : Around, A'.handled = none → Walks Prg Γ.w A' I fp wr n₀ P St₀) ∧ St₀ 0 s₄.heap ∧ (∀ b ∈ fp, b < s₄.heap.objs.size) ∧ s₄.heap.NoLimit ∧ cStatics ∉ wr ∧
          (∀ href : Heap, (∀ b o, s₄.heap.get? b = some o → href.get? b = some o) →
            QuietGen Prg Γ.w (genEnv scope cl s₄.heap.objs.size code bi Γ.env) x [] elt (List.range s₄.heap.objs.size) wr P pz F href) ∧
          (∀ a h₅ tk gs, gs.bare = true → s₄.heap.objs.size < a → h₅.objs.size = a + 1 → (∀ b o, s₄.heap.get? b = some o → h₅.get? b = some o) →
            WalksS Prg Γ.w Γ.A.in4 a (a :: s₄.heap.objs.size :: List.range s₄.heap.objs.size) (s₄.heap.objs.size :: wr) (GenOnlyQ s₄.gens.size) (passing pz n₀ 0).length
              (fun j y => ∃ i, (passing pz n₀ 0)[j]? = some i ∧ F i y) (GenAt Prg Γ.w Γ.A.in4 a s₄.gens.size s₄.heap.objs.size (List.range s₄.heap.objs.size) wr pz n₀ F) →
            GenAt Prg Γ.w Γ.A.in4 a s₄.gens.size s₄.heap.objs.size (List.range s₄.heap.objs.size) wr pz n₀ F 0 { s₄ with gens := s₄.gens.push gs, toks := tk, heap := h₅ } →
            wpAny Γ.M Γ.A (call (.builtin "str.join") [.str sep t, .ref a]) Q E { s₄ with gens := s₄.gens.push gs, toks := tk, heap := h₅ })) E { s₁ with heap := h₃, toks := tk₃ } := by
    intro code h₃ tk₃ hx₃ hsz T₃
    have hsz' : s₁.heap.objs.size < h₃.objs.size := by rw [Heap.size_push] at hsz; omega
    obtain ⟨bm, ob, b1, b2, b3, b4, b5, b6, b7, b8⟩ := hb.keeps (T₃.gr.trans T₃.keep)
    refine wpAny_builtinsFor (m := mg) (bm := bm) (o := ob) (by rw [O.glob]; exact W.G.keeps (T₃.gr.trans T₃.keep)) b1 b2 b5 b6 b7 b8 ?_
    refine ⟨s₁.heap.objs.size, [s₁.heap.objs.size, D], [s₁.heap.objs.size], ys.toArray.size, _, _, fun _ => true, fun i v => ∃ z, xs[i]? = some z ∧ IsS z v, rfl, fun A' hA => Walks.list hA _ _ (Nat.ne_of_lt hlt) ys.toArray, ⟨⟨_, hx₃ _ _ n57I (Heap.get?_push_size _ rfl), rfl, rfl⟩, ?_⟩, ?_, ?_, ?_, ?_, ?_⟩
    · exact ⟨_, hx₃ _ _ n57D (Heap.get?_push_of_some _ (T₁.ow (D, _) hin)), rfl, _, rfl⟩
    · intro a ha
      rcases List.mem_cons.mp ha with rfl | ha
      · exact hsz'
      · rcases List.mem_cons.mp ha with rfl | ha
        · exact Nat.lt_trans hlt hsz'
        · cases ha
    · obtain ⟨mc, a, d⟩ := W.lim
      exact ⟨mc, a.keeps (T₃.gr.trans T₃.keep), d⟩
    · intro hm
      rcases List.mem_cons.mp hm with e | hm
      · have h1 : cStatics < s₁.heap.objs.size := by
          obtain ⟨mc, a, d⟩ := W.lim
          exact (a.keeps (T₁.gr.trans T₁.keep)).lt
        exact Nat.lt_irrefl _ (e ▸ h1)
      · cases hm
    · intro href hhref
      refine ⟨fun A' E' i v s₂ m₂ hA hP hn hv _ => wpAny_pure ⟨rfl, _, _, rfl, fun _ _ e => e⟩, fun A' E' i v s₂ m₂ hA hP _ hn hv _ => ?_⟩
      have hP : ys.toArray[i]? = some v := hP
      rw [List.getElem?_toArray] at hP
      obtain ⟨z, hz, hzv⟩ := hys.getL hP
      refine wpAny_mono (helt A' E' _ _ _ v z s₂ m₂ hA (List.mem_of_getElem? hz) hzv hn hv) (fun y s₃ h => ⟨⟨z, hz, h.1⟩, h.2⟩) fun _ _ e => e
    · intro a h₅ tk gs hgb hag hsz₅ hk₅ Wk hat
      have Wk := Wk.in4_2
      have hcnt : (passing (fun _ => true) ys.toArray.size 0).length = xs.length := by rw [passing_all, List.length_range, List.size_toArray, hys.length]
      refine SC.joinGen Wk (fun i s' st => st.1.typeIs) hat ?_ List.mem_cons_self (fun j v hv => ?_) (fun s' lt hm hacc => ?_) ?_
      · intro q hq
        show q < h₅.objs.size
        rw [hsz₅]
        rcases List.mem_cons.mp hq with rfl | hq
        · exact Nat.lt_succ_self _
        · rcases List.mem_cons.mp hq with rfl | hq
          · exact Nat.lt_succ_of_lt hag
          · exact Nat.lt_succ_of_lt (Nat.lt_trans (List.mem_range.mp hq) hag)
      · obtain ⟨i, _, z, _, u, rfl⟩ := hv
        exact ⟨_, _, rfl⟩
      · have hlt' : lt.map (·.1) = xs := by
          have hsz2 : lt.length = xs.length := by
            have := hacc.1
            rw [hcnt] at this
            simpa [strValues] using this
          refine List.ext_getElem? fun j => ?_
          by_cases hj : j < lt.length
          · obtain ⟨i, hi, z, hz, u, hv⟩ := hacc.2 j (.str lt[j].1 lt[j].2) (by simp [strValues, List.getElem?_eq_getElem hj])
            rw [passing_all, List.getElem?_range (by rw [List.size_toArray, hys.length]; omega)] at hi
            cases hi
            injection hv with h1 _
            rw [hz]; simp [List.getElem?_eq_getElem hj, h1]
          · rw [List.getElem?_eq_none (by simpa using Nat.le_of_not_lt hj), List.getElem?_eq_none (by omega)]
        rw [hlt']
        refine ⟨hok, fun t' tk' => k _ _ ?_⟩
        have Tm : Γ.S b m own { s₁ with heap := s'.heap, toks := tk' } := by
          obtain ⟨ps₃, e3, t3⟩ := T₃.tab
          refine St.tab57 T₁ (ps := ps₃) (fun q o hq e => ?_) ?_ t3
          · have hqlt : (q : Nat) < s₁.heap.objs.size := Heap.lt_size e
            refine hm.heap q o (fun hw => ?_) (hk₅ _ _ (hx₃ q o hq (Heap.get?_push_of_some _ e)))
            rcases List.mem_cons.mp hw with e' | hw
            · exact absurd e' (Nat.ne_of_lt (Nat.lt_trans hqlt hsz'))
            · rcases List.mem_cons.mp hw with e' | hw
              · exact absurd e' (Nat.ne_of_lt hqlt)
              · cases hw
          · refine hm.heap 57 _ (fun hw => ?_) (hk₅ _ _ e3)
            have h57 : (57 : Nat) < s₁.heap.objs.size := T₁.low (a := 57) (by simp)
            rcases List.mem_cons.mp hw with e' | hw
            · have e2 : (57 : Nat) = h₃.objs.size := e'
              omega
            · rcases List.mem_cons.mp hw with e' | hw
              · have e2 : (57 : Nat) = s₁.heap.objs.size := e'
                omega
              · cases hw
        refine Tm.grow (Le.refl _) hm.drawn hm.os fun hg => ⟨?_, ?_⟩
        · exact (AllBare.push (g := gs) hg.1 hgb).moved hm.gens
        · have hz : s₁.gens.size ≤ s'.gens.size := by
            rcases hm.gens with e | h
            · show _ ≤ s'.gens.size
              rw [e]
              show s₁.gens.size ≤ (s₁.gens.push gs).size
              rw [Array.size_push]; omega
            · rw [h.1.1]
              show s₁.gens.size ≤ (s₁.gens.push gs).size
              rw [Array.size_push]; omega
          exact Nat.le_trans hg.2 hz
      · rw [hcnt, ← hys.length]
        have := sizeLine_eq; omega
  cases hf : codeAmong gp ps.toList with
  | some cv =>
    exact wpAny_genexprCode_hit hcode (C₂.code e57 t57) hf (fin cv _ _ (Heap.ExtBut.refl _ _) (Nat.le_refl _) T₂)
  | none =>
    refine wpAny_genexprCodeX hcode (C₂.code e57 t57) (C₂.tab e57) hf fun c' h₃ tk₃ hx₃ hge hlt3 hcode₃ _ htab₃ _ => ?_
    exact fin (.ref c') h₃ tk₃ hx₃ (Nat.le_trans hge (Nat.le_of_lt hlt3)) (T₂.tab57 hx₃ htab₃.2 (by rw [Array.toList_append]; exact triples_snoc t57))
end
end Mine
end

section
open PySem PySem.W PySem.Calls PySem.Spec PyProof.Rows
set_option linter.unusedVariables false
namespace Mine
section
variable {prog : Program} {Γ : Fx prog} {b : Heap} {m : Str → Option Value} {α : Type}
theorem Xs.forE (O : Γ.Ok) {target iter : Expr} {body : List Stmt} {pos : Pos} {rest : List Stmt} {as : List α} {Kin : Value → α → Prop} {P₀ : Heap → Value → Prop} {Q : Flow → Shared → Prop} {own R : List (Addr × Obj)}
    (Inv : Nat → Heap → (Str → Option Value) → List (Addr × Obj) → Prop) (he : Ei Γ b m (own ++ R) iter P₀) (hi : ∀ b₀ v s E, Le b b₀ → P₀ b₀ v → Γ.S b₀ m (own ++ R) s → wpAny Γ.M Γ.A (pyIter v) (fun it s₂ => ∃ I, it = .ref I ∧ Nonempty (Src Γ b₀ s I s₂ as Kin)) E s) (h0 : ∀ b₀, Le b b₀ → Inv 0 b₀ m own)
    (turn : ∀ i a v b₁ m₁ own₁ R₁ s E, as[i]? = some a → Le b b₁ → Kin v a → Inv i b₁ m₁ own₁ → (∀ q ∈ R, q ∈ R₁) → Γ.S b₁ m₁ (own₁ ++ R₁) s → wpAny Γ.M Γ.A (assign target Γ.env v) (fun _ s₂ => wpAny Γ.M Γ.A (execs body Γ.env) (fun f s₃ => f = .next ∧ ∃ b₂ m₂ own₂, Le b₁ b₂ ∧ Inv (i + 1) b₂ m₂ own₂ ∧ Γ.S b₂ m₂ (own₂ ++ R₁) s₃) E s₂) E s)
    (hs : ∀ x, foldedSetIterable iter Γ.env x = pure x)
    (k : ∀ b' m' own', Le b b' → Inv as.length b' m' own' → Xs Γ b' m' (own' ++ R) rest Q) : Xs Γ b m (own ++ R) (.For target iter body [] pos :: rest) Q := by
  intro s E T
  refine wpAny_execs_cons (wpAny_For (he.use T fun xv s₁ b₀ l₀ hp T₁ => ?_) hs)
  have h₁ := hi b₀ xv s₁ E l₀ hp T₁
  refine wpAny_mono h₁ (fun it s₂ h₂ => ?_) fun _ _ e => e
  obtain ⟨I, rfl, ⟨X⟩⟩ := h₂
  obtain ⟨fp, n, P, Sp, walk, hst, ⟨oI, hI⟩, newI, le, same, fps, rfl, item, hasI⟩ := X
  have W := walk Γ.A O.hand
  obtain ⟨h₀, tk₀, rfl⟩ := same
  dsimp only at hst hI le
  have TI : Γ.S b₀ m (own ++ (I, oI) :: R) { s₁ with heap := h₀, toks := tk₀ } := (T₁.take (s' := { s₁ with heap := h₀, toks := tk₀ }) newI le hI rfl rfl id).insMid
  refine codeAny_forLoop_any (fun q s' => ∃ i b₁ m₁ own₁ o, i ≤ as.length ∧ q = as.length + 1 - i ∧ Le b₀ b₁ ∧ Inv i b₁ m₁ own₁ ∧ Sp i s'.heap ∧ Γ.S b₁ m₁ (own₁ ++ (I, o) :: R) s') ?_ (as.length + 1) ⟨0, b₀, m, own, oI, Nat.zero_le _, rfl, Le.refl _, h0 _ l₀, hst, TI⟩
  rintro q s' ⟨i, b₁, m₁, own₁, o, hi', rfl, lb, hInv, hsp, T'⟩
  have offI := T'.off I (by simp)
  have nI := T'.nd
  by_cases hlt : i < as.length
  · refine W.item i _ _ _ hlt hsp fun v h₂ tk₂ hP hsp₂ hk₂ => ?_
    obtain ⟨a, ha, hv⟩ := item i v hP hlt
    obtain ⟨o₂, ho₂, hok⟩ := hasI _ _ hsp₂
    refine letOwned (s := { s' with heap := h₂, toks := tk₂ }) ho₂ hok ?_
    have kk : ∀ a o, a ≠ I → s'.heap.get? a = some o → h₂.get? a = some o := fun a o n e => hk₂ _ _ (by simpa using n) e
    have T₂ : Γ.S b₁ m₁ (own₁ ++ (I, o₂) :: R) { s' with heap := h₂, toks := tk₂ } := by
      have em : (own₁ ++ (I, o₂) :: R).map (·.1) = (own₁ ++ (I, o) :: R).map (·.1) := by simp
      refine ⟨T'.ns.at' fun o e => kk _ _ (fun q => ?_) e, T'.gr, fun a o e => kk _ _ (fun q => by rw [q, offI] at e; cases e) (T'.keep _ _ e), ?_, em ▸ nI, em ▸ T'.off, ?_, T'.dr, T'.os, T'.bare⟩
      · rw [q] at nI; simp at nI
      · intro p hp
        rcases List.mem_append.mp hp with hp | hp
        · refine kk _ _ (fun q => ?_) (T'.ow p (List.mem_append_left _ hp))
          have := (List.nodup_cons.mp (List.nodup_cons.mp nI).2).2
          rw [List.map_append, List.map_cons] at this
          exact (List.nodup_append.mp this).2.2 _ (List.mem_map_of_mem hp) _ (.head _) q
        · rcases List.mem_cons.mp hp with rfl | hp
          · exact ho₂
          · refine kk _ _ (fun q => ?_) (T'.ow p (List.mem_append_right _ (.tail _ hp)))
            have := (List.nodup_cons.mp (List.nodup_cons.mp nI).2).2
            rw [List.map_append, List.map_cons] at this
            exact (List.nodup_cons.mp (List.nodup_append.mp this).2.1).1 (by show I ∈ _; rw [← q]; exact List.mem_map_of_mem (f := fun x : Addr × Obj => x.1) hp)
      · obtain ⟨ps, e, t⟩ := T'.tab
        refine ⟨ps, kk _ _ (fun q => ?_) e, t⟩
        have := (List.nodup_cons.mp (List.nodup_cons.mp nI).2).1
        exact this (by rw [q]; simp)
    refine wpAny_mono (turn i a v b₁ m₁ own₁ ((I, o₂) :: R) _ _ ha (l₀.trans lb) hv hInv (fun q hq => .tail _ hq) T₂) (fun _ s₂ hs₂ => ?_) fun _ _ e => e
    refine wpAny_mono hs₂ (fun f s₃ hs₃ => ?_) fun _ _ e => e
    obtain ⟨rfl, b₂, m₂, own₂, l₂, inv₂, T₃⟩ := hs₃
    refine ⟨as.length + 1 - (i + 1), by omega, i + 1, b₂, m₂, own₂, o₂, hlt, rfl, lb.trans l₂, inv₂, ?_, T₃⟩
    refine W.frame _ _ _ hsp₂ fun a ha oa ea => ?_
    rcases fps a ha with rfl | ⟨ob, hob⟩
    · rw [ho₂] at ea; cases ea; exact T₃.ow (a, o₂) (by simp)
    · have z := T₂.keep _ _ (lb _ _ hob)
      rw [z] at ea; cases ea
      exact T₃.keep _ _ (l₂ _ _ (lb _ _ hob))
  · obtain rfl : i = as.length := Nat.le_antisymm hi' (Nat.not_lt.mp hlt)
    refine W.done _ _ _ hsp fun h₂ tk₂ hk₂ => ?_
    have kk : ∀ a o, a ≠ I → s'.heap.get? a = some o → h₂.get? a = some o := fun a o n e => hk₂ _ _ (by simpa using n) e
    have T₀ := T'.dropMid
    have nI' : I ∉ Γ.L :: 57 :: (own₁ ++ R).map (·.1) := by
      have perm : (own₁ ++ (I, o) :: R).Perm ((I, o) :: (own₁ ++ R)) := List.perm_middle
      have := ((perm.map (·.1)).cons 57 |>.cons Γ.L).nodup_iff.mp nI
      simp only [List.map_cons, List.nodup_cons, List.mem_cons, not_or] at this ⊢
      exact ⟨Ne.symm this.1.2.1, Ne.symm this.2.1.1, this.2.2.1⟩
    have T₂ : Γ.S b₁ m₁ (own₁ ++ R) { s' with heap := h₂, toks := tk₂ } := by
      refine ⟨T₀.ns.at' fun o e => kk _ _ (fun q => nI' (q ▸ .head _)) e, T₀.gr, fun a o e => kk _ _ (fun q => by rw [q, offI] at e; cases e) (T₀.keep _ _ e), fun p hp => kk _ _ (fun q => nI' (q ▸ .tail _ (.tail _ (List.mem_map_of_mem hp)))) (T₀.ow p hp), T₀.nd, T₀.off, ?_, T₀.dr, T₀.os, T₀.bare⟩
      obtain ⟨ps, e, t⟩ := T₀.tab
      exact ⟨ps, kk _ _ (fun q => nI' (q ▸ .tail _ (.head _))) e, t⟩
    exact wpAny_execs_nil (k b₁ m₁ own₁ (l₀.trans lb) hInv _ E T₂)
/-- an iterator of a list that stands -/
theorem iter_of_list {own : List (Addr × Obj)} {as : List α} {Kin : Value → α → Prop} {ax : Addr} {vs : List Value} {s : Shared} {E : Value → Shared → Prop} (hl : b.IsList ax vs.toArray) (hk : All2 Kin vs as) (T₁ : Γ.S b m own s) :
    wpAny Γ.M Γ.A (pyIter (.ref ax)) (fun it s₂ => ∃ I, it = .ref I ∧ Nonempty (Src Γ b s I s₂ as Kin)) E s := by
  have hl₁ : s.heap.IsList ax vs.toArray := let ⟨o, e, r⟩ := hl; ⟨o, T₁.keep _ _ e, r⟩
  have hlt : ax < s.heap.objs.size := by obtain ⟨_, e, _⟩ := hl₁; exact Heap.lt_size e
  refine wpAny_pyIter_list hl₁ ⟨_, rfl, ⟨?_⟩⟩
  exact { fp := [s.heap.objs.size, ax], n := vs.toArray.size, P := fun i v => vs.toArray[i]? = some v, Sp := fun i h => h.IsListIter s.heap.objs.size ax i ∧ h.IsList ax vs.toArray,
          walk := fun A hh => Walks.list hh s.heap.objs.size ax (Nat.ne_of_lt hlt) vs.toArray,
          st := ⟨⟨_, Heap.get?_push_size _ rfl, rfl, rfl⟩, hl₁.push _⟩, has := ⟨_, Heap.get?_push_size _ rfl⟩, new := get_size _, le := Le.push _ _, same := ⟨_, _, rfl⟩,
          fps := fun a ha => by
            rcases List.mem_cons.mp ha with rfl | ha
            · exact .inl rfl
            · rw [List.mem_singleton.mp ha]; obtain ⟨o, e, _⟩ := hl; exact .inr ⟨o, e⟩
          len := by rw [List.size_toArray, hk.length], item := fun i v hv _ => by
            obtain ⟨y, hy, r⟩ := hk.getL (i := i) (by simpa using hv)
            exact ⟨y, hy, r⟩
          hasI := fun i h st => let ⟨o, e, hc, _⟩ := st.1; ⟨o, e, _, hc, by decide⟩ }
end
end Mine
end

section
open PySem PySem.W PySem.Calls PySem.Spec PyProof.Rows
set_option linter.unusedVariables false
namespace Mine
set_option maxRecDepth 100000
local macro_rules | `(tactic| walk_at "k") => `(tactic| exact kd (by assumption) (by kernel_rfl))
local macro_rules | `(tactic| walk_at "u") => `(tactic| with_unfolding_all rfl)
/-- the part of _translate behind a [ -/
noncomputable def brB (w : World) : List Stmt := match (fdAt w 62).body with
  | .stmts [_, _, _, .While _ [_, _, .If _ _ [.If _ _ [.If _ b _ _] _] _] _ _, _, _] => b
  | _ => []
noncomputable def brS (w : World) : List Stmt := match brB w with
  | [_, _, _, _, .If _ _ b _] => b
  | _ => []
noncomputable def brC (w : World) : List Stmt := match brS w with
  | [_, .If _ _ b _, _, _, _] => b
  | _ => []
section
variable {Γ : Fx Prg} {b : Heap} {m : Str → Option Value} {own : List (Addr × Obj)} {mg mb : Str → Option Value} {L : Addr}
theorem trKinds (e3 : Γ.env = callEnvC (fdAt Γ.w 62) L 62) : ∀ x k, (x, k) ∈ ([("i", .local), ("n", .local), ("pat", .local), ("j", .local), ("stuff", .local), ("k", .local), ("chunk", .local), ("chunks", .local), ("add", .local)] : List (Str × NameKind)) → Γ.env.kindOf x = some k := by
  intro x k hx
  simp only [List.mem_cons, List.not_mem_nil, or_false, Prod.mk.injEq] at hx
  rcases hx with ⟨rfl, rfl⟩ | ⟨rfl, rfl⟩ | ⟨rfl, rfl⟩ | ⟨rfl, rfl⟩ | ⟨rfl, rfl⟩ | ⟨rfl, rfl⟩ | ⟨rfl, rfl⟩ | ⟨rfl, rfl⟩ | ⟨rfl, rfl⟩ <;> walk_at "k"
/-- pat[j] is, or is not -/
theorem patIs (O : Γ.Ok) (e3 : Γ.env = callEnvC (fdAt Γ.w 62) L 62) {X z : Str} {r c : Nat} {t1 : Tok} (hX : X.length ≤ 100) (hp : m "pat" = some (.str X t1)) (hj : ∃ t, m "j" = some (.int r t)) (hn : ∃ t, m "n" = some (.int X.length t)) (hc : X.cps[r]? = some c) {v : Bool} (hv : decide ((⟨#[c]⟩ : Str) = z) = v)
    {p1 p2 p3 p4 p5 p6 p7 p8 p9 : Pos} {k : Nat} : Tv Γ b m own (.BoolOp .And [.Compare (.Name "j" p1) [.Lt] [.Name "n" p2] p3, .Compare (.Subscript (.Name "pat" p4) (.Name "j" p5) p6) [.Eq] [.Constant (.str z) k p7] p8] p9) v := by
  subst hv
  have hlt : r < X.length := (Array.getElem?_eq_some_iff.mp hc).1
  have h1 := Tv.cmp (Γ := Γ) (b := b) (m := m) (own := own) (pos := p3) (l := .Name "j" p1) (cop_ltI (i := r) (j := X.length)) (Ev.locI O hj (trKinds e3 _ .local (by simp)) (by decide)) (Ev.locI (x := "n") (pos := p2) O hn (trKinds e3 _ .local (by simp)) (by decide)) (by rfl)
  rw [decide_eq_true (by omega)] at h1
  refine Tw.tv (Tw.andT h1 (Tw.and1 (Tv.cmp cop_eqS (Ev.itemS (i := r) (c := c) (Ev.locS O ⟨_, hp⟩ (trKinds e3 _ .local (by simp)) (by decide)) (Ev.locI O hj (trKinds e3 _ .local (by simp)) (by decide)) (by omega) (by simpa using hc) (by omega) (fun _ _ => by walk_at "u") (fun _ _ => by walk_at "u")) Ev.str (by rfl))))
theorem patNe (O : Γ.Ok) (e3 : Γ.env = callEnvC (fdAt Γ.w 62) L 62) {X z : Str} {r c : Nat} {t1 : Tok} (hX : X.length ≤ 100) (hp : m "pat" = some (.str X t1)) (hj : ∃ t, m "j" = some (.int r t)) (hn : ∃ t, m "n" = some (.int X.length t)) (hc : X.cps[r]? = some c) {v : Bool} (hv : (!decide ((⟨#[c]⟩ : Str) = z)) = v)
    {p1 p2 p3 p4 p5 p6 p7 p8 p9 : Pos} {k : Nat} : Tv Γ b m own (.BoolOp .And [.Compare (.Name "j" p1) [.Lt] [.Name "n" p2] p3, .Compare (.Subscript (.Name "pat" p4) (.Name "j" p5) p6) [.NotEq] [.Constant (.str z) k p7] p8] p9) v := by
  subst hv
  have hlt : r < X.length := (Array.getElem?_eq_some_iff.mp hc).1
  have h1 := Tv.cmp (Γ := Γ) (b := b) (m := m) (own := own) (pos := p3) (l := .Name "j" p1) (cop_ltI (i := r) (j := X.length)) (Ev.locI O hj (trKinds e3 _ .local (by simp)) (by decide)) (Ev.locI (x := "n") (pos := p2) O hn (trKinds e3 _ .local (by simp)) (by decide)) (by rfl)
  rw [decide_eq_true (by omega)] at h1
  refine Tw.tv (Tw.andT h1 (Tw.and1 (Tv.cmp cop_neS (Ev.itemS (i := r) (c := c) (Ev.locS O ⟨_, hp⟩ (trKinds e3 _ .local (by simp)) (by decide)) (Ev.locI O hj (trKinds e3 _ .local (by simp)) (by decide)) (by omega) (by simpa using hc) (by omega) (fun _ _ => by walk_at "u") (fun _ _ => by walk_at "u")) Ev.str (by rfl))))
theorem stepJ (O : Γ.Ok) (e3 : Γ.env = callEnvC (fdAt Γ.w 62) L 62) {r : Nat} {p p1 p2 p3 pos : Pos} {k : Nat} {rest : List Stmt} {Q : Flow → Shared → Prop} (hj : ∃ t, m "j" = some (.int r t))
    (hs : swapsWith (.BinOp (.Name "j" p1) .Add (.Constant (.int 1) k p2) p3) (some (.Name "j" p)) pos.line Γ.env = pure false)
    (K : ∀ b' t, Le b b' → Xs Γ b' (upd m "j" (.int (r + 1 : Nat) t)) own rest Q) : Xs Γ b m own (.Assign [.Name "j" p] (.BinOp (.Name "j" p1) .Add (.Constant (.int 1) k p2) p3) pos :: rest) Q := by
  with_reducible refine Xs.asg O (P := fun _ v => IsI ((r : Int) + 1) v) ?_ (trKinds e3 _ .local (by simp)) hs (fun b9 vi l9 hvi => ?_)
  · exact Ev.ei (P := fun _ v => IsI ((r : Int) + 1) v) (Ev.bin bop_addI (Ev.locI O hj (trKinds e3 _ .local (by simp)) (by decide)) Ev.int)
  obtain ⟨t, rfl⟩ := hvi
  have := K b9 t l9
  rw [show ((r + 1 : Nat) : Int) = (r : Int) + 1 by omega] at this
  exact this
/-- where the ] is -/
theorem brHead (O : Γ.Ok) (e3 : Γ.env = callEnvC (fdAt Γ.w 62) L 62) {X : Str} {p q : Nat} {t1 : Tok} (hX : X.length ≤ 100) (hp : m "pat" = some (.str X t1)) (hi : ∃ t, m "i" = some (.int p t)) (hn : ∃ t, m "n" = some (.int X.length t))
    (h93 : X.cps[q]? = some 93) (hpq : p < q) (hin : ∀ t, p ≤ t → t < q → ∃ c, X.cps[t]? = some c ∧ c ≠ 93) (hex : X.cps[p]? = some 33 → p + 1 < q) {Q : Flow → Shared → Prop}
    (K : ∀ b' m', Le b b' → (∀ y : Str, y ≠ "j" → m' y = m y) → (∃ t, m' "j" = some (.int q t)) → Xs Γ b' m' own ((brB Γ.w).drop 4) Q) : Xs Γ b m own (brB Γ.w) Q := by
  have K2 : ∀ b₁ m₁ r, Le b b₁ → (∀ y : Str, y ≠ "j" → m₁ y = m y) → (∃ t, m₁ "j" = some (.int r t)) → p ≤ r → r < q → Xs Γ b₁ m₁ own ((brB Γ.w).drop 2) Q := by
    intro b₁ m₁ r l₁ g₁ hj hpr hrq
    conv => arg 5; whnf
    obtain ⟨c, hc, hc93⟩ := hin r hpr hrq
    have hcn : ∀ c, c ≠ 93 → decide ((⟨#[c]⟩ : Str) = "]") = false := fun c h => decide_eq_false fun e => h (by
      have e2 : ("]" : Str).cps = #[93] := by decide +kernel
      have e3 : (⟨#[c]⟩ : Str).cps = #[93] := by rw [e, e2]
      simpa using e3)
    have hp₁ : m₁ "pat" = some (.str X t1) := (g₁ "pat" (by decide)).trans hp
    have hn₁ : ∃ t, m₁ "n" = some (.int X.length t) := by rw [g₁ "n" (by decide)]; exact hn
    with_reducible refine Xs.ifF ?_ ?_
    · exact patIs O e3 hX hp₁ hj hn₁ hc (hcn c hc93)
    refine Xs.on ?_
    intro s₁ E₁ T₁
    refine wpWhile (Γ := Γ) (fun k s => ∃ b' m' r', Le b₁ b' ∧ (∀ y : Str, y ≠ "j" → m' y = m y) ∧ (∃ t, m' "j" = some (.int r' t)) ∧ p ≤ r' ∧ r' ≤ q ∧ k = q - r' ∧ Γ.S b' m' own s)
      (fun s => ∃ b' m', Le b₁ b' ∧ (∀ y : Str, y ≠ "j" → m' y = m y) ∧ (∃ t, m' "j" = some (.int q t)) ∧ Γ.S b' m' own s) ?_ (q - r) ⟨b₁, m₁, r, Le.refl _, g₁, hj, hpr, Nat.le_of_lt hrq, rfl, T₁⟩ ?_
    · rintro k s E ⟨b', m', r', l', g', hj', h1, h2, rfl, T⟩
      have hp' : m' "pat" = some (.str X t1) := (g' "pat" (by decide)).trans hp
      have hn' : ∃ t, m' "n" = some (.int X.length t) := by rw [g' "n" (by decide)]; exact hn
      rcases Nat.eq_or_lt_of_le h2 with rfl | hlt
      · refine Tv.use (Γ := Γ) (c := false) (patNe O e3 hX hp' hj' hn' h93 (by decide +kernel)) T fun s₂ T₂ => ?_
        rw [if_neg Bool.false_ne_true]
        exact ⟨b', m', l', g', hj', T₂⟩
      · obtain ⟨c', hc', hc93'⟩ := hin r' h1 hlt
        refine Tv.use (Γ := Γ) (c := true) (patNe O e3 hX hp' hj' hn' hc' (by rw [hcn c' hc93']; rfl)) T fun s₂ T₂ => ?_
        rw [if_pos rfl]
        refine Xs.go T₂ ?_
        with_reducible refine stepJ O e3 hj' ?_ (fun b'' t l'' => ?_)
        · rw [e3]; walk_at "u"
        exact Xs.nil fun s₃ T₃ => ⟨q - (r' + 1), by omega, b'', _, r' + 1, l'.trans l'', fun y hy => by rw [upd_ne hy]; exact g' y hy, ⟨t, upd_eq _ _ _⟩, by omega, by omega, rfl, T₃⟩
    · rintro s' ⟨b', m', l', g', hj', T'⟩
      exact K b' m' (l₁.trans l') g' hj' s' _ T'
  conv => arg 5; whnf
  obtain ⟨c, hc, hc93⟩ := hin p (Nat.le_refl _) hpq
  with_reducible refine Xs.asg O (P := fun _ v => IsI (p : Int) v) ?_ (trKinds e3 _ .local (by simp)) ?_ (fun b9 vi l9 hvi => ?_)
  · exact Ev.ei (P := fun _ v => IsI (p : Int) v) (Ev.locI O hi (trKinds e3 _ .local (by simp)) (by decide))
  · rw [e3]; walk_at "u"
  obtain ⟨tj, rfl⟩ := hvi
  have gj : ∀ y : Str, y ≠ "j" → upd m "j" (.int p tj) y = m y := fun y hy => upd_ne hy
  have hj9 : ∃ t, upd m "j" (.int p tj) "j" = some (.int p t) := ⟨tj, upd_eq _ _ _⟩
  have h33 : ∀ c, decide ((⟨#[c]⟩ : Str) = "!") = true → c = 33 := fun c h => by
    have h := of_decide_eq_true h
    have e2 : ("!" : Str).cps = #[33] := by decide +kernel
    have e3 : (⟨#[c]⟩ : Str).cps = #[33] := by rw [h, e2]
    simpa using e3
  with_reducible refine Xs.iff (patIs O e3 hX ((gj "pat" (by decide)).trans hp) hj9 (by rw [gj "n" (by decide)]; exact hn) hc rfl) (fun hv => ?_) (fun hv => ?_)
  · with_reducible refine stepJ O e3 hj9 ?_ (fun b'' t l'' => ?_)
    · rw [e3]; walk_at "u"
    have := h33 c hv
    subst this
    exact Xs.on (K2 b'' _ (p + 1) (l9.trans l'') (fun y hy => by rw [upd_ne hy]; exact gj y hy) ⟨t, upd_eq _ _ _⟩ (by omega) (hex hc))
  · exact Xs.on (K2 b9 _ p l9 gj hj9 (Nat.le_refl _) hpq)
end
end Mine
end

section
open PySem PySem.W PySem.Calls PySem.Spec PyProof.Rows
set_option linter.unusedVariables false
namespace Mine
set_option maxRecDepth 100000
local macro_rules | `(tactic| walk_at "m") => `(tactic| ((repeat (rw [upd_ne (by decide)])); first | exact upd_eq _ _ _ | assumption))
local macro_rules | `(tactic| walk_at "k") => `(tactic| exact trKinds (by assumption) _ .local (by simp))
local macro_rules | `(tactic| walk_at "kk") => `(tactic| exact kd (by assumption) (by kernel_rfl))
local macro_rules | `(tactic| walk_at "loc") => `(tactic| exact Ev.loc (by assumption) (by walk_at "m") (by walk_at "k") (by decide))
local macro_rules | `(tactic| walk_at "bui") => `(tactic| exact Ev.boot (by assumption) (by assumption) (by kernel_rfl) (by kernel_rfl) (by decide) (by walk_at "kk") (by decide))
local macro_rules | `(tactic| walk_at "u") => `(tactic| with_unfolding_all rfl)
section
variable {Γ : Fx Prg} {b : Heap} {m : Str → Option Value} {own : List (Addr × Obj)} {mg mb : Str → Option Value} {L : Addr}
theorem Xs.dropOwn {p : Addr × Obj} {st : List Stmt} {Q : Flow → Shared → Prop} (h : Xs Γ b m own st Q) : Xs Γ b m (p :: own) st Q := fun s E T => h s E T.drop
theorem Xs.appS {o e : Expr} {ap pos p4 : Pos} {a : Addr} {ys : List Value} {n : Nat} {P : Value → Prop} {rest : List Stmt} {Q : Flow → Shared → Prop} (ho : Ev Γ b m ((a, lsN ys n) :: own) o (IsV (.ref a))) (he : Ev Γ b m ((a, lsN ys n) :: own) e P) (hz : ys.length ≤ 1000)
    (hi : interactive Γ.env = false) (hw : swapsWith (.Call (.Attribute o "append" ap) [e] [] pos) none p4.line Γ.env = pure false)
    (hbase : attributeBase o "append" Γ.env (eval o Γ.env) = eval o Γ.env) (hfew : ((backTo pos (starEach [e] Γ.env)).all (fun x => !x.1) && (backToKw pos (keywordEach [] Γ.env)).all (fun x => x.1.isSome) && decide ([e].length + ([] : List Keyword).length + (if ([] : List Keyword).isEmpty then 0 else 1) < 30)) = true)
    (hline : (ap.endLine == pos.line) = true) (hs : starEach [e] Γ.env = (false, eval e Γ.env) :: starEach [] Γ.env)
    (k : ∀ v, P v → Xs Γ b m ((a, lsN (ys ++ [v]) (n + 1)) :: own) rest Q) : Xs Γ b m ((a, lsN ys n) :: own) (.Expr (.Call (.Attribute o "append" ap) [e] [] pos) p4 :: rest) Q := by
  intro s E T
  refine wpAny_execs_cons (wpAny_Expr_any (meth1 (Γ := Γ) (P := P) F.slot_list_append F.type_list_append T ho (.head _) he (fun s₂ v hv T₂ => ?_) hbase hfew hline hs) hi hw)
  refine append_at (hsz := by show ys.toArray.size ≤ sizeLine; rw [List.size_toArray]; have := sizeLine_eq; omega) (T₂.ow (a, _) (.head _)) fun h₉ hs₉ hD₉ => ?_
  exact k v hv _ _ (St.upd (l1 := []) (o' := lsN (ys ++ [v]) (n + 1)) (tk := s₂.toks) T₂ hs₉ (hD₉.trans (by rw [List.push_toArray])))
theorem Ev.lenOwn {fn e : Expr} {pos : Pos} {a : Addr} {ys : List Value} {n : Nat} (hin : (a, lsN ys n) ∈ own) (hf : Ev Γ b m own fn (IsV (.builtin "len"))) (he : Ev Γ b m own e (IsV (.ref a))) (hl : ys.length ≤ 1000)
    (h1 : eval (.Call fn [e] [] pos) Γ.env = (do callWith pos (← eval fn Γ.env) [] (backTo pos (starEach [e] Γ.env)) (backToKw pos (keywordEach [] Γ.env))) := by rfl)
    (hs : starEach [e] Γ.env = (false, eval e Γ.env) :: starEach [] Γ.env := by rfl) : Ev Γ b m own (.Call fn [e] [] pos) (IsI ys.length) :=
  Ev.call1 hf (.bui "len") he (fun x hx => by
    obtain rfl : x = .ref a := hx
    intro s E T
    refine len_list (items := ys.toArray) ⟨_, T.ow (a, _) hin, rfl, _, rfl⟩ (by simp; omega) ⟨⟨_, by rw [List.size_toArray]⟩, T.toks⟩) h1 hs
def chunkT : List (Str × Str × Str) := [("a", "c", "a-c"), ("c", "a", ""), ("!c", "a", "!")]
def noOcc (x y : Str) : Bool := (Builtin.Str.occurrences x y 0 x.length (x.length + 1)).isEmpty
theorem chunk_facts {u v res : Str} (h : (u, v, res) ∈ chunkT) : (∃ c0, u.cps[0]? = some c0 ∧ decide ((⟨#[c0]⟩ : Str) = "!") = decide (u.length = 2)) ∧ (u.length = 1 ∨ u.length = 2) ∧ v.length = 1 ∧
    ∃ cu cv xs, u.cps[u.length - 1]? = some cu ∧ v.cps[0]? = some cv ∧ (decide ((⟨#[cv]⟩ : Str).cps.toList < (⟨#[cu]⟩ : Str).cps.toList) = true → xs = [StrLaws.sliceText u none (some (-1)) ++ StrLaws.sliceText v (some 1) none]) ∧
      (decide ((⟨#[cv]⟩ : Str).cps.toList < (⟨#[cu]⟩ : Str).cps.toList) = false → xs = [u, v]) ∧ Txt.join "-" xs = res ∧ JoinOk "-" xs = true ∧ (∀ z ∈ xs, noOcc z "\\" = true ∧ noOcc z "-" = true) ∧ (StrLaws.sliceText u none (some (-1))).length + (StrLaws.sliceText v (some 1) none).length ≤ 10 := by
  simp only [chunkT, List.mem_cons, List.not_mem_nil, or_false, Prod.mk.injEq] at h
  rcases h with ⟨rfl, rfl, rfl⟩ | ⟨rfl, rfl, rfl⟩ | ⟨rfl, rfl, rfl⟩
  · exact ⟨⟨97, by decide +kernel, by decide +kernel⟩, by decide +kernel, by decide +kernel, 97, 99, ["a", "c"], by decide +kernel, by decide +kernel, by decide +kernel, by decide +kernel, by decide +kernel, by decide +kernel, by decide +kernel, by decide +kernel⟩
  · exact ⟨⟨99, by decide +kernel, by decide +kernel⟩, by decide +kernel, by decide +kernel, 99, 97, [""], by decide +kernel, by decide +kernel, by decide +kernel, by decide +kernel, by decide +kernel, by decide +kernel, by decide +kernel, by decide +kernel⟩
  · exact ⟨⟨33, by decide +kernel, by decide +kernel⟩, by decide +kernel, by decide +kernel, 99, 97, ["!"], by decide +kernel, by decide +kernel, by decide +kernel, by decide +kernel, by decide +kernel, by decide +kernel, by decide +kernel, by decide +kernel⟩
/-- the pieces around the minus, first half -/
theorem brChunksA (O : Γ.Ok) (W : Wd Γ.w mg mb Γ.g) (e3 : Γ.env = callEnvC (fdAt Γ.w 62) L 62) {X u v res : Str} {p k0 q : Nat} {t1 : Tok} (hX : X.length ≤ 100) (hp : m "pat" = some (.str X t1)) (hi : ∃ t, m "i" = some (.int p t)) (hj : ∃ t, m "j" = some (.int q t))
    (huv : (u, v, res) ∈ chunkT) (hk0 : k0 = p + u.length) (hq : q = k0 + 2) (hqX : q < X.length) (h45 : Builtin.Str.subAt X "-" k0 = true) (hpc : X.cps[p]? = u.cps[0]?)
    (hs1 : StrLaws.sliceText X (some p) (some k0) = u) {Q : Flow → Shared → Prop}
    (K : ∀ b' m' D vu n, Le b b' → (∀ y : Str, y ∉ (["i", "k", "chunks"] : List Str) → m' y = m y) → (∃ t, m' "i" = some (.int (k0 + 1 : Nat) t)) → m' "chunks" = some (.ref D) → IsS u vu → Xs Γ b' m' ((D, lsN [vu] n) :: own) ((brC Γ.w).drop 3) Q) :
    Xs Γ b m own (brC Γ.w) Q := by
  obtain ⟨⟨c0, hc0, hc33⟩, hul, hvl, -⟩ := chunk_facts huv
  conv => arg 5; whnf
  with_reducible refine Xs.asgNil O (by walk_at "k") ?_ (fun D => ?_)
  · rw [e3]; walk_at "u"
  have hp1 : upd m "chunks" (.ref D) "pat" = some (.str X t1) := by walk_at "m"
  have hi1 : ∃ t, upd m "chunks" (.ref D) "i" = some (.int p t) := let ⟨t, e⟩ := hi; ⟨t, by walk_at "m"⟩
  have hj1 : ∃ t, upd m "chunks" (.ref D) "j" = some (.int q t) := let ⟨t, e⟩ := hj; ⟨t, by walk_at "m"⟩
  have hD1 : upd m "chunks" (.ref D) "chunks" = some (.ref D) := upd_eq _ _ _
  have g1 : ∀ y : Str, y ∉ (["i", "k", "chunks"] : List Str) → upd m "chunks" (.ref D) y = m y := fun y hy => upd_ne fun e => hy (by simp [e])
  generalize upd m "chunks" (.ref D) = m1 at hp1 hi1 hj1 hD1 g1 ⊢
  with_reducible refine Xs.asg O (P := fun _ v => IsI (k0 : Nat) v) ?_ (by walk_at "k") ?_ (fun b2 vk l2 hvk => ?_)
  · have ei : ∀ pos, Ev Γ b m1 ((D, lsN [] 0) :: own) (.Name "i" pos) (IsI (p : Nat)) := fun _ => Ev.locI O hi1 (by walk_at "k") (by decide)
    refine Ei.ite (Tv.cmp (c := decide (u.length = 2)) (P₁ := IsS ⟨#[c0]⟩) (P₂ := IsS "!") (by rw [← hc33]; exact cop_eqS) (Ev.itemS (i := p) (c := c0) (Ev.locS O ⟨_, hp1⟩ (by walk_at "k") (by decide)) (ei _) (by omega) (by simpa [hc0] using hpc) (by omega) (fun _ _ => by walk_at "u") (fun _ _ => by walk_at "u")) Ev.str (by rfl)) (fun h => ?_) (fun h => ?_)
    · have h := of_decide_eq_true h
      refine Ev.ei (P := fun _ v => IsI (k0 : Nat) v) ((Ev.bin (bop_addI (i := p) (j := 2)) (ei _) Ev.int).mono fun v hv => ?_)
      rw [show ((k0 : Nat) : Int) = p + 2 by omega]; exact hv
    · have h := of_decide_eq_false h
      refine Ev.ei (P := fun _ v => IsI (k0 : Nat) v) ((Ev.bin (bop_addI (i := p) (j := 1)) (ei _) Ev.int).mono fun v hv => ?_)
      rw [show ((k0 : Nat) : Int) = p + 1 by omega]; exact hv
  · rw [e3]; walk_at "u"
  obtain ⟨tk, rfl⟩ := hvk
  have hp2 : upd m1 "k" (.int (k0 : Nat) tk) "pat" = some (.str X t1) := by walk_at "m"
  have hi2 : ∃ t, upd m1 "k" (.int (k0 : Nat) tk) "i" = some (.int p t) := let ⟨t, e⟩ := hi1; ⟨t, by walk_at "m"⟩
  have hj2 : ∃ t, upd m1 "k" (.int (k0 : Nat) tk) "j" = some (.int q t) := let ⟨t, e⟩ := hj1; ⟨t, by walk_at "m"⟩
  have hD2 : upd m1 "k" (.int (k0 : Nat) tk) "chunks" = some (.ref D) := by walk_at "m"
  have hk2 : ∃ t, upd m1 "k" (.int (k0 : Nat) tk) "k" = some (.int (k0 : Nat) t) := ⟨_, upd_eq _ _ _⟩
  have g2 : ∀ y : Str, y ∉ (["i", "k", "chunks"] : List Str) → upd m1 "k" (.int (k0 : Nat) tk) y = m y := fun y hy => by rw [upd_ne fun e => hy (by simp [e])]; exact g1 y hy
  generalize upd m1 "k" (.int (k0 : Nat) tk) = m2 at hp2 hi2 hj2 hD2 hk2 g2 ⊢
  -- k = pat.find('-', k, j)
  have hfind : ∀ {b' : Heap} {m' : Str → Option Value} {own' : List (Addr × Obj)} {kk : Nat} {r : Int}, m' "pat" = some (.str X t1) → (∃ t, m' "k" = some (.int (kk : Nat) t)) → (∃ t, m' "j" = some (.int q t)) →
      (match Builtin.Str.occurrences X "-" kk q 1 with | k :: _ => (k : Int) | [] => -1) = r → ∀ {pn ap pc pk pj pos : Pos} {k : Nat}, (ap.endLine == pos.line) = true →
      Ei Γ b' m' own' (.Call (.Attribute (.Name "pat" pn) "find" ap) [.Constant (.str "-") k pc, .Name "k" pk, .Name "j" pj] [] pos) (fun _ v => IsI r v) := by
    intro b' m' own' kk r hp hk hj hr pn ap pc pk pj pos k hline
    refine Ei.meth (Po := fun _ v => v = .str X t1) (R := fun _ v => IsI r v) F.plainAttrs_str F.slot_str_find F.type_str_find (Ev.ei (P := fun _ v => v = .str X t1) (Ev.loc O hp (by walk_at "k") (by decide))) (fun b' ov h => by subst h; exact recv_str) (fun b₁ ov l h => ?_) (by walk_at "u") (by rfl) hline (by rfl) (by rfl)
    subst h
    refine ⟨_, ArgsE.cons Ev.str (ArgsE.cons (Ev.locI O hk (by walk_at "k") (by decide)) (ArgsE.cons (Ev.locI O hj (by walk_at "k") (by decide)) ArgsE.nil (by rfl)) (by rfl)) (by rfl), fun vs hvs => ?_⟩
    obtain ⟨v1, _, rfl, h1, v2, _, rfl, h2, v3, _, rfl, h3, rfl⟩ := hvs
    exact (cev_find (Nat.le_of_lt hqX) hr ⟨_, rfl⟩ h1 h2 h3).cal
  have hlen1 : ("-" : Str).length = 1 := by decide +kernel
  have hr1 : (match Builtin.Str.occurrences X "-" k0 q 1 with | k :: _ => (k : Int) | [] => -1) = (k0 : Int) := by rw [occ_first hlen1 (by omega) h45]
  have hr2 : (match Builtin.Str.occurrences X "-" (k0 + 3) q 1 with | k :: _ => (k : Int) | [] => -1) = (-1 : Int) := by rw [occ_none (by omega)]
  intro s3 E3 T3
  refine wpWhile (Γ := Γ) (fun k s => (k = 1 ∧ Γ.S b2 m2 ((D, lsN [] 0) :: own) s) ∨ (k = 0 ∧ ∃ b' m' vu n, Le b2 b' ∧ (∀ y : Str, y ∉ (["i", "k", "chunks"] : List Str) → m' y = m y) ∧ (∃ t, m' "i" = some (.int (k0 + 1 : Nat) t)) ∧ (∃ t, m' "k" = some (.int (k0 + 3 : Nat) t)) ∧ m' "chunks" = some (.ref D) ∧ IsS u vu ∧ Γ.S b' m' ((D, lsN [vu] n) :: own) s))
    (fun s => ∃ b' m' vu n, Le b2 b' ∧ (∀ y : Str, y ∉ (["i", "k", "chunks"] : List Str) → m' y = m y) ∧ (∃ t, m' "i" = some (.int (k0 + 1 : Nat) t)) ∧ m' "chunks" = some (.ref D) ∧ IsS u vu ∧ Γ.S b' m' ((D, lsN [vu] n) :: own) s) ?_ 1 (.inl ⟨rfl, T3⟩) ?_
  · have tru : ∀ {b' : Heap} {m' : Str → Option Value} {own' : List (Addr × Obj)} {k : Nat} {pos : Pos}, Tv Γ b' m' own' (.Constant (.bool true) k pos) true := fun {b' m' own' k pos} s E T => isTrue_plain (wpAny_Constant_bool (wpAny_truthy_bool ⟨rfl, T⟩)) (by rfl)
    rintro kk s E (⟨rfl, T⟩ | ⟨rfl, b', m', vu, n, l', g', hi', hk', hD', hu', T⟩)
    · refine Tv.use (Γ := Γ) (c := true) tru T fun s₂ T₂ => ?_
      rw [if_pos rfl]
      refine Xs.go T₂ ?_
      with_reducible refine Xs.asg O (P := fun _ v => IsI (k0 : Int) v) (hfind hp2 hk2 hj2 hr1 ?_) (by walk_at "k") ?_ (fun b4 v4 l4 hv4 => ?_)
      · rfl
      · rw [e3]; walk_at "u"
      obtain ⟨t4, rfl⟩ := hv4
      have hp4 : upd m2 "k" (.int (k0 : Int) t4) "pat" = some (.str X t1) := by walk_at "m"
      have hi4 : ∃ t, upd m2 "k" (.int (k0 : Int) t4) "i" = some (.int p t) := let ⟨t, e⟩ := hi2; ⟨t, by walk_at "m"⟩
      have hk4 : ∃ t, upd m2 "k" (.int (k0 : Int) t4) "k" = some (.int (k0 : Int) t) := ⟨_, upd_eq _ _ _⟩
      have hD4 : upd m2 "k" (.int (k0 : Int) t4) "chunks" = some (.ref D) := by walk_at "m"
      have g4 : ∀ y : Str, y ∉ (["i", "k", "chunks"] : List Str) → upd m2 "k" (.int (k0 : Int) t4) y = m y := fun y hy => by rw [upd_ne fun e => hy (by simp [e])]; exact g2 y hy
      generalize upd m2 "k" (.int (k0 : Int) t4) = m4 at hp4 hi4 hk4 hD4 g4 ⊢
      with_reducible refine Xs.ifN (Tv.cmp (c := false) (P₁ := IsI (k0 : Int)) (P₂ := IsI 0) ?_ (Ev.locI O hk4 (by walk_at "k") (by decide)) Ev.int ?_) ?_
      · have := @cop_ltI (k0 : Int) 0
        rwa [decide_eq_false (by omega)] at this
      · rfl
      with_reducible refine Xs.appS (P := IsS u) (Ev.loc O hD4 (by walk_at "k") (by decide)) ?_ ?_ ?_ ?_ ?_ ?_ ?_ ?_ (fun vu hvu => ?_)
      · refine (Ev.sliceS (lo := some _) (up := some _) (pl := some (p : Int)) (pu := some (k0 : Int)) (Ev.locS O ⟨_, hp4⟩ (by walk_at "k") (by decide)) (Ev.locI O hi4 (by walk_at "k") (by decide)) (Ev.locI O hk4 (by walk_at "k") (by decide)) (by omega) (fun _ _ => by rfl)).mono fun v hv => ?_
        rw [hs1] at hv; exact hv
      · simp
      · rw [e3]; walk_at "u"
      · rw [e3]; walk_at "u"
      · walk_at "u"
      · rfl
      · rfl
      · rfl
      with_reducible refine Xs.asg O (P := fun _ v => IsI ((k0 : Int) + 1) v) (Ev.ei (P := fun _ v => IsI ((k0 : Int) + 1) v) (Ev.bin bop_addI (Ev.locI O hk4 (by walk_at "k") (by decide)) Ev.int)) (by walk_at "k") ?_ (fun b5 v5 l5 hv5 => ?_)
      · rw [e3]; walk_at "u"
      obtain ⟨t5, rfl⟩ := hv5
      have hk5 : ∃ t, upd m4 "i" (.int ((k0 : Int) + 1) t5) "k" = some (.int (k0 : Int) t) := let ⟨t, e⟩ := hk4; ⟨t, by walk_at "m"⟩
      with_reducible refine Xs.asg O (P := fun _ v => IsI ((k0 : Int) + 3) v) (Ev.ei (P := fun _ v => IsI ((k0 : Int) + 3) v) (Ev.bin bop_addI (Ev.locI O hk5 (by walk_at "k") (by decide)) Ev.int)) (by walk_at "k") ?_ (fun b6 v6 l6 hv6 => ?_)
      · rw [e3]; walk_at "u"
      obtain ⟨t6, rfl⟩ := hv6
      refine Xs.nil fun s5 T5 => ⟨0, by omega, .inr ⟨rfl, b6, _, vu, _, (l4.trans l5).trans l6, fun y hy => ?_, ⟨t5, ?_⟩, ⟨t6, ?_⟩, ?_, hvu, T5⟩⟩
      · rw [upd_ne fun e => hy (by simp [e]), upd_ne fun e => hy (by simp [e])]; exact g4 y hy
      · rw [upd_ne (by decide), upd_eq]; rfl
      · rw [upd_eq]; rfl
      · walk_at "m"
    · refine Tv.use (Γ := Γ) (c := true) tru T fun s₂ T₂ => ?_
      rw [if_pos rfl]
      refine Xs.go T₂ ?_
      have hp' : m' "pat" = some (.str X t1) := by rw [g' _ (by decide)]; exact hp
      have hj' : ∃ t, m' "j" = some (.int q t) := by rw [g' _ (by decide)]; exact hj
      with_reducible refine Xs.asg O (P := fun _ v => IsI (-1) v) (hfind hp' hk' hj' hr2 ?_) (by walk_at "k") ?_ (fun b4 v4 l4 hv4 => ?_)
      · rfl
      · rw [e3]; walk_at "u"
      obtain ⟨t4, rfl⟩ := hv4
      with_reducible refine Xs.ifT (Tv.cmp (c := true) (P₁ := IsI (-1)) (P₂ := IsI 0) ?_ (Ev.locI O ⟨_, upd_eq _ _ _⟩ (by walk_at "k") (by decide)) Ev.int ?_) ?_
      · exact @cop_ltI (-1) 0
      · rfl
      intro s5 E5 T5
      refine wpAny_execs_cons (wpAny_Break ?_)
      refine ⟨b4, _, vu, n, l'.trans l4, fun y hy => ?_, let ⟨t, e⟩ := hi'; ⟨t, by walk_at "m"⟩, by walk_at "m", hu', T5⟩
      rw [upd_ne fun e => hy (by simp [e])]; exact g' y hy
  · rintro s' ⟨b', m', vu, n, l', g', hi', hD', hu', T'⟩
    exact K b' m' D vu n (l2.trans l') g' hi' hD' hu' s' _ T'
end
end Mine
end

section
open PySem PySem.W PySem.Calls PySem.Spec PyProof.Rows
set_option linter.unusedVariables false
namespace Mine
set_option maxRecDepth 100000
set_option maxHeartbeats 4000000
local macro_rules | `(tactic| walk_at "m") => `(tactic| ((repeat (rw [upd_ne (by decide)])); first | exact upd_eq _ _ _ | assumption))
local macro_rules | `(tactic| walk_at "k") => `(tactic| exact trKinds (by assumption) _ .local (by simp))
local macro_rules | `(tactic| walk_at "kk") => `(tactic| exact kd (by assumption) (by kernel_rfl))
local macro_rules | `(tactic| walk_at "loc") => `(tactic| exact Ev.loc (by assumption) (by walk_at "m") (by walk_at "k") (by decide))
local macro_rules | `(tactic| walk_at "bui") => `(tactic| exact Ev.boot (by assumption) (by assumption) (by kernel_rfl) (by kernel_rfl) (by decide) (by walk_at "kk") (by decide))
local macro_rules | `(tactic| walk_at "u") => `(tactic| with_unfolding_all rfl)
section
variable {Γ : Fx Prg} {b : Heap} {m : Str → Option Value} {own : List (Addr × Obj)} {mg mb : Str → Option Value} {L : Addr}
theorem brChunksB (O : Γ.Ok) (W : Wd Γ.w mg mb Γ.g) (e3 : Γ.env = callEnvC (fdAt Γ.w 62) L 62) {c : Addr} (hcode : Γ.env.code = .ref c) (Cd : CodeHd Γ.g c 57) (hb : Γ.g.BuiltinsAt mg 57)
    {X u v res : Str} {k0 q : Nat} {t1 : Tok} {D : Addr} {vu : Value} {n : Nat} (hX : X.length ≤ 100) (hp : m "pat" = some (.str X t1)) (hi : ∃ t, m "i" = some (.int (k0 + 1 : Nat) t)) (hj : ∃ t, m "j" = some (.int q t)) (hD : m "chunks" = some (.ref D)) (hu : IsS u vu)
    (huv : (u, v, res) ∈ chunkT) (hs2 : StrLaws.sliceText X (some (k0 + 1 : Nat)) (some q) = v) {rest : List Stmt} {Q : Flow → Shared → Prop}
    (K : ∀ b' m', Le b b' → (∀ y : Str, y ∉ (["k", "chunk", "stuff"] : List Str) → m' y = m y) → (∃ t, m' "stuff" = some (.str res t)) → Xs Γ b' m' own rest Q) :
    Xs Γ b m ((D, lsN [vu] n) :: own) ((brC Γ.w).drop 3) (OnQ Γ rest Q) := by
  obtain ⟨-, hul, hvl, cu, cv, xs, hcu, hcv, hlt, hge, hjoin, hjok, hocc, hsz⟩ := chunk_facts huv
  conv => arg 5; whnf
  with_reducible refine Xs.asg O (P := fun _ x => IsS v x) ?_ (by walk_at "k") ?_ (fun b2 vv l2 hvv => ?_)
  · refine Ev.ei (P := fun _ x => IsS v x) ((Ev.sliceS (lo := some _) (up := some _) (pl := some (k0 + 1 : Nat)) (pu := some (q : Int)) (Ev.locS O ⟨_, hp⟩ (by walk_at "k") (by decide)) (Ev.locI O hi (by walk_at "k") (by decide)) (Ev.locI O hj (by walk_at "k") (by decide)) (by omega) (fun _ _ => by rfl)).mono fun x hx => ?_)
    rw [hs2] at hx; exact hx
  · rw [e3]; walk_at "u"
  have hD2 : upd m "chunk" vv "chunks" = some (.ref D) := by walk_at "m"
  have hv2 : upd m "chunk" vv "chunk" = some vv := upd_eq _ _ _
  have g2 : ∀ y : Str, y ∉ (["k", "chunk", "stuff"] : List Str) → upd m "chunk" vv y = m y := fun y hy => upd_ne fun e => hy (by simp [e])
  generalize upd m "chunk" vv = m2 at hD2 hv2 g2 ⊢
  with_reducible refine Xs.ifT ?_ ?_
  · have := Tv.str (Γ := Γ) (b := b2) (m := m2) (own := (D, lsN [vu] n) :: own) (x := v) (e := .Name "chunk" ⟨59, 23, 59, 28⟩) (Ev.locS O (let ⟨t, e⟩ := hvv; ⟨t, hv2.trans (congrArg some e)⟩) (by walk_at "k") (by decide)) (by omega) (fun _ => by rfl)
    rw [hvl] at this
    exact this
  with_reducible refine Xs.appS (P := IsS v) (Ev.loc O hD2 (by walk_at "k") (by decide)) ?_ ?_ ?_ ?_ ?_ ?_ ?_ ?_ (fun vw hvw => ?_)
  · exact Ev.locS O (let ⟨t, e⟩ := hvv; ⟨t, hv2.trans (congrArg some e)⟩) (by walk_at "k") (by decide)
  · simp
  · rw [e3]; walk_at "u"
  · rw [e3]; walk_at "u"
  · walk_at "u"
  · rfl
  · rfl
  · rfl
  refine Xs.on ?_
  have Inv0 : ∀ {b' : Heap} {m' : Str → Option Value} {ws : List Value}, True := fun {_ _ _} => trivial
  refine Xs.for (own := [(D, lsN ([vu] ++ [vw]) (n + 1))]) (R := own) O (as := rangeL 1 (-1) 1) (Kin := fun v k => IsI k v)
    (fun i b' m' own' => Le b2 b' ∧ (∀ y : Str, y ∉ (["k", "chunk", "stuff"] : List Str) → m' y = m y) ∧ m' "chunks" = some (.ref D) ∧ ∃ ws n', own' = [(D, lsN ws n')] ∧ ws.length ≤ 2 ∧ (i = 0 → ws = [vu, vw]) ∧ (i = 1 → All2 (fun v x => IsS x v) ws xs))
    ?_ ⟨Le.refl _, g2, hD2, _, _, rfl, by simp, fun _ => rfl, fun h => absurd h (by decide)⟩ ?_ (fun _ => rfl) ?_
  · refine iter_range (range_3 (a := 1) (c := 0) (d := -1) (by decide) (by decide) (by walk_at "bui") ?_ Ev.int (Ev.neg Ev.int)) (by decide +kernel) (by decide +kernel)
    exact Ev.bin (bop_subI (i := 2) (j := 1)) (Ev.lenOwn (.head _) (by walk_at "bui") (Ev.loc O hD2 (by walk_at "k") (by decide)) (by simp)) Ev.int
  · rintro i a vk b₁ m₁ own₁ R₁ s E hia lb hvk ⟨l1, g1, hD1, ws, n', rfl, hws, h0, -⟩ hR T
    have hr : rangeL 1 (-1) 1 = [1] := by decide +kernel
    rw [hr] at hia
    obtain ⟨rfl, rfl⟩ : i = 0 ∧ a = 1 := by
      cases i with
      | zero => simp at hia; exact ⟨rfl, hia.symm⟩
      | succ i => simp at hia
    obtain rfl := h0 rfl
    obtain ⟨tk, rfl⟩ := hvk
    refine wpAny_assign_Name (stores O T (by walk_at "k") fun s₂ T₂ => ?_)
    have hD3 : upd m₁ "k" (.int 1 tk) "chunks" = some (.ref D) := by walk_at "m"
    have hk3 : ∃ t, upd m₁ "k" (.int 1 tk) "k" = some (.int 1 t) := ⟨_, upd_eq _ _ _⟩
    have g3 : ∀ y : Str, y ∉ (["k", "chunk", "stuff"] : List Str) → upd m₁ "k" (.int 1 tk) y = m y := fun y hy => by rw [upd_ne fun e => hy (by simp [e])]; exact g1 y hy
    generalize upd m₁ "k" (.int 1 tk) = m3 at hD3 hk3 g3 T₂ ⊢
    have ech : ∀ {b' : Heap} {own' : List (Addr × Obj)} {pos : Pos}, Ev Γ b' m3 own' (.Name "chunks" pos) (IsV (.ref D)) := fun {_ _ _} => Ev.loc O hD3 (by walk_at "k") (by decide)
    have ek : ∀ {b' : Heap} {own' : List (Addr × Obj)} {pos : Pos}, Ev Γ b' m3 own' (.Name "k" pos) (IsI (1 : Nat)) := fun {_ _ _} => Ev.locI O hk3 (by walk_at "k") (by decide)
    have ek1 : ∀ {b' : Heap} {own' : List (Addr × Obj)} {p1 p2 p3 : Pos} {k : Nat}, Ev Γ b' m3 own' (.BinOp (.Name "k" p1) .Sub (.Constant (.int 1) k p2) p3) (IsI (0 : Nat)) := fun {_ _ _ _ _ _} => Ev.bin (bop_subI (i := (1 : Nat)) (j := 1)) ek Ev.int
    have e0 : ∀ {p1 p2 p3 p4 p5 : Pos} {k : Nat}, Ev Γ b₁ m3 ((D, lsN [vu, vw] n') :: R₁) (.Subscript (.Name "chunks" p1) (.BinOp (.Name "k" p2) .Sub (.Constant (.int 1) k p3) p4) p5) (IsS u) := fun {_ _ _ _ _ _} =>
      (Ev.itemOwn (k := 0) (.head _) ech ek1 rfl (by simp) (fun _ => by rfl) (fun _ => by rfl)).mono fun z hz => (show z = vu from hz) ▸ hu
    have e1 : ∀ {p1 p2 p5 : Pos}, Ev Γ b₁ m3 ((D, lsN [vu, vw] n') :: R₁) (.Subscript (.Name "chunks" p1) (.Name "k" p2) p5) (IsS v) := fun {_ _ _} =>
      (Ev.itemOwn (k := 1) (.head _) ech ek rfl (by simp) (fun _ => by rfl) (fun _ => by rfl)).mono fun z hz => (show z = vw from hz) ▸ hvw
    have T₂ : Γ.S b₁ m3 ((D, lsN [vu, vw] n') :: R₁) s₂ := T₂
    refine Xs.go T₂ ?_
    have hul100 : u.length ≤ 100 := by omega
    have hvl100 : v.length ≤ 100 := by omega
    with_reducible refine Xs.iff (Tv.cmp cop_gtS (Ev.itemSN (c := cu) e0 (Ev.neg Ev.int) hcu ?_ ?_ ?_) (Ev.itemS (i := 0) (c := cv) e1 Ev.int ?_ ?_ ?_ ?_ ?_) ?_) (fun hc => ?_) (fun hc => ?_)
    · omega
    · exact fun _ _ => by walk_at "u"
    · exact fun _ _ => by walk_at "u"
    · decide
    · exact hcv
    · omega
    · exact fun _ _ => by walk_at "u"
    · exact fun _ _ => by walk_at "u"
    · rfl
    · have hxs := hlt hc
      with_reducible refine Xs.setOwn (P := IsS (StrLaws.sliceText u none (some (-1)) ++ StrLaws.sliceText v (some 1) none)) (k := 0) ?_ ech ek1 (by simp) (by simp) ?_ (fun vz hvz => ?_)
      · exact Ev.bin (bop_addS (by omega)) (Ev.sliceT (lo := none) (up := some _) (pl := none) (pu := some (-1)) e0 trivial (Ev.neg Ev.int) (by omega) (fun _ _ => by rfl)) (Ev.sliceT (lo := some _) (up := none) (pl := some 1) (pu := none) e1 Ev.int trivial (by omega) (fun _ _ => by rfl))
      · rw [e3]; walk_at "u"
      with_reducible refine Xs.delOwn (k := 1) ech ek (by simp) (by simp) ?_
      refine Xs.nil fun s₃ T₃ => fun E => wpAny_execs_nil ⟨rfl, b₁, m3, [(D, lsN [vz] (n' + 1))], Le.refl _, ⟨l1, g3, hD3, _, _, rfl, by simp, fun h => absurd h (by decide), fun _ => ?_⟩, T₃⟩
      rw [hxs]; exact .cons hvz .nil
    · have hxs := hge hc
      refine Xs.nil fun s₃ T₃ => fun E => wpAny_execs_nil ⟨rfl, b₁, m3, _, Le.refl _, ⟨l1, g3, hD3, _, _, rfl, by simp, fun h => absurd h (by decide), fun _ => ?_⟩, T₃⟩
      rw [hxs]; exact .cons hu (.cons hvw .nil)
  · rintro b' m' own' l' ⟨l3, g3, hD3, ws, n', rfl, hws, -, h1⟩
    have hws' := h1 (by decide +kernel)
    intro s₃ E₃ T₃
    refine wpAny_execs_cons ?_
    with_reducible refine wpAny_Assign_Name ?_ ?_
    rotate_left
    · rw [e3]; walk_at "u"
    refine wpAny_Call_method (by walk_at "u") (by rfl) (by rfl) F.plainAttrs_str F.slot_str_join F.type_str_join ?_
    refine wpAny_Constant_str ⟨typeIs_str _ _ _, fun a q => (by cases q), callWith_method1 (spliced_more ?_)⟩
    refine wpAny_mono (genJoin (n := n') (cl := []) (x := "s") (y := "chunks") (Q := fun v s' => ∃ t, v = .str res t ∧ Γ.S b' m' ((D, lsN ws n') :: own) s') (E := E₃) O W hcode Cd hb ?_ hws' ?_ hD3 ?_ ?_ ?_ ?_ ?_ ?_ ?_ ?_ ?_ ?_ hjok T₃.toks (fun s' t' T' => ⟨t', by rw [hjoin], T'⟩)) (fun v s₄ h => spliced_none (wpAny_mono h (fun v' s₅ hv' => ?_) fun _ _ x => x)) fun _ _ x => x
    · exact .head _
    · omega
    · walk_at "k"
    · decide
    · rfl
    · rw [e3]; rfl
    · decide
    · rfl
    · rfl
    · rfl
    · intro A' E' C' code bi v z s₂ m₂ hA hz hzv hns hm2
      obtain ⟨o1, o2⟩ := hocc z hz
      refine replAny (replAny ?_ o1 (by with_unfolding_all rfl) (by rfl)) o2 (by with_unfolding_all rfl) (by rfl)
      refine wpAny_Name (wpAny_loadName_local (by rfl) (by rfl) hns hm2 ⟨hzv, _, _, rfl, fun _ _ e => e⟩) (by decide)
    · exact fun _ => by with_unfolding_all rfl
    · obtain ⟨t, rfl, T'⟩ := hv'
      refine stores (Γ := Γ) O T' (by walk_at "k") fun s₆ T₆ => ?_
      refine wpAny_execs_nil fun E => ?_
      exact K b' _ (l2.trans l') (fun y hy => by rw [upd_ne fun e => hy (by simp [e])]; exact g3 y hy) ⟨t, upd_eq _ _ _⟩ s₆ E T₆.drop
end
end Mine
end

section
open PySem PySem.W PySem.Calls PySem.Spec PyProof.Rows
set_option linter.unusedVariables false
namespace Mine
set_option maxRecDepth 100000
set_option maxHeartbeats 4000000
local macro_rules | `(tactic| walk_at "m") => `(tactic| ((repeat (rw [upd_ne (by decide)])); first | exact upd_eq _ _ _ | assumption))
local macro_rules | `(tactic| walk_at "k") => `(tactic| exact trKinds (by assumption) _ .local (by simp))
local macro_rules | `(tactic| walk_at "kk") => `(tactic| exact kd (by assumption) (by kernel_rfl))
local macro_rules | `(tactic| walk_at "loc") => `(tactic| exact Ev.loc (by assumption) (by walk_at "m") (by walk_at "k") (by decide))
local macro_rules | `(tactic| walk_at "top") => `(tactic| exact Ev.top (by assumption) (by assumption) (by kernel_rfl) (by walk_at "kk") (by decide))
local macro_rules | `(tactic| walk_at "u") => `(tactic| with_unfolding_all rfl)
theorem plainAttrs_re : PlainAttrs "re.Pattern" :=
  ⟨⟨"object.__getattribute__", by rw [typeLookup_type, builtinLookup_eq_fast]; kernel_rfl, by decide +kernel⟩, by rw [typeLookup_type, builtinLookup_eq_fast]; kernel_rfl⟩
theorem slot_re_sub : Slot "re.Pattern" "sub" "re.Pattern.sub" :=
  .of (owner := "re.Pattern") (n := "sub") (by rw [typeLookup_type, builtinLookup_eq_fast]; kernel_rfl) (by decide +kernel) (by decide +kernel) (by decide +kernel)
    (by first | exact .inl (by decide +kernel) | exact .inr (by decide +kernel)) (by rw [isSubtype_type]; kernel_rfl)
theorem type_re_sub : typeOf (.builtin "re.Pattern.sub") = pure (.type "method_descriptor") := by show builtinType _ = _; rw [builtinType_eq_fast]; kernel_rfl
def subT : List Str := ["*", "?", "!a", "a-c", "", "!"]
theorem subAny {B : Str} (hB : B ∈ subT) {w : World} {A : Around} {E : Value → Shared → Prop} {h : Heap} {g : Array GenState} {d : Drawn} {tk : Nat} {os : OsState} {t : Tok} {lam : Addr} {fd : FuncData} (X : (KF w.params).In h) (hl : h.get? lam = some { cls := .type "function", dict := none, data := .func fd, slots := #[] }) :
    wpAny (model Prg w) A (call (.builtin "re.Pattern.sub") [.ref 43, .ref lam, .str B t]) (fun v s' => ∃ h' t' tk', v = .str B t' ∧ s' = ⟨h', g, d, tk', os⟩ ∧ Le h h') E ⟨h, g, d, tk, os⟩ := by
  simp only [subT, List.mem_cons, List.not_mem_nil, or_false] at hB
  rcases hB with rfl | rfl | rfl | rfl | rfl | rfl
  · exact sub_star X hl
  · exact sub_quest X hl
  · exact sub_na X hl
  · exact sub_ac X hl
  · exact sub_nil X hl
  · exact sub_ex X hl
section
variable {Γ : Fx Prg} {b : Heap} {m : Str → Option Value} {own : List (Addr × Obj)} {mg mb : Str → Option Value} {L : Addr}
theorem ref43 (w : World) : ∃ o, (KK w).lookup 43 = some o ∧ o.cls = .type "re.Pattern" ∧ o.dict = none := ⟨_, rfl, rfl, rfl⟩
theorem brSub (O : Γ.Ok) (W : Wd Γ.w mg mb Γ.g) (e3 : Γ.env = callEnvC (fdAt Γ.w 62) L 62) {c : Addr} (hcode : Γ.env.code = .ref c) (Cd : CodeHd Γ.g c 57) (hb : Γ.g.BuiltinsAt mg 57)
    {B : Str} (hB : B ∈ subT) (hst : ∃ t, m "stuff" = some (.str B t)) {Q : Flow → Shared → Prop}
    (K : ∀ b' m', Le b b' → (∀ y : Str, y ∉ (["stuff"] : List Str) → m' y = m y) → (∃ t, m' "stuff" = some (.str B t)) → Xs Γ b' m' own ((brS Γ.w).drop 3) Q) :
    Xs Γ b m own ((brS Γ.w).drop 2) Q := by
  conv => arg 5; whnf
  intro s E T
  refine wpAny_execs_cons ?_
  with_reducible refine wpAny_Assign_Name ?_ ?_
  rotate_left
  · rw [e3]; walk_at "u"
  refine wpAny_Call_method ?_ (by rfl) (by rfl) plainAttrs_re slot_re_sub type_re_sub (Ev.use (Γ := Γ) (P := IsV (.ref 43)) (by walk_at "top") T fun v s₁ hv T₁ => ?_)
  · walk_at "u"
  obtain rfl : v = .ref 43 := hv
  obtain ⟨o, ho, hoc, hod⟩ := ref43 Γ.w
  have h43 : s₁.heap.get? 43 = some o := T₁.keep _ _ (T₁.gr _ _ (W.X 43 _ ho))
  refine ⟨⟨o, h43, hoc⟩, fun a q => (by cases q; exact ⟨o, h43, hod⟩), callWith_method1 (spliced_more (Ei.use (Γ := Γ) (Ei.lam O W (clos := []) ?_ hcode Cd hb ?_) T₁ fun v₂ s₂ b₂ l₂ hv₂ T₂ => spliced_more (Ev.use (Γ := Γ) (P := IsS B) (Ev.locS O hst (by walk_at "k") (by decide)) T₂ fun v₃ s₃ hv₃ T₃ => spliced_none ?_)))⟩
  · rw [e3]; rfl
  · with_unfolding_all rfl
  obtain ⟨f, fd, rfl, hf0, hf⟩ := hv₂
  obtain ⟨t3, rfl⟩ := hv₃
  obtain ⟨h₃, g₃, d₃, tk₃, os₃⟩ := s₃
  refine wpAny_mono (subAny hB (W.mono (T₃.gr.trans T₃.keep)).X (T₃.keep _ _ hf)) (fun v s₄ hv => ?_) fun _ _ x => x
  obtain ⟨h', t', tk', rfl, rfl, hle⟩ := hv
  have T₄ : Γ.S b₂ m own ⟨h', g₃, d₃, tk', os₃⟩ := T₃.heap (tk := tk') hle
  refine stores (Γ := Γ) O T₄ (by walk_at "k") fun s₅ T₅ => ?_
  exact K b₂ _ l₂ (fun y hy => upd_ne fun e => hy (by simp [e])) ⟨t', upd_eq _ _ _⟩ s₅ E T₅
noncomputable def brF (w : World) : List Stmt := match (brS w).drop 4 with
  | [.If _ _ [.If _ _ [_, a] _] _] => [a]
  | _ => []
/-- add(f'[{stuff}]') -/
theorem brFadd (O : Γ.Ok) (e3 : Γ.env = callEnvC (fdAt Γ.w 62) L 62) {B : Str} {R M : Addr} {ys : List Value} {n : Nat} (hB : B.length ≤ 100) (hst : ∃ t, m "stuff" = some (.str B t)) (hadd : m "add" = some (.ref M)) (hM : b.get? M = some (bmObj "list.append" R)) (hyl : ys.length ≤ 1000) {Q : Flow → Shared → Prop}
    (K : ∀ v, IsS (Str.empty ++ "[" ++ B ++ "]") v → Xs Γ b m ((R, lsN (ys ++ [v]) (n + 1)) :: own) [] Q) : Xs Γ b m ((R, lsN ys n) :: own) (brF Γ.w) Q := by
  conv => arg 5; whnf
  with_reducible refine Xs.addS (Γ := Γ) (P := IsS (Str.empty ++ "[" ++ B ++ "]")) (Ev.loc O hadd (by walk_at "k") (by decide)) hM ?_ hyl ?_ ?_ ?_ ?_ K
  · intro s E T
    have l1 : (Str.empty ++ ("[" : Str)).length = 1 := by decide +kernel
    have l2 : ("]" : Str).length = 1 := by decide +kernel
    have hz := sizeLine_eq
    refine JoinedStr_many ?_
    refine joinParts_cons (wpAny_Constant_str ⟨by omega, ?_⟩)
    refine joinParts_cons (FormattedValue_plain (Ev.use (Γ := Γ) (P := IsS B) (Ev.locS O hst (by walk_at "k") (by decide)) T.toks fun v s₁ hv T₁ => ?_))
    obtain ⟨t, rfl⟩ := hv
    refine formatField_str (fun t' tk => ⟨?_, ?_⟩) (by omega)
    · rw [strLen_append]; omega
    refine joinParts_cons (wpAny_Constant_str ⟨?_, ?_⟩)
    · rw [strLen_append, strLen_append]; omega
    refine joinParts_nil ⟨⟨_, rfl⟩, T₁.toks⟩ ?_
    rw [strLen_append, strLen_append]; omega
  · rw [e3]; walk_at "u"
  · rw [e3]; walk_at "u"
  · rfl
  · rfl
def endT : List (Str × Str) := [("*", "[*]"), ("?", "[?]"), ("!a", "[^a]"), ("a-c", "[a-c]"), ("", "(?!)"), ("!", ".")]
theorem brEnd (O : Γ.Ok) (W : Wd Γ.w mg mb Γ.g) (e3 : Γ.env = callEnvC (fdAt Γ.w 62) L 62) {B piece : Str} {q : Nat} {R M : Addr} {ys : List Value} {n : Nat} (hend : (B, piece) ∈ endT) (hst : ∃ t, m "stuff" = some (.str B t)) (hj : ∃ t, m "j" = some (.int q t))
    (hadd : m "add" = some (.ref M)) (hM : b.get? M = some (bmObj "list.append" R)) (hyl : ys.length ≤ 1000) {Q : Flow → Shared → Prop}
    (K : ∀ b' m' v, Le b b' → (∀ y : Str, y ∉ (["i", "stuff"] : List Str) → m' y = m y) → (∃ t, m' "i" = some (.int (q + 1 : Nat) t)) → IsS piece v → Xs Γ b' m' ((R, lsN (ys ++ [v]) (n + 1)) :: own) [] Q) :
    Xs Γ b m ((R, lsN ys n) :: own) ((brS Γ.w).drop 3) Q := by
  conv => arg 5; whnf
  with_reducible refine Xs.asg O (P := fun _ v => IsI ((q : Int) + 1) v) (Ev.ei (P := fun _ v => IsI ((q : Int) + 1) v) (Ev.bin bop_addI (Ev.locI O hj (by walk_at "k") (by decide)) Ev.int)) (by walk_at "k") ?_ (fun b2 v2 l2 hv2 => ?_)
  · rw [e3]; walk_at "u"
  obtain ⟨t2, rfl⟩ := hv2
  have hst2 : ∃ t, upd m "i" (.int ((q : Int) + 1) t2) "stuff" = some (.str B t) := let ⟨t, e⟩ := hst; ⟨t, by walk_at "m"⟩
  have hadd2 : upd m "i" (.int ((q : Int) + 1) t2) "add" = some (.ref M) := by walk_at "m"
  have hi2 : ∃ t, upd m "i" (.int ((q : Int) + 1) t2) "i" = some (.int (q + 1 : Nat) t) := ⟨t2, upd_eq _ _ _⟩
  have g2 : ∀ y : Str, y ∉ (["i", "stuff"] : List Str) → upd m "i" (.int ((q : Int) + 1) t2) y = m y := fun y hy => upd_ne fun e => hy (by simp [e])
  generalize upd m "i" (.int ((q : Int) + 1) t2) = m2 at hst2 hadd2 hi2 g2 ⊢
  have hM2 := l2 _ _ hM
  have est : ∀ {b' : Heap} {own' : List (Addr × Obj)} {pos : Pos}, Ev Γ b' m2 own' (.Name "stuff" pos) (IsS B) := fun {_ _ _} => Ev.locS O hst2 (by walk_at "k") (by decide)
  have hl : ∀ z ∈ endT, z.1.length ≤ 100 := by decide +kernel
  have hBl : B.length ≤ 100 := hl _ hend
  have tnot : ∀ (c : Bool), decide (B.length = 0) = c → ∀ {own' : List (Addr × Obj)} {p1 p2 : Pos}, Tv Γ b2 m2 own' (.UnaryOp .Not (.Name "stuff" p1) p2) c := by
    intro c hc own' p1 p2
    have := Tv.not (pos := p2) (Tv.str (Γ := Γ) (b := b2) (m := m2) (own := own') (x := B) (e := .Name "stuff" p1) est (by omega) (fun _ => by rfl))
    rw [← hc]
    have e : (!((B.length : Int) != 0)) = decide (B.length = 0) := by
      cases hB : B.length with
      | zero => rfl
      | succ k => simp; omega
    rw [← e]; exact this
  simp only [endT, List.mem_cons, List.not_mem_nil, or_false, Prod.mk.injEq] at hend
  by_cases h0 : B = ""
  · have hp : piece = "(?!)" := by
      subst h0
      rcases hend with ⟨h, _⟩ | ⟨h, _⟩ | ⟨h, _⟩ | ⟨h, _⟩ | ⟨h, e⟩ | ⟨h, _⟩ <;> first | exact e | exact absurd h (by decide +kernel)
    subst hp
    with_reducible refine Xs.ifT (tnot true (by rw [h0]; decide +kernel)) ?_
    with_reducible refine Xs.addS (Γ := Γ) (P := IsS "(?!)") (Ev.loc O hadd2 (by walk_at "k") (by decide)) hM2 Ev.str hyl ?_ ?_ ?_ ?_ (fun v hv => ?_)
    · rw [e3]; walk_at "u"
    · rw [e3]; walk_at "u"
    · rfl
    · rfl
    exact Xs.on (K b2 m2 v l2 g2 hi2 hv)
  have hne : B.length ≠ 0 := fun h => h0 (by
    rcases hend with ⟨h', _⟩ | ⟨h', _⟩ | ⟨h', _⟩ | ⟨h', _⟩ | ⟨h', _⟩ | ⟨h', _⟩
    all_goals subst h'
    all_goals first | rfl | exact absurd h (by decide +kernel))
  with_reducible refine Xs.ifF (tnot false (decide_eq_false hne)) ?_
  by_cases h1 : B = "!"
  · have hp : piece = "." := by
      subst h1
      rcases hend with ⟨h, _⟩ | ⟨h, _⟩ | ⟨h, _⟩ | ⟨h, _⟩ | ⟨h, _⟩ | ⟨h, e⟩ <;> first | exact e | exact absurd h (by decide +kernel)
    subst hp
    with_reducible refine Xs.ifT (Tv.cmp (c := true) (P₁ := IsS B) (P₂ := IsS "!") ?_ est Ev.str ?_) ?_
    · have := @cop_eqS B "!"
      rwa [decide_eq_true h1] at this
    · rfl
    with_reducible refine Xs.addS (Γ := Γ) (P := IsS ".") (Ev.loc O hadd2 (by walk_at "k") (by decide)) hM2 Ev.str hyl ?_ ?_ ?_ ?_ (fun v hv => ?_)
    · rw [e3]; walk_at "u"
    · rw [e3]; walk_at "u"
    · rfl
    · rfl
    exact Xs.on (Xs.on (K b2 m2 v l2 g2 hi2 hv))
  with_reducible refine Xs.ifF (Tv.cmp (c := false) (P₁ := IsS B) (P₂ := IsS "!") ?_ est Ev.str ?_) ?_
  · have := @cop_eqS B "!"
    rwa [decide_eq_false h1] at this
  · rfl
  have facts : ∃ c, B.cps[0]? = some c ∧ ((decide ((⟨#[c]⟩ : Str) = "!") = true ∧ Str.empty ++ "[" ++ ("^" ++ StrLaws.sliceText B (some 1) none) ++ "]" = piece ∧ ("^" ++ StrLaws.sliceText B (some 1) none).length ≤ 100) ∨ (decide ((⟨#[c]⟩ : Str) = "!") = false ∧ ([("^" : Str), "["] : List Str).contains ⟨#[c]⟩ = false ∧ Str.empty ++ "[" ++ B ++ "]" = piece)) := by
    rcases hend with ⟨rfl, rfl⟩ | ⟨rfl, rfl⟩ | ⟨rfl, rfl⟩ | ⟨rfl, rfl⟩ | ⟨rfl, rfl⟩ | ⟨rfl, rfl⟩
    · exact ⟨42, by decide +kernel, .inr (by decide +kernel)⟩
    · exact ⟨63, by decide +kernel, .inr (by decide +kernel)⟩
    · exact ⟨33, by decide +kernel, .inl (by decide +kernel)⟩
    · exact ⟨97, by decide +kernel, .inr (by decide +kernel)⟩
    · exact absurd rfl h0
    · exact absurd rfl h1
  obtain ⟨c, hc, hcase⟩ := facts
  have e0 : ∀ {b' : Heap} {own' : List (Addr × Obj)} {p1 p2 p3 : Pos} {k : Nat}, Ev Γ b' m2 own' (.Subscript (.Name "stuff" p1) (.Constant (.int 0) k p2) p3) (IsS ⟨#[c]⟩) := fun {_ _ _ _ _ _} =>
    Ev.itemS (i := 0) est Ev.int (by decide) hc (by omega) (fun _ _ => by walk_at "u") (fun _ _ => by walk_at "u")
  rcases hcase with ⟨h33, hpc, hlen⟩ | ⟨h33, hin, hpc⟩
  · with_reducible refine Xs.ifT (Tv.cmp (c := true) (P₁ := IsS ⟨#[c]⟩) (P₂ := IsS "!") ?_ e0 Ev.str ?_) ?_
    · have := @cop_eqS ⟨#[c]⟩ "!"
      rwa [h33] at this
    · rfl
    with_reducible refine Xs.asg O (P := fun _ v => IsS ("^" ++ StrLaws.sliceText B (some 1) none) v) ?_ (by walk_at "k") ?_ (fun b3 v3 l3 hv3 => ?_)
    · refine Ev.ei (P := fun _ v => IsS ("^" ++ StrLaws.sliceText B (some 1) none) v) (Ev.bin (bop_addS ?_) Ev.str (Ev.sliceT (lo := some _) (up := none) (pl := some 1) (pu := none) est Ev.int trivial (by omega) (fun _ _ => by rfl)))
      rw [strLen_append] at hlen; omega
    · rw [e3]; walk_at "u"
    obtain ⟨t3, rfl⟩ := hv3
    refine Xs.on ?_
    refine brFadd (own := own) (R := R) (M := M) (ys := ys) (n := n) O e3 hlen ⟨t3, upd_eq _ _ _⟩ (by walk_at "m") (l3 _ _ hM2) hyl fun v hv => ?_
    rw [hpc] at hv
    exact Xs.on (Xs.on (K b3 _ v (l2.trans l3) (fun y hy => by rw [upd_ne fun e => hy (by simp [e])]; exact g2 y hy) (let ⟨t, e⟩ := hi2; ⟨t, by walk_at "m"⟩) hv))
  · with_reducible refine Xs.ifF (Tv.cmp (c := false) (P₁ := IsS ⟨#[c]⟩) (P₂ := IsS "!") ?_ e0 Ev.str ?_) ?_
    · have := @cop_eqS ⟨#[c]⟩ "!"
      rwa [h33] at this
    · rfl
    with_reducible refine Xs.ifN ?_ ?_
    · intro s E T
      refine wpAny_isTrue_Compare1 (Ev.use (Γ := Γ) e0 T fun u s₁ hu T₁ => wpAny_Tuple_spliced (spliced_more (wpAny_Constant_str (spliced_more (wpAny_Constant_str (spliced_none ⟨by have := sizeLine_eq; show 2 ≤ sizeLine; omega, ?_⟩)))))) (by rfl)
      obtain ⟨t, rfl⟩ := hu
      refine SeqAt.in_tupleAt (fun u => match u with | .str z _ => z == (⟨#[c]⟩ : Str) | _ => false) ⟨_, Heap.get?_push_size _ rfl, rfl, _, rfl⟩ (fun y hy => ?_) ?_
      · obtain ⟨z, tz, rfl⟩ : ∃ z tz, y = .str z tz := by
          simp only [List.mem_toArray, List.mem_cons, List.not_mem_nil, or_false] at hy
          rcases hy with rfl | rfl
          · exact ⟨_, _, rfl⟩
          · exact ⟨_, _, rfl⟩
        exact (eqGives_str z ⟨#[c]⟩ tz t).at _ _
      · refine wpAny_truthy_bool ⟨?_, T₁.toks.toks.heap' (Le.push _ _)⟩
        have hi2 : (("^" : Str) == ⟨#[c]⟩) = false ∧ (("[" : Str) == ⟨#[c]⟩) = false := by
          have hin' : ¬ ((⟨#[c]⟩ : Str) ∈ ([("^" : Str), "["] : List Str)) := by simpa using hin
          simp only [List.mem_cons, List.not_mem_nil, or_false, not_or] at hin'
          exact ⟨beq_false_of_ne fun e => hin'.1 e.symm, beq_false_of_ne fun e => hin'.2 e.symm⟩
        simp [hi2.1, hi2.2]
    refine Xs.on ?_
    refine brFadd (own := own) (R := R) (M := M) (ys := ys) (n := n) O e3 hBl hst2 hadd2 hM2 hyl fun v hv => ?_
    rw [hpc] at hv
    exact Xs.on (Xs.on (K b2 m2 v l2 g2 hi2 hv))
end
end Mine
end

section
open PySem PySem.W PySem.Calls PySem.Spec PyProof.Rows
set_option linter.unusedVariables false
namespace Mine
set_option maxRecDepth 100000
set_option maxHeartbeats 4000000
local macro_rules | `(tactic| walk_at "m") => `(tactic| ((repeat (rw [upd_ne (by decide)])); first | exact upd_eq _ _ _ | assumption))
local macro_rules | `(tactic| walk_at "k") => `(tactic| exact trKinds (by assumption) _ .local (by simp))
local macro_rules | `(tactic| walk_at "u") => `(tactic| with_unfolding_all rfl)
theorem slice_mid {X : Str} {pre mid post : List Nat} (h : X.cps.toList = pre ++ (mid ++ post)) : StrLaws.sliceText X (some (pre.length : Nat)) (some (pre.length + mid.length : Nat)) = ⟨mid.toArray⟩ := by
  have hl : X.length = pre.length + (mid.length + post.length) := by show X.cps.size = _; rw [← Array.length_toList, h]; simp
  rw [StrLaws.sliceText_nat X (by omega) (by omega), h, List.drop_left, Nat.add_sub_cancel_left, List.take_left]
theorem at_mid {X : Str} {pre mid post : List Nat} (h : X.cps.toList = pre ++ (mid ++ post)) {t : Nat} (ht : t < mid.length) : X.cps[pre.length + t]? = mid[t]? := by
  rw [← Array.getElem?_toList, h, List.getElem?_append_right (by omega), Nat.add_sub_cancel_left, List.getElem?_append_left ht]
theorem at_post {X : Str} {pre : List Nat} {c : Nat} {post : List Nat} (h : X.cps.toList = pre ++ c :: post) : X.cps[pre.length]? = some c := by
  rw [← Array.getElem?_toList, h, List.getElem?_append_right (Nat.le_refl _), Nat.sub_self]; rfl
theorem sub_at {X : Str} {pre post : List Nat} (h : X.cps.toList = pre ++ 45 :: post) : Builtin.Str.subAt X "-" pre.length = true := by
  have e : ("-" : Str).cps = #[45] := by decide +kernel
  have el : ("-" : Str).length = 1 := by decide +kernel
  unfold Builtin.Str.subAt
  rw [el, e]
  have hx : X.cps.extract pre.length (pre.length + 1) = #[45] := by
    apply Array.toList_inj.mp
    rw [Array.toList_extract, h, List.extract_eq_drop_take]
    simp
  rw [hx]; decide
def brT : List (Str × Str × Str) := [("*", "*", "[*]"), ("?", "?", "[?]"), ("!a", "!a", "[^a]"), ("a-c", "a-c", "[a-c]"), ("c-a", "", "(?!)"), ("!c-a", "!", ".")]
theorem brT_facts {B res piece : Str} (h : (B, res, piece) ∈ brT) : (∀ c ∈ B.cps.toList, c ≠ 93) ∧ 0 < B.cps.toList.length ∧ (B.cps.toList[0]? = some 33 → 1 < B.cps.toList.length) ∧ res ∈ subT ∧ (res, piece) ∈ endT ∧
    ((Txt.contains B "-" = false ∧ res = B ∧ noOcc B "\\" = true) ∨ (Txt.contains B "-" = true ∧ ∃ u v, (u, v, res) ∈ chunkT ∧ B.cps.toList = u.cps.toList ++ 45 :: v.cps.toList ∧ u.cps.toList.length = u.length ∧ v.cps.toList.length = 1 ∧ 0 < u.length)) := by
  simp only [brT, List.mem_cons, List.not_mem_nil, or_false, Prod.mk.injEq] at h
  rcases h with ⟨rfl, rfl, rfl⟩ | ⟨rfl, rfl, rfl⟩ | ⟨rfl, rfl, rfl⟩ | ⟨rfl, rfl, rfl⟩ | ⟨rfl, rfl, rfl⟩ | ⟨rfl, rfl, rfl⟩
  · exact ⟨by decide +kernel, by decide +kernel, by decide +kernel, by decide +kernel, by decide +kernel, .inl (by decide +kernel)⟩
  · exact ⟨by decide +kernel, by decide +kernel, by decide +kernel, by decide +kernel, by decide +kernel, .inl (by decide +kernel)⟩
  · exact ⟨by decide +kernel, by decide +kernel, by decide +kernel, by decide +kernel, by decide +kernel, .inl (by decide +kernel)⟩
  · exact ⟨by decide +kernel, by decide +kernel, by decide +kernel, by decide +kernel, by decide +kernel, .inr ⟨by decide +kernel, "a", "c", by decide +kernel⟩⟩
  · exact ⟨by decide +kernel, by decide +kernel, by decide +kernel, by decide +kernel, by decide +kernel, .inr ⟨by decide +kernel, "c", "a", by decide +kernel⟩⟩
  · exact ⟨by decide +kernel, by decide +kernel, by decide +kernel, by decide +kernel, by decide +kernel, .inr ⟨by decide +kernel, "!c", "a", by decide +kernel⟩⟩
section
variable {Γ : Fx Prg} {b : Heap} {m : Str → Option Value} {own : List (Addr × Obj)} {mg mb : Str → Option Value} {L : Addr}
theorem brAll (O : Γ.Ok) (W : Wd Γ.w mg mb Γ.g) (e3 : Γ.env = callEnvC (fdAt Γ.w 62) L 62) {c : Addr} (hcode : Γ.env.code = .ref c) (Cd : CodeHd Γ.g c 57) (hb : Γ.g.BuiltinsAt mg 57)
    {X B res piece : Str} {pre post : List Nat} {t1 : Tok} (hX : X.length ≤ 100) (hp : m "pat" = some (.str X t1)) (hi : ∃ t, m "i" = some (.int (pre.length : Nat) t)) (hn : ∃ t, m "n" = some (.int X.length t))
    (hB : (B, res, piece) ∈ brT) (hXe : X.cps.toList = pre ++ (B.cps.toList ++ 93 :: post)) {R M : Addr} {ys : List Value} {n : Nat} (hadd : m "add" = some (.ref M)) (hM : b.get? M = some (bmObj "list.append" R)) (hyl : ys.length ≤ 1000) {Q : Flow → Shared → Prop}
    (K : ∀ b' m' v, Le b b' → (∀ y : Str, y ∉ (["i", "j", "k", "chunk", "chunks", "stuff"] : List Str) → m' y = m y) → (∃ t, m' "i" = some (.int (pre.length + B.cps.toList.length + 1 : Nat) t)) → IsS piece v → Xs Γ b' m' ((R, lsN (ys ++ [v]) (n + 1)) :: own) [] Q) :
    Xs Γ b m ((R, lsN ys n) :: own) (brB Γ.w) Q := by
  obtain ⟨f1, f2, f3, f4, f5, f6⟩ := brT_facts hB
  have hXl : X.length = pre.length + (B.cps.toList.length + (post.length + 1)) := by show X.cps.size = _; rw [← Array.length_toList, hXe]; simp
  have h93 : X.cps[pre.length + B.cps.toList.length]? = some 93 := by
    have := at_post (X := X) (pre := pre ++ B.cps.toList) (c := 93) (post := post) (by rw [hXe, List.append_assoc])
    rwa [List.length_append] at this
  refine brHead (q := pre.length + B.cps.toList.length) O e3 hX hp hi hn h93 (by omega) (fun t h1 h2 => ?_) (fun h => ?_) (fun b1 m1 l1 g1 hj1 => ?_)
  · obtain ⟨t, rfl⟩ : ∃ k, t = pre.length + k := ⟨t - pre.length, by omega⟩
    have ht : t < B.cps.toList.length := by omega
    exact ⟨B.cps.toList[t], by rw [at_mid hXe ht, List.getElem?_eq_getElem ht], f1 _ (List.getElem_mem ht)⟩
  · have := f3 (by rw [← at_mid hXe f2]; simpa using h)
    omega
  conv => arg 5; whnf
  have hp1 : m1 "pat" = some (.str X t1) := (g1 _ (by decide)).trans hp
  have hi1 : ∃ t, m1 "i" = some (.int (pre.length : Nat) t) := by rw [g1 _ (by decide)]; exact hi
  have hn1 : ∃ t, m1 "n" = some (.int X.length t) := by rw [g1 _ (by decide)]; exact hn
  with_reducible refine Xs.ifF (Tv.cmp (c := false) (P₁ := IsI (pre.length + B.cps.toList.length : Nat)) (P₂ := IsI X.length) ?_ (Ev.locI O hj1 (by walk_at "k") (by decide)) (Ev.locI O hn1 (by walk_at "k") (by decide)) ?_) ?_
  · have := @cop_geI (pre.length + B.cps.toList.length : Nat) X.length
    rwa [decide_eq_false (by omega)] at this
  · rfl
  have hBe : StrLaws.sliceText X (some (pre.length : Nat)) (some (pre.length + B.cps.toList.length : Nat)) = B := slice_mid hXe
  with_reducible refine Xs.asg O (P := fun _ v => IsS B v) ?_ (by walk_at "k") ?_ (fun b2 v2 l2 hv2 => ?_)
  · refine Ev.ei (P := fun _ v => IsS B v) ((Ev.sliceT (lo := some _) (up := some _) (pl := some (pre.length : Nat)) (pu := some (pre.length + B.cps.toList.length : Nat)) (Ev.locS O ⟨_, hp1⟩ (by walk_at "k") (by decide)) (Ev.locI O hi1 (by walk_at "k") (by decide)) (Ev.locI O hj1 (by walk_at "k") (by decide)) (by omega) (fun _ _ => by rfl)).mono fun v hv => ?_)
    rw [hBe] at hv; exact hv
  · rw [e3]; walk_at "u"
  obtain ⟨t2, rfl⟩ := hv2
  have hp2 : upd m1 "stuff" (.str B t2) "pat" = some (.str X t1) := by walk_at "m"
  have hi2 : ∃ t, upd m1 "stuff" (.str B t2) "i" = some (.int (pre.length : Nat) t) := let ⟨t, e⟩ := hi1; ⟨t, by walk_at "m"⟩
  have hj2 : ∃ t, upd m1 "stuff" (.str B t2) "j" = some (.int (pre.length + B.cps.toList.length : Nat) t) := let ⟨t, e⟩ := hj1; ⟨t, by walk_at "m"⟩
  have hst2 : ∃ t, upd m1 "stuff" (.str B t2) "stuff" = some (.str B t) := ⟨_, upd_eq _ _ _⟩
  have g2 : ∀ y : Str, y ∉ (["i", "j", "k", "chunk", "chunks", "stuff"] : List Str) → upd m1 "stuff" (.str B t2) y = m y := fun y hy => by rw [upd_ne fun e => hy (by simp [e])]; exact g1 y fun e => hy (by simp [e])
  generalize upd m1 "stuff" (.str B t2) = m2 at hp2 hi2 hj2 hst2 g2 ⊢
  have cont : ∀ b3 m3, Le b2 b3 → (∀ y : Str, y ∉ (["i", "k", "chunk", "chunks", "stuff"] : List Str) → m3 y = m2 y) → (∃ t, m3 "stuff" = some (.str res t)) → Xs Γ b3 m3 ((R, lsN ys n) :: own) ((brS Γ.w).drop 2) (OnQ Γ [] Q) := by
    intro b3 m3 l3 g3 hst3
    have g3' : ∀ y : Str, y ∉ (["i", "j", "k", "chunk", "chunks", "stuff"] : List Str) → m3 y = m y := fun y hy => by
      simp only [List.mem_cons, List.not_mem_nil, or_false, not_or] at hy
      obtain ⟨a1, a2, a3, a4, a5, a6⟩ := hy
      exact (g3 y (by simp [a1, a3, a4, a5, a6])).trans (g2 y (by simp [a1, a2, a3, a4, a5, a6]))
    refine brSub O W e3 hcode Cd hb f4 hst3 fun b4 m4 l4 g4 hst4 => ?_
    have g4' : ∀ y : Str, y ∉ (["i", "j", "k", "chunk", "chunks", "stuff"] : List Str) → m4 y = m y := fun y hy => (g4 y fun e => hy (by simp at e; simp [e])).trans (g3' y hy)
    refine brEnd (q := pre.length + B.cps.toList.length) O W e3 f5 hst4 ?_ ((g4' _ (by decide)).trans hadd) ((l1.trans (l2.trans (l3.trans l4))) _ _ hM) hyl fun b5 m5 v l5 g5 hi5 hv => Xs.on (K b5 m5 v ((l1.trans (l2.trans (l3.trans l4))).trans l5) (fun y hy => ?_) hi5 hv)
    · rw [g4 _ (by decide), g3 _ (by decide)]; exact hj2
    · exact (g5 y fun e => hy (by simp at e; rcases e with e | e <;> simp [e])).trans (g4' y hy)
  rcases f6 with ⟨hcon, rfl, hno⟩ | ⟨hcon, u, v, huv, hBuv, hul, hvl, hu0⟩
  · with_reducible refine Xs.ifT (Tv.cmp (c := true) (P₁ := IsS "-") (P₂ := IsS res) ?_ Ev.str (Ev.locS O hst2 (by walk_at "k") (by decide)) ?_) ?_
    · have := @cop_notinS res "-"
      rwa [hcon] at this
    · rfl
    with_reducible refine Xs.asg O (P := fun _ v => IsS res v) ?_ (by walk_at "k") ?_ (fun b3 v3 l3 hv3 => ?_)
    · refine Ei.meth (Po := fun _ v => IsS res v) (R := fun _ v => IsS res v) F.plainAttrs_str F.slot_str_replace F.type_str_replace (Ev.ei (P := fun _ v => IsS res v) (Ev.locS O hst2 (by walk_at "k") (by decide))) (fun b' ov h => recv_strS h) (fun b₁ ov l h => ?_) (by walk_at "u") (by rfl) (by rfl) (by rfl) (by rfl)
      refine ⟨_, ArgsE.cons (Ev.str (x := "\\")) (ArgsE.cons (Ev.str (x := "\\\\")) ArgsE.nil (by rfl)) (by rfl), fun vs hvs => ?_⟩
      obtain ⟨v1, _, rfl, h1, v2, _, rfl, h2, rfl⟩ := hvs
      exact (cev_replace hno h h1 h2).cal
    · rw [e3]; walk_at "u"
    obtain ⟨t3, rfl⟩ := hv3
    exact Xs.on (cont b3 _ l3 (fun y hy => upd_ne fun e => hy (by simp [e])) ⟨t3, upd_eq _ _ _⟩)
  · with_reducible refine Xs.ifF (Tv.cmp (c := false) (P₁ := IsS "-") (P₂ := IsS B) ?_ Ev.str (Ev.locS O hst2 (by walk_at "k") (by decide)) ?_) ?_
    · have := @cop_notinS B "-"
      rwa [hcon] at this
    · rfl
    have hBl : B.cps.toList.length = u.length + 2 := by rw [hBuv, List.length_append, List.length_cons, hvl, hul]
    have e1 : X.cps.toList = pre ++ (u.cps.toList ++ (45 :: (v.cps.toList ++ 93 :: post))) := by rw [hXe, hBuv]; simp
    have e2 : X.cps.toList = (pre ++ u.cps.toList) ++ 45 :: (v.cps.toList ++ 93 :: post) := by rw [e1]; simp
    have e4 : X.cps.toList = (pre ++ u.cps.toList ++ [45]) ++ (v.cps.toList ++ 93 :: post) := by rw [e1]; simp
    have s1 : StrLaws.sliceText X (some (pre.length : Nat)) (some (pre.length + u.length : Nat)) = u := by
      have := slice_mid e1
      rw [hul] at this; exact this
    have s2 : StrLaws.sliceText X (some (pre.length + u.length + 1 : Nat)) (some (pre.length + B.cps.toList.length : Nat)) = v := by
      have := slice_mid e4
      have z1 : (pre ++ u.cps.toList ++ [45]).length = pre.length + u.length + 1 := by rw [List.length_append, List.length_append, hul]; rfl
      rw [z1, hvl] at this
      rw [hBl, show pre.length + (u.length + 2) = pre.length + u.length + 1 + 1 by omega]
      exact this
    refine brChunksA (k0 := pre.length + u.length) (q := pre.length + B.cps.toList.length) O W e3 hX hp2 hi2 hj2 huv rfl (by omega) (by omega) ?_ ?_ s1 fun b3 m3 D vu n3 l3 g3 hi3 hD3 hvu => ?_
    · have := sub_at e2
      rw [List.length_append, hul] at this; exact this
    · have := at_mid (t := 0) e1 (by rw [hul]; exact hu0)
      rw [← Array.getElem?_toList (xs := u.cps)]
      simpa using this
    have hp3 : m3 "pat" = some (.str X t1) := (g3 _ (by decide)).trans hp2
    have hj3 : ∃ t, m3 "j" = some (.int (pre.length + B.cps.toList.length : Nat) t) := by rw [g3 _ (by decide)]; exact hj2
    refine brChunksB (k0 := pre.length + u.length) (q := pre.length + B.cps.toList.length) O W e3 hcode Cd hb hX hp3 hi3 hj3 hD3 hvu huv s2 fun b4 m4 l4 g4 hst4 => ?_
    refine cont b4 m4 (l3.trans l4) (fun y hy => ?_) hst4
    simp only [List.mem_cons, List.not_mem_nil, or_false, not_or] at hy
    obtain ⟨a1, a3, a4, a5, a6⟩ := hy
    exact (g4 y (by simp [a3, a4, a6])).trans (g3 y (by simp [a1, a3, a5]))
end
end Mine
end

section
open PySem PySem.W PySem.Calls PySem.Spec PyProof.Rows
set_option linter.unusedVariables false
namespace Mine
set_option maxRecDepth 100000
local macro_rules | `(tactic| walk_at "m") => `(tactic| ((repeat (rw [upd_ne (by decide)])); first | exact upd_eq _ _ _ | assumption))
local macro_rules | `(tactic| walk_at "k") => `(tactic| exact kd (by assumption) (by kernel_rfl))
local macro_rules | `(tactic| walk_at "loc") => `(tactic| exact Ev.loc (by assumption) (by walk_at "m") (by walk_at "k") (by decide))
local macro_rules | `(tactic| walk_at "locS") => `(tactic| exact Ev.locS (by assumption) ⟨_, (by walk_at "m")⟩ (by walk_at "k") (by decide))
local macro_rules | `(tactic| walk_at "bui") => `(tactic| exact Ev.boot (by assumption) (by assumption) (by kernel_rfl) (by kernel_rfl) (by decide) (by walk_at "k") (by decide))
local macro_rules | `(tactic| walk_at "top") => `(tactic| exact Ev.top (by assumption) (by assumption) (by kernel_rfl) (by walk_at "k") (by decide))
local macro_rules | `(tactic| walk_at "u") => `(tactic| with_unfolding_all rfl)
local macro_rules | `(tactic| walk_at "kc") => `(tactic| exact kdc (by assumption) (by kernel_rfl))
local macro_rules | `(tactic| walk_at "buic") => `(tactic| exact Ev.boot (by assumption) (by assumption) (by kernel_rfl) (by kernel_rfl) (by decide) (by walk_at "kc") (by decide))
noncomputable def patL : List Item → List Nat
  | [] => []
  | x :: r => x.1.cps.toList ++ patL r
noncomputable def patF (items : List Item) : Str := ⟨(patL items).toArray⟩
def PartIs2 (star : Addr) (v : Value) (p : Part) : Prop := match p with
  | none => v = .ref star
  | some x => IsS x v
theorem patL_len : ∀ (items : List Item), (∀ x ∈ items, x ∈ itemsT) → (patL items).length ≤ 6 * items.length
  | [], _ => Nat.le_refl _
  | x :: r, h => by
    have h1 : ∀ x ∈ itemsT, x.1.cps.toList.length ≤ 6 := by decide +kernel
    have h2 := h1 x (h x (.head _))
    have h3 := patL_len r fun y hy => h y (.tail _ hy)
    show (x.1.cps.toList ++ patL r).length ≤ _
    rw [List.length_append, List.length_cons]; omega
theorem patL_app : ∀ (a c : List Item), patL (a ++ c) = patL a ++ patL c
  | [], c => rfl
  | x :: r, c => by show x.1.cps.toList ++ patL (r ++ c) = (x.1.cps.toList ++ patL r) ++ patL c; rw [patL_app r c, List.append_assoc]
/-- a sign of the pattern -/
theorem pat_at {dn rest : List Item} {x : Item} {j c : Nat} (h : x.1.cps.toList[j]? = some c) : (patF (dn ++ x :: rest)).cps[(patL dn).length + j]? = some c := by
  have hj : j < x.1.cps.toList.length := (List.getElem?_eq_some_iff.mp h).1
  show (patL (dn ++ x :: rest)).toArray[(patL dn).length + j]? = _
  rw [List.getElem?_toArray, patL_app, List.getElem?_append_right (by omega)]
  have e : (patL dn).length + j - (patL dn).length = j := by omega
  rw [e]
  show (x.1.cps.toList ++ patL rest)[j]? = _
  rw [List.getElem?_append_left hj, h]
theorem patF_len (dn rest : List Item) (x : Item) : (patF (dn ++ x :: rest)).length = (patL dn).length + (x.1.cps.toList.length + (patL rest).length) := by
  show (patL (dn ++ x :: rest)).toArray.size = _
  rw [List.size_toArray, patL_app, List.length_append]
  show _ + (x.1.cps.toList ++ patL rest).length = _
  rw [List.length_append]
theorem transF_snoc (dn : List Item) (x : Item) : transF (dn ++ [x]) = addPart (transF dn) x.1 := by
  unfold transF; rw [List.foldl_append]; rfl
theorem head61 {w : World} {mg mb : Str → Option Value} {h : Heap} (W : Wd w mg mb h) : CodeHd h 61 57 :=
  ⟨_, _, _, _, _, _, _, _, _, W.X 61 _ rfl, rfl, rfl, rfl, rfl, rfl, rfl, rfl, rfl, by decide⟩
theorem all2_concat {α β : Type} {R : α → β → Prop} : ∀ {l : List α} {v : α} {l₂ : List β}, All2 R (l ++ [v]) l₂ → ∃ l₀ p, l₂ = l₀ ++ [p] ∧ All2 R l l₀ ∧ R v p
  | [], v, _, .cons h .nil => ⟨[], _, rfl, .nil, h⟩
  | a :: l, v, _, .cons h t => let ⟨l₀, p, e, q, r⟩ := all2_concat (l := l) t; ⟨_ :: l₀, p, by rw [e]; rfl, .cons h q, r⟩
inductive TInv (Γ : Fx Prg) (items : List Item) (star R M : Addr) (t1 t2 : Tok) (b₅ : Heap) (k : Nat) (s : Shared) : Prop
  | mk (dn rest : List Item) (m' : Str → Option Value) (b' : Heap) (ys : List Value) (n : Nat) (hit : items = dn ++ rest) (hk : rest.length = k) (lb : Le b₅ b') (hi' : ∃ t, m' ("i" : Str) = some (.int (patL dn).length t)) (hn' : ∃ t, m' ("n" : Str) = some (.int (patF items).length t)) (hp' : m' ("pat" : Str) = some (.str (patF items) t1)) (hst : m' ("STAR" : Str) = some (.ref star))
    (hq : m' ("QUESTION_MARK" : Str) = some (.str "." t2)) (hr : m' ("res" : Str) = some (.ref R)) (had : m' ("add" : Str) = some (.ref M)) (hy : All2 (fun v p => PartIs2 star v p) ys (transF dn)) (T : Γ.S b' m' [(R, lsN ys n)] s)
inductive TFin (Γ : Fx Prg) (items : List Item) (star R : Addr) (b₅ : Heap) (s : Shared) : Prop
  | mk (m' : Str → Option Value) (b' : Heap) (ys : List Value) (n : Nat) (lb : Le b₅ b') (hi' : ∃ t, m' ("i" : Str) = some (.int (patF items).length t)) (hn' : ∃ t, m' ("n" : Str) = some (.int (patF items).length t)) (hr : m' ("res" : Str) = some (.ref R)) (hy : All2 (fun v p => PartIs2 star v p) ys (transF items)) (T : Γ.S b' m' [(R, lsN ys n)] s)
theorem translate_spec {w : World} {mg mb : Str → Option Value} {dr : Dn} {os : OsState} {A : Around} {s : Shared} {E : Value → Shared → Prop} (C : Cs dr os A 1 s) (W : Wd w mg mb s.heap) {items : List Item} (hsub : ∀ x ∈ items, x ∈ itemsT) (hlen : items.length ≤ 3) {star : Addr} {t1 t2 : Tok} :
    wpAny (model Prg w) A (call (.ref 62) [.str (patF items) t1, .ref star, .str "." t2]) (fun r s' => Pur s s' ∧ ∃ D ys n, r = .ref D ∧ s.heap.get? D = none ∧ s'.heap.get? D = some (lsN ys n) ∧ All2 (fun v p => PartIs2 star v p) ys (transF items)) E s := by
  refine enter (fd := fdAt w 62) C (W.X 62 _ rfl) (by kernel_rfl) (codeRec_of W.X (by kernel_rfl)) W.lim rfl (binds := [("pat", .str (patF items) t1), ("STAR", .ref star), ("QUESTION_MARK", .str "." t2)]) (by kernel_rfl) rfl (by kernel_rfl) rfl rfl rfl rfl rfl ?_
  intro L b s₁ Γ e2 e3 e4 e5 e6 e7 e8 O hL S hc hn
  have W' : Wd w mg mb Γ.g := e5 ▸ W.hide
  subst e2 e6 e7
  have hm1 : (bindL (envF Γ.w 62 L).kindOf [("pat", .str (patF items) t1), ("STAR", .ref star), ("QUESTION_MARK", .str "." t2)] fun _ => none) "pat" = some (.str (patF items) t1) := by kernel_rfl
  have hm2 : (bindL (envF Γ.w 62 L).kindOf [("pat", .str (patF items) t1), ("STAR", .ref star), ("QUESTION_MARK", .str "." t2)] fun _ => none) "STAR" = some (.ref star) := by kernel_rfl
  have hm3 : (bindL (envF Γ.w 62 L).kindOf [("pat", .str (patF items) t1), ("STAR", .ref star), ("QUESTION_MARK", .str "." t2)] fun _ => none) "QUESTION_MARK" = some (.str "." t2) := by kernel_rfl
  generalize bindL (envF Γ.w 62 L).kindOf [("pat", .str (patF items) t1), ("STAR", .ref star), ("QUESTION_MARK", .str "." t2)] (fun _ => none) = m at S hm1 hm2 hm3
  with_reducible refine Xs.go S ?_
  with_reducible refine Xs.asgNil O ?_ ?_ (fun R => ?_)
  · walk_at "k"
  · rw [e3]; walk_at "u"
  intro s₂ E₂ T₂
  have hkl : ∀ x k, (x, k) ∈ ([("res", .local), ("add", .local), ("i", .local), ("n", .local), ("pat", .local)] : List (Str × NameKind)) → Γ.env.kindOf x = some k := by
    intro x k hx
    simp only [List.mem_cons, List.not_mem_nil, or_false, Prod.mk.injEq] at hx
    rcases hx with ⟨rfl, rfl⟩ | ⟨rfl, rfl⟩ | ⟨rfl, rfl⟩ | ⟨rfl, rfl⟩ | ⟨rfl, rfl⟩ <;> walk_at "k"
  refine wpAny_execs_cons ?_
  with_reducible refine wpAny_Assign_Name ?_ ?_
  rotate_left
  · rw [e3]; walk_at "u"
  refine Attribute_name (Ev.use (Γ := Γ) (P := IsV (.ref R)) (Ev.loc O (upd_eq _ _ _) (hkl _ _ (by simp)) (by decide)) T₂ fun v s₃ hv T₃ => ?_)
  obtain rfl : v = .ref R := hv
  obtain ⟨h₃, g₃, d₃, tk₃, os₃⟩ := s₃
  refine get_append (T₃.ow (R, _) (.head _)) fun h' M tk' l e1 e0 => ?_
  have hnM := T₃.notin e0
  obtain ⟨b₄, l₄, hM, T₄⟩ := St.adopt (Γ := Γ) (T₃.heap (tk := tk') l) hnM e1
  refine stores (Γ := Γ) O T₄ (hkl _ _ (by simp)) fun s₅ T₅ => ?_
  have hplen : (patF items).length ≤ 100 := by
    have := patL_len items hsub
    show (patL items).toArray.size ≤ 100
    rw [List.size_toArray]; omega
  with_reducible refine Xs.go T₅ ?_
  with_reducible refine Xs.asg2 O (P := fun _ u v => IsI 0 u ∧ IsI (patF items).length v) ?_ (hkl _ _ (by simp)) (hkl _ _ (by simp)) ?_ ?_ (fun b₅ u v l₅ hp => ?_)
  · refine Args.cons (P := fun _ v => IsI 0 v) (Ev.ei (P := fun _ v => IsI 0 v) Ev.int) (fun b' v l hv => Args.cons (P := fun _ v => IsI (patF items).length v) (Ev.ei (P := fun _ v => IsI (patF items).length v) (Ev.call1 (by walk_at "bui") (.bui "len") (Ev.locS O ⟨_, by walk_at "m"⟩ (hkl _ _ (by simp)) (by decide)) fun x hx => cev_lenS (by omega) hx)) (fun b'' v' l' hv' => Args.nil.mono fun b3 vs l3 h => ?_) (by rfl)) (by rfl)
    obtain ⟨rfl, rfl⟩ := h
    exact ⟨v, v', rfl, hv, hv'⟩
  · rw [e3]; walk_at "u"
  · rw [e3]; walk_at "u"
  obtain ⟨hu, hv⟩ := hp
  have hM' := l₅ _ _ hM
  obtain ⟨tu, rfl⟩ := hu
  obtain ⟨tv, rfl⟩ := hv
  intro s₆ E₆ T₆
  refine wpWhile (Γ := Γ) (TInv Γ items star R M t1 t2 b₅) (TFin Γ items star R b₅) ?_ items.length
    ⟨[], items, _, b₅, [], 0, rfl, rfl, Le.refl _, ⟨_, upd_eq _ _ _⟩, ⟨_, by rw [upd_ne (by decide), upd_eq]⟩, by walk_at "m", by walk_at "m", by walk_at "m", by walk_at "m", by walk_at "m", .nil, T₆⟩ ?_
  · rintro k s E ⟨dn, rest, m', b', ys, n, hit, hk, lb, hi', hn', hp', hst, hq, hr, had, hy, T⟩
    have hlenP : ((patF items).length : Int) = ((patL dn).length : Int) + ((patL rest).length : Int) := by
      have : (patF items).length = (patL items).length := by show (patL items).toArray.size = _; simp
      have e : ∀ a c : List Item, patL (a ++ c) = patL a ++ patL c := by
        intro a c
        induction a with
        | nil => rfl
        | cons x r ih => show x.1.cps.toList ++ patL (r ++ c) = (x.1.cps.toList ++ patL r) ++ patL c; rw [ih, List.append_assoc]
      rw [this, hit, e, List.length_append]; push_cast; rfl
    refine Tv.use (Γ := Γ) (m := m') (b := b') (c := decide (((patL dn).length : Int) < ((patF items).length : Int))) (Tv.cmp cop_ltI (Ev.locI O hi' (hkl _ _ (by simp)) (by decide)) (Ev.locI O hn' (hkl _ _ (by simp)) (by decide)) (by walk_at "u")) T fun s₇ T₇ => ?_
    cases rest with
    | nil =>
      have e0 : ((patF items).length : Int) = ((patL dn).length : Int) := by rw [hlenP]; simp [patL]
      rw [if_neg (by simp [e0])]
      rw [List.append_nil] at hit
      subst hit
      refine ⟨m', b', ys, n, lb, ?_, hn', hr, hy, T₇⟩
      obtain ⟨t, e⟩ := hi'
      exact ⟨t, by rw [e, e0]⟩
    | cons x rest =>
      subst hit
      have hxi : x ∈ itemsT := hsub x (by simp)
      rw [if_pos (by
        have h1 : ∀ x ∈ itemsT, 0 < x.1.cps.toList.length := by decide +kernel
        have h2 := h1 x hxi
        rw [patF_len]
        exact decide_eq_true (by omega))]
      obtain ⟨c0, hc0⟩ : ∃ c0, x.1.cps.toList[0]? = some c0 := by
        have h1 : ∀ x ∈ itemsT, x.1.cps.toList[0]?.isSome = true := by decide +kernel
        exact Option.isSome_iff_exists.mp (h1 x hxi)
      have hat := pat_at (dn := dn) (rest := rest) hc0
      have hkl2 : ∀ x k, (x, k) ∈ ([("c", .local), ("STAR", .local), ("QUESTION_MARK", .local), ("j", .local), ("stuff", .local), ("k", .local), ("chunk", .local), ("chunks", .local)] : List (Str × NameKind)) → Γ.env.kindOf x = some k := by
        intro x k hx
        simp only [List.mem_cons, List.not_mem_nil, or_false, Prod.mk.injEq] at hx
        rcases hx with ⟨rfl, rfl⟩ | ⟨rfl, rfl⟩ | ⟨rfl, rfl⟩ | ⟨rfl, rfl⟩ | ⟨rfl, rfl⟩ | ⟨rfl, rfl⟩ | ⟨rfl, rfl⟩ | ⟨rfl, rfl⟩ <;> walk_at "k"
      with_reducible refine Xs.go T₇ ?_
      with_reducible refine Xs.asg O (P := fun _ v => IsS ⟨#[c0]⟩ v) ?_ (hkl2 _ _ (by simp)) ?_ (fun b8 vc l8 hvc => ?_)
      · exact Ev.ei (P := fun _ v => IsS ⟨#[c0]⟩ v) (Ev.itemS (Ev.locS O ⟨_, hp'⟩ (hkl _ _ (by simp)) (by decide)) (Ev.locI O hi' (hkl _ _ (by simp)) (by decide)) (by omega) (by simpa using hat) (by omega) (fun _ _ => by walk_at "u") (fun _ _ => by walk_at "u"))
      · rw [e3]; walk_at "u"
      obtain ⟨tc, rfl⟩ := hvc
      have hi8 : ∃ t, upd m' ("c" : Str) (.str ⟨#[c0]⟩ tc) ("i" : Str) = some (.int (patL dn).length t) := by
        obtain ⟨t, e⟩ := hi'
        exact ⟨t, by rw [upd_ne (by decide)]; exact e⟩
      with_reducible refine Xs.asg O (P := fun _ v => IsI ((patL dn).length + 1) v) ?_ (hkl _ _ (by simp)) ?_ (fun b9 vi l9 hvi => ?_)
      · exact Ev.ei (P := fun _ v => IsI ((patL dn).length + 1) v) (Ev.bin bop_addI (Ev.locI O hi8 (hkl _ _ (by simp)) (by decide)) Ev.int)
      · rw [e3]; walk_at "u"
      obtain ⟨ti, rfl⟩ := hvi
      generalize hm9 : upd (upd m' ("c" : Str) (.str ⟨#[c0]⟩ tc)) ("i" : Str) (.int (↑(patL dn).length + 1) ti) = m9
      have g9 : ∀ {y v}, y ≠ ("c" : Str) → y ≠ ("i" : Str) → m' y = some v → m9 y = some v := fun h1 h2 e => by rw [← hm9, upd_ne h2, upd_ne h1]; exact e
      have c9 : m9 ("c" : Str) = some (.str ⟨#[c0]⟩ tc) := by rw [← hm9, upd_ne (by decide), upd_eq]
      have i9 : m9 ("i" : Str) = some (.int (↑(patL dn).length + 1) ti) := by rw [← hm9, upd_eq]
      have cT : ∀ (z : Str) (r : Bool) {k p1 p2 p3}, decide ((⟨#[c0]⟩ : Str) = z) = r → Tv Γ b9 m9 [(R, lsN ys n)] (.Compare (.Name "c" p1) [.Eq] [.Constant (.str z) k p2] p3) r := by
        intro z r k p1 p2 p3 e
        have := Tv.cmp (Γ := Γ) (b := b9) (m := m9) (own := [(R, lsN ys n)]) (pos := p3) (l := .Name "c" p1) (cop_eqS (x := ⟨#[c0]⟩) (y := z)) (Ev.locS O ⟨_, c9⟩ (hkl2 ("c" : Str) .local (by simp)) (by decide)) (Ev.str (x := z) (k := k) (pos := p2)) (by rfl)
        rw [e] at this
        exact this
      have hM9 : b9.get? M = some (bmObj "list.append" R) := l9 _ _ (l8 _ _ (lb _ _ hM'))
      have hyl : ys.length ≤ 1000 := by
        have h1 := hy.length
        have h2 : ∀ (a : List Item) (acc : List Part), (a.foldl (fun acc x => addPart acc x.1) acc).length ≤ acc.length + a.length := by
          intro a
          induction a with
          | nil => intro acc; exact Nat.le_refl _
          | cons z r ih =>
            intro acc
            refine Nat.le_trans (ih _) ?_
            have : (addPart acc z.1).length ≤ acc.length + 1 := by
              unfold addPart
              split
              · split <;> simp
              · simp
            show (addPart acc z.1).length + r.length ≤ acc.length + (r.length + 1)
            omega
        have h3 := h2 dn []
        have h4 : (dn ++ x :: rest).length = dn.length + (rest.length + 1) := by simp
        have h5 : (transF dn).length ≤ 0 + dn.length := h3
        omega
      have hadd9 : m9 ("add" : Str) = some (.ref M) := g9 (by decide) (by decide) had
      have fin1 : ∀ {m10 : Str → Option Value} {ys' : List Value} {n' : Nat} {s' : Shared}, x.1.cps.toList.length = 1 → m10 = m9 → All2 (fun v p => PartIs2 star v p) ys' (addPart (transF dn) x.1) → Γ.S b9 m10 [(R, lsN ys' n')] s' →
          ∃ k', k' < k ∧ TInv Γ (dn ++ x :: rest) star R M t1 t2 b₅ k' s' := by
        rintro m10 ys' n' s' h1 rfl hy' T'
        refine ⟨rest.length, by rw [← hk]; simp, dn ++ [x], rest, _, b9, ys', n', by simp, rfl, lb.trans (l8.trans l9), ⟨ti, ?_⟩, ?_, g9 (by decide) (by decide) hp', g9 (by decide) (by decide) hst, g9 (by decide) (by decide) hq, g9 (by decide) (by decide) hr, hadd9, by rw [transF_snoc]; exact hy', T'⟩
        · rw [i9, patL_app]
          have e1 : (patL dn ++ patL [x]).length = (patL dn).length + 1 := by
            rw [List.length_append]
            show _ + (x.1.cps.toList ++ []).length = _
            rw [List.append_nil, h1]
          rw [e1]; rfl
        · obtain ⟨t, e⟩ := hn'
          exact ⟨t, g9 (by decide) (by decide) e⟩
      by_cases hq1 : x.1 = "?"
      · have hc63 : (⟨#[c0]⟩ : Str) = "?" := by
          rw [hq1] at hc0
          have e : ("?" : Str).cps.toList[0]? = some 63 := by decide +kernel
          rw [e] at hc0
          cases hc0
          decide +kernel
        with_reducible refine Xs.ifF (cT "*" false (by rw [hc63]; decide +kernel)) ?_
        with_reducible refine Xs.ifT (cT "?" true (by rw [hc63]; decide +kernel)) ?_
        intro sA EA TA
        refine wpAny_execs_cons ?_
        with_reducible refine wpAny_Expr_any ?_ ?_ ?_
        rotate_left
        · rw [e3]; walk_at "u"
        · rw [e3]; walk_at "u"
        refine addCall (Γ := Γ) (P := IsV (.str "." t2)) TA (Ev.loc O hadd9 (hkl _ _ (by simp)) (by decide)) hM9 (Ev.loc O (g9 (by decide) (by decide) hq) (hkl2 _ _ (by simp)) (by decide)) hyl (fun v sB hv TB => ?_)
        refine wpAny_execs_nil fun E => wpAny_execs_nil fun E => wpAny_execs_nil ?_
        refine fin1 (by rw [hq1]; decide +kernel) rfl ?_ TB
        unfold addPart
        rw [if_neg (by rw [hq1]; decide +kernel)]
        refine hy.snoc ?_
        rw [hq1, show v = _ from hv]
        exact ⟨t2, congrArg (Value.str · t2) (by decide +kernel)⟩
      by_cases hq2 : x.1 = "a" ∨ x.1 = "b" ∨ x.1 = "-" ∨ x.1 = " "
      · have hfacts : (⟨#[c0]⟩ : Str) = x.1 ∧ escF x.1 = some (pieceF x.1) ∧ x.1 ≠ "*" ∧ x.1 ≠ "?" ∧ x.1 ≠ "[" ∧ x.1.cps.toList.length = 1 := by
          have h1 : ∀ z ∈ ([("a" : Str), "b", "-", " "] : List Str), (z.cps.toList[0]?.map fun c => (⟨#[c]⟩ : Str)) = some z ∧ escF z = some (pieceF z) ∧ z ≠ "*" ∧ z ≠ "?" ∧ z ≠ "[" ∧ z.cps.toList.length = 1 := by decide +kernel
          have h2 := h1 x.1 (by rcases hq2 with h | h | h | h <;> simp [h])
          rw [hc0] at h2
          exact ⟨Option.some.inj h2.1, h2.2⟩
        obtain ⟨hcx, hesc, ns, nq, nb, hl1⟩ := hfacts
        with_reducible refine Xs.ifF (cT "*" false (by rw [hcx]; exact decide_eq_false ns)) ?_
        with_reducible refine Xs.ifF (cT "?" false (by rw [hcx]; exact decide_eq_false nq)) ?_
        with_reducible refine Xs.ifF (cT "[" false (by rw [hcx]; exact decide_eq_false nb)) ?_
        intro sA EA TA
        refine wpAny_execs_cons ?_
        with_reducible refine wpAny_Expr_any ?_ ?_ ?_
        rotate_left
        · rw [e3]; walk_at "u"
        · rw [e3]; walk_at "u"
        refine addCall (Γ := Γ) (P := IsS (pieceF x.1)) TA (Ev.loc O hadd9 (hkl _ _ (by simp)) (by decide)) hM9 ?_ hyl (fun v sB hv TB => ?_)
        · refine Ev.call1 (P := IsS x.1) (f := .ref 55) (by walk_at "top") (.dfn 55 _ (fdAt Γ.w 55) (TA.gr _ _ (W'.X 55 _ rfl)) rfl) (Ev.locS O ⟨_, c9.trans (by rw [hcx])⟩ (hkl2 _ _ (by simp)) (by decide)) fun u hu => ?_
          obtain ⟨tu', rfl⟩ := hu
          refine cev_pur fun sC EC TC => escape_spec (TC.cs O (n := 0) (by have := C.depth; rw [e8]; show A.depth + 1 + 21 + 0 < _; omega) (by have := C.units; rw [e8]; show A.units + 3 + 103 + 4 * 0 < _; omega)) (W'.mono (TC.gr.trans TC.keep)) hesc
        refine wpAny_execs_nil fun E => wpAny_execs_nil fun E => wpAny_execs_nil fun E => wpAny_execs_nil ?_
        refine fin1 hl1 rfl ?_ TB
        unfold addPart
        rw [if_neg ns]
        exact hy.snoc hv
      by_cases hq3 : x.1 = "*"
      · have hc42 : (⟨#[c0]⟩ : Str) = "*" := by
          rw [hq3] at hc0
          have e : ("*" : Str).cps.toList[0]? = some 42 := by decide +kernel
          rw [e] at hc0
          cases hc0
          decide +kernel
        with_reducible refine Xs.ifT (cT "*" true (by rw [hc42]; decide +kernel)) ?_
        have hres : ∀ p, Ev Γ b9 m9 [(R, lsN ys n)] (.Name "res" p) (IsV (.ref R)) := fun p => Ev.loc O (g9 (by decide) (by decide) hr) (hkl _ _ (by simp)) (by decide)
        have hstar : ∀ p, Ev Γ b9 m9 [(R, lsN ys n)] (.Name "STAR" p) (IsV (.ref star)) := fun p => Ev.loc O (g9 (by decide) (by decide) hst) (hkl2 _ _ (by simp)) (by decide)
        have hl1 : x.1.cps.toList.length = 1 := by rw [hq3]; decide +kernel
        rcases List.eq_nil_or_concat ys with rfl | ⟨ys0, v, hys⟩
        · have htn : transF dn = [] := by cases h : transF dn with
            | nil => rfl
            | cons a r => rw [h] at hy; cases hy
          with_reducible refine Xs.ifT (Tw.tv (Tw.orT (Tv.not (c := false) ?_))) ?_
          · have : ∀ p, Tv Γ b9 m9 [(R, lsN ([] : List Value) n)] (.Name "res" p) false := fun p => Tv.lstOwn (Γ := Γ) (b := b9) (m := m9) (own := [(R, lsN ([] : List Value) n)]) (hres p) (.head _) (by simp) (fun _ => by rfl)
            exact this _
          with_reducible refine Xs.addS (Γ := Γ) (P := IsV (.ref star)) (Ev.loc O hadd9 (hkl _ _ (by simp)) (by decide)) hM9 (hstar _) hyl ?_ ?_ ?_ ?_ (fun v hv => ?_)
          · rw [e3]; walk_at "u"
          · rw [e3]; walk_at "u"
          · rfl
          · rfl
          refine Xs.nil fun sB TB => fun E1 => wpAny_execs_nil fun E2 => wpAny_execs_nil ?_
          refine fin1 hl1 rfl ?_ TB
          unfold addPart
          rw [if_pos hq3, if_neg (by rw [htn]; simp)]
          exact hy.snoc hv
        · rw [List.concat_eq_append] at hys
          subst hys
          obtain ⟨ps0, p, hps, hy0, hvp⟩ := all2_concat hy
          have hlen0 : ys0.length ≤ 1000 := by rw [List.length_append] at hyl; omega
          have hlen1 : (ys0 ++ [v]).length ≤ 1000 := hyl
          have hnot : ∀ p p2, Tv Γ b9 m9 [(R, lsN (ys0 ++ [v]) n)] (.UnaryOp .Not (.Name "res" p) p2) false := fun p p2 => by
            have := Tv.not (pos := p2) (Tv.lstOwn (Γ := Γ) (b := b9) (m := m9) (own := [(R, lsN (ys0 ++ [v]) n)]) (hres p) (.head _) hyl (fun _ => by rfl))
            simpa using this
          have hit1 : ∀ p p2 p3 p4 k, Ev Γ b9 m9 [(R, lsN (ys0 ++ [v]) n)] (.Subscript (.Name "res" p) (.UnaryOp .USub (.Constant (.int 1) k p2) p3) p4) (IsV v) := fun p p2 p3 p4 k =>
            Ev.itemOwnN (.head _) (hres p) (Ev.neg Ev.int) hlen0 (fun _ => by rfl) (fun _ => by rfl)
          cases p with
          | none =>
            obtain rfl : v = .ref star := hvp
            with_reducible refine Xs.ifF ?_ ?_
            · exact Tw.tv (Tw.orF (hnot _ _) (Tw.orF (Tv.cmp cop_isnot_same (hit1 _ _ _ _ _) (hstar _) (by rfl)) Tw.orN))
            refine Xs.nil fun sB TB => fun E1 => wpAny_execs_nil fun E2 => wpAny_execs_nil ?_
            refine fin1 hl1 rfl ?_ TB
            unfold addPart
            rw [if_pos hq3, if_pos (by rw [hps]; simp)]
            exact hy
          | some z =>
            with_reducible refine Xs.ifT ?_ ?_
            · exact Tw.tv (Tw.orF (hnot _ _) (Tw.orT (Tv.cmp (cop_isnot_sr (x := z)) ((hit1 _ _ _ _ _).mono fun u hu => by
                obtain rfl : u = v := hu
                exact hvp) (hstar _) (by rfl))))
            with_reducible refine Xs.addS (Γ := Γ) (P := IsV (.ref star)) (Ev.loc O hadd9 (hkl _ _ (by simp)) (by decide)) hM9 (hstar _) hyl ?_ ?_ ?_ ?_ (fun v hv => ?_)
            · rw [e3]; walk_at "u"
            · rw [e3]; walk_at "u"
            · rfl
            · rfl
            refine Xs.nil fun sB TB => fun E1 => wpAny_execs_nil fun E2 => wpAny_execs_nil ?_
            refine fin1 hl1 rfl ?_ TB
            unfold addPart
            rw [if_pos hq3, if_neg (by rw [hps]; simp)]
            exact hy.snoc hv
      have hbr : ∃ B res, (B, res, pieceF x.1) ∈ brT ∧ x.1.cps.toList = 91 :: (B.cps.toList ++ [93]) := by
        have h1 : ∀ z ∈ itemsT, z.1 = "?" ∨ (z.1 = "a" ∨ z.1 = "b" ∨ z.1 = "-" ∨ z.1 = " ") ∨ z.1 = "*" ∨ z.1 ∈ ([("[*]" : Str), "[?]", "[!a]", "[a-c]", "[c-a]", "[!c-a]"] : List Str) := by decide +kernel
        rcases h1 x hxi with h | h | h | h
        · exact absurd h hq1
        · exact absurd h hq2
        · exact absurd h hq3
        · simp only [List.mem_cons, List.not_mem_nil, or_false] at h
          rcases h with h | h | h | h | h | h
          · rw [h]; exact ⟨"*", "*", by decide +kernel⟩
          · rw [h]; exact ⟨"?", "?", by decide +kernel⟩
          · rw [h]; exact ⟨"!a", "!a", by decide +kernel⟩
          · rw [h]; exact ⟨"a-c", "a-c", by decide +kernel⟩
          · rw [h]; exact ⟨"c-a", "", by decide +kernel⟩
          · rw [h]; exact ⟨"!c-a", "!", by decide +kernel⟩
      obtain ⟨B, res, hBT, hxB⟩ := hbr
      have hc91 : (⟨#[c0]⟩ : Str) = "[" := by
        rw [hxB] at hc0
        cases hc0
        decide +kernel
      with_reducible refine Xs.ifF (cT "*" false (by rw [hc91]; decide +kernel)) ?_
      with_reducible refine Xs.ifF (cT "?" false (by rw [hc91]; decide +kernel)) ?_
      with_reducible refine Xs.ifT (cT "[" true (by rw [hc91]; decide +kernel)) ?_
      have hpl : (patL dn ++ [91]).length = (patL dn).length + 1 := by simp
      refine brAll (X := patF (dn ++ x :: rest)) (pre := patL dn ++ [91]) (post := patL rest) (B := B) (res := res) (piece := pieceF x.1) (own := []) O W' e3 (c := 61) (by rw [e3]; rfl) (head61 W') W'.bat hplen (g9 (by decide) (by decide) hp') ⟨ti, by rw [i9, hpl]; rfl⟩ (let ⟨t, e⟩ := hn'; ⟨t, g9 (by decide) (by decide) e⟩) hBT ?_ hadd9 hM9 hyl (fun b10 m10 v l10 g10 hi10 hv => ?_)
      · show (patL (dn ++ x :: rest)).toArray.toList = _
        rw [patL_app]
        show patL dn ++ (x.1.cps.toList ++ patL rest) = _
        rw [hxB]; simp
      refine Xs.nil fun sB TB => fun E1 => wpAny_execs_nil fun E2 => wpAny_execs_nil fun E3 => wpAny_execs_nil ?_
      refine ⟨rest.length, by rw [← hk]; simp, dn ++ [x], rest, m10, b10, ys ++ [v], n + 1, by simp, rfl, lb.trans (l8.trans (l9.trans l10)), ?_, ?_, (g10 _ (by decide)).trans (g9 (by decide) (by decide) hp'), (g10 _ (by decide)).trans (g9 (by decide) (by decide) hst), (g10 _ (by decide)).trans (g9 (by decide) (by decide) hq), (g10 _ (by decide)).trans (g9 (by decide) (by decide) hr), (g10 _ (by decide)).trans hadd9, ?_, TB⟩
      · obtain ⟨t, e⟩ := hi10
        refine ⟨t, ?_⟩
        rw [e, patL_app]
        have e1 : (patL dn ++ patL [x]).length = (patL dn ++ [91]).length + B.cps.toList.length + 1 := by
          rw [List.length_append]
          show _ + (x.1.cps.toList ++ []).length = _
          rw [List.append_nil, hxB]; simp; omega
        rw [e1]
      · obtain ⟨t, e⟩ := hn'
        exact ⟨t, (g10 _ (by decide)).trans (g9 (by decide) (by decide) e)⟩
      · rw [transF_snoc]
        unfold addPart
        rw [if_neg hq3]
        exact hy.snoc hv
  · rintro s ⟨m', b', ys, n, lb, hi', hn', hr, hy, T⟩
    refine wpAny_execs_cons (wpAny_Assert_holds (Tv.use (Γ := Γ) (m := m') (b := b') (c := (((patF items).length : Int) == ((patF items).length : Int))) (Tv.cmp cop_eqI (Ev.locI O hi' (hkl _ _ (by simp)) (by decide)) (Ev.locI O hn' (hkl _ _ (by simp)) (by decide)) (by walk_at "u")) T fun s₇ T₇ => ⟨by simp, ?_⟩))
    refine Xs.go T₇ ?_
    with_reducible refine Xs.ret (P := fun _ v => v = .ref R) (Ev.ei (P := fun _ v => v = .ref R) (Ev.loc O hr (hkl _ _ (by simp)) (by decide))) ?_
    rintro b'' v s₈ lb' rfl T₈
    have nR := newD (Γ := Γ) (Le.refl _) T₈
    have l0 : Le b b'' := fun a o e => lb' _ _ (lb _ _ (l₅ _ _ (l₄ _ _ e)))
    refine ⟨fxLeave T₈ C.dr C.os e5, R, ys, n, rfl, freshIn e5 ⟨_, _, _, S⟩ ?_ nR.2, T₈.ow (R, _) (.head _), hy⟩
    cases q : b.get? R with
    | none => rfl
    | some o => rw [l0 _ _ q] at nR; cases nR.1
end Mine
end

section
open PySem PySem.W PySem.Calls PySem.Spec PyProof.Rows
set_option linter.unusedVariables false
namespace Mine
set_option maxRecDepth 100000
set_option maxHeartbeats 4000000
local macro_rules | `(tactic| walk_at "m") => `(tactic| ((repeat (rw [upd_ne (by decide)])); first | exact upd_eq _ _ _ | assumption))
local macro_rules | `(tactic| walk_at "k") => `(tactic| exact kd (by assumption) (by kernel_rfl))
local macro_rules | `(tactic| walk_at "loc") => `(tactic| exact Ev.loc (by assumption) (by walk_at "m") (by walk_at "k") (by decide))
local macro_rules | `(tactic| walk_at "locS") => `(tactic| exact Ev.locS (by assumption) ⟨_, (by walk_at "m")⟩ (by walk_at "k") (by decide))
local macro_rules | `(tactic| walk_at "bui") => `(tactic| exact Ev.boot (by assumption) (by assumption) (by kernel_rfl) (by kernel_rfl) (by decide) (by walk_at "k") (by decide))
local macro_rules | `(tactic| walk_at "top") => `(tactic| exact Ev.top (by assumption) (by assumption) (by kernel_rfl) (by walk_at "k") (by decide))
local macro_rules | `(tactic| walk_at "u") => `(tactic| with_unfolding_all rfl)
local macro_rules | `(tactic| walk_at "kc") => `(tactic| exact kdc (by assumption) (by kernel_rfl))
local macro_rules | `(tactic| walk_at "buic") => `(tactic| exact Ev.boot (by assumption) (by assumption) (by kernel_rfl) (by kernel_rfl) (by decide) (by walk_at "kc") (by decide))
/-- the parts that arise -/
def partT : List Str := [".", "a", "b", "[*]", "[?]", "\\-", "\\ ", "[^a]", "[a-c]", "(?!)"]
theorem piece_part {x : Item} (h : x ∈ itemsT) (hs : x.1 ≠ "*") : pieceF x.1 ∈ partT := by
  have : ∀ x ∈ itemsT, x.1 ≠ "*" → pieceF x.1 ∈ partT := by decide +kernel
  exact this x h hs
theorem trans_parts : ∀ (items : List Item) (acc : List Part), (∀ x ∈ items, x ∈ itemsT) → (∀ p ∈ acc, p = none ∨ ∃ x ∈ partT, p = some x) → ∀ p ∈ items.foldl (fun acc x => addPart acc x.1) acc, p = none ∨ ∃ x ∈ partT, p = some x
  | [], acc, _, h => h
  | x :: r, acc, hs, h => by
    refine trans_parts r _ (fun y hy => hs y (.tail _ hy)) ?_
    intro p hp
    have hp : p ∈ addPart acc x.1 := hp
    unfold addPart at hp
    by_cases hq : x.1 = "*"
    · rw [if_pos hq] at hp
      split at hp
      · exact h p hp
      · rcases List.mem_append.mp hp with hp | hp
        · exact h p hp
        · exact .inl (List.mem_singleton.mp hp)
    · rw [if_neg hq] at hp
      rcases List.mem_append.mp hp with hp | hp
      · exact h p hp
      · exact .inr ⟨_, piece_part (hs x (.head _)) hq, List.mem_singleton.mp hp⟩
/-- of a part in brackets -/
theorem part_facts {x : Str} (h : x ∈ partT) : ∃ c0, x.cps[0]? = some c0 ∧ x.length ≤ 100 ∧
    ((decide ((⟨#[c0]⟩ : Str) = "[") = true ∧ ∃ c1 sm barred body c2, x.cps[1]? = some c1 ∧ decide ((⟨#[c1]⟩ : Str) = "^") = barred ∧ StrLaws.sliceText x (some (if barred then 2 else 1)) (some (-1)) = body ∧ StrLaws.sliceText body (some 1) (some 2) = c2 ∧ sigF x = some (sm, barred) ∧ body.length ≤ 100 ∧
        ((decide (c2 = "-") = false ∧ body = sm) ∨ (decide (c2 = "-") = true ∧ body.cps[0]? = some 97 ∧ body.cps[2]? = some 99 ∧ sm = "abc"))) ∨
     (decide ((⟨#[c0]⟩ : Str) = "[") = false ∧ ((x = "(?!)" ∧ sigF x = none) ∨ (x ≠ "(?!)" ∧ ((x = "." ∧ sigF x = some (("" : Str), true)) ∨ (x ≠ "." ∧ ∃ c, x.cps[x.length - 1]? = some c ∧ sigF x = some (⟨#[c]⟩, false))))))) := by
  simp only [partT, List.mem_cons, List.not_mem_nil, or_false] at h
  rcases h with rfl | rfl | rfl | rfl | rfl | rfl | rfl | rfl | rfl | rfl
  · exact ⟨46, by decide +kernel, by decide +kernel, .inr (by decide +kernel)⟩
  · exact ⟨97, by decide +kernel, by decide +kernel, .inr ⟨by decide +kernel, .inr ⟨by decide +kernel, .inr ⟨by decide +kernel, 97, by decide +kernel⟩⟩⟩⟩
  · exact ⟨98, by decide +kernel, by decide +kernel, .inr ⟨by decide +kernel, .inr ⟨by decide +kernel, .inr ⟨by decide +kernel, 98, by decide +kernel⟩⟩⟩⟩
  · exact ⟨91, by decide +kernel, by decide +kernel, .inl ⟨by decide +kernel, 42, "*", false, "*", "", by decide +kernel⟩⟩
  · exact ⟨91, by decide +kernel, by decide +kernel, .inl ⟨by decide +kernel, 63, "?", false, "?", "", by decide +kernel⟩⟩
  · exact ⟨92, by decide +kernel, by decide +kernel, .inr ⟨by decide +kernel, .inr ⟨by decide +kernel, .inr ⟨by decide +kernel, 45, by decide +kernel⟩⟩⟩⟩
  · exact ⟨92, by decide +kernel, by decide +kernel, .inr ⟨by decide +kernel, .inr ⟨by decide +kernel, .inr ⟨by decide +kernel, 32, by decide +kernel⟩⟩⟩⟩
  · exact ⟨91, by decide +kernel, by decide +kernel, .inl ⟨by decide +kernel, 94, "a", true, "a", "", by decide +kernel⟩⟩
  · exact ⟨91, by decide +kernel, by decide +kernel, .inl ⟨by decide +kernel, 97, "abc", false, "a-c", "-", by decide +kernel⟩⟩
  · exact ⟨40, by decide +kernel, by decide +kernel, .inr ⟨by decide +kernel, .inl (by decide +kernel)⟩⟩
section
variable {Γ : Fx Prg} {b : Heap} {m : Str → Option Value} {own : List (Addr × Obj)}
theorem Tv.ofB {e : Expr} {c : Bool} (he : Ev Γ b m own e (IsB c)) (hp : ∀ whole, isTrue e Γ.env whole = (do let v ← whole; standAt e.pos; holding [v] (truthy v))) : Tv Γ b m own e c := fun s E T => isTrue_plain (he.use T fun v s₁ hv T₁ => by
  obtain rfl : v = .bool c := hv
  exact wpAny_truthy_bool ⟨rfl, T₁⟩) (hp _)
theorem cev_ord {c : Nat} {v : Value} (hv : IsS ⟨#[c]⟩ v) : Cev Γ b m own (.builtin "ord") [v] (IsI c) := by
  obtain ⟨t, rfl⟩ := hv
  exact fun s E T => PySem.P.ord_of_char ⟨⟨_, rfl⟩, T.toks⟩
theorem cev_chr {i : Int} {v : Value} (h0 : 0 ≤ i) (h1 : i ≤ 1000) (hv : IsI i v) : Cev Γ b m own (.builtin "chr") [v] (IsS ⟨#[i.toNat]⟩) := by
  obtain ⟨t, rfl⟩ := hv
  exact fun s E T => PySem.P.chr_of_int (by rw [decide_eq_false (by omega), decide_eq_false (by omega)]; rfl) ⟨⟨_, rfl⟩, T.toks⟩
/-- sep.join(xs) of a list that is made here -/
theorem Ei.joinE {o e : Expr} {ap pos : Pos} {sep : Str} {xs : List Str} (ho : Ev Γ b m own o (IsS sep)) (he : Ei Γ b m own e (fun b' v => ∃ D ys, v = .ref D ∧ b'.IsList D ys.toArray ∧ All2 (fun v x => IsS x v) ys xs)) (hok : (xs.map (·.length)).sum + xs.length * sep.length ≤ 16777216)
    (hbase : attributeBase o "join" Γ.env (eval o Γ.env) = eval o Γ.env) (hfew : ((backTo pos (starEach [e] Γ.env)).all (fun x => !x.1) && (backToKw pos (keywordEach [] Γ.env)).all (fun x => x.1.isSome) && decide ([e].length + ([] : List Keyword).length + (if ([] : List Keyword).isEmpty then 0 else 1) < 30)) = true)
    (hline : (ap.endLine == pos.line) = true) (hs : starEach [e] Γ.env = (false, eval e Γ.env) :: starEach [] Γ.env) : Ev Γ b m own (.Call (.Attribute o "join" ap) [e] [] pos) (IsS (Txt.join sep xs)) := by
  refine Ei.toEv fun s E T => ?_
  refine wpAny_Call_method hbase hfew hline F.plainAttrs_str F.slot_str_join F.type_str_join (ho.use T fun v s₁ hv T₁ => ?_)
  obtain ⟨t, rfl⟩ := hv
  refine ⟨typeIs_str _ _ _, fun a q => (by cases q), callWith_method1 (spliced_more (he.use T₁ fun v₂ s₂ b₂ l₂ hv₂ T₂ => spliced_none ?_) hs) hs rfl⟩
  obtain ⟨D, ys, rfl, hD, hys⟩ := hv₂
  exact join_list (isl_mono T₂.keep hD) (strs_of hys) hok fun t' tk => ⟨b₂, l₂, ⟨_, rfl⟩, T₂.toks⟩
end
inductive KInv (S₀ : Addr) (line : Str) (t2 : Tok) (pl : List Int) (b : Heap) (m : Str → Option Value) (own : List (Addr × Obj)) : Prop
  | mk (ho : own = []) (h1 : m "line" = some (.str line t2)) (h2 : m "star" = some (.ref S₀)) (a : Addr) (vs : List Value) (h3 : m "places" = some (.ref a)) (hl : b.IsList a vs.toArray) (hv : All2 (fun v k => IsI k v) vs pl) (hP : Pl line.length pl)
theorem law_taken_spec {w : World} {mg mb : Str → Option Value} {dr : Dn} {os : OsState} {A : Around} {s : Shared} {E : Value → Shared → Prop} (C : Cs dr os A 2 s) (W : Wd w mg mb s.heap) {items : List Item} (hsub : ∀ x ∈ items, x ∈ itemsT) (hlen : items.length ≤ 3) {line : Str} {t1 t2 : Tok} (hl : line.length ≤ 2 ^ 20) :
    wpAny (model Prg w) A (call (.ref 91) [.str (patF items) t1, .str line t2]) (fun r s' => Pur s s' ∧ IsB (meantF items line) r) E s := by
  refine enter (fd := fdAt w 91) C (W.X 91 _ rfl) (by kernel_rfl) (codeRec_of W.X (by kernel_rfl)) W.lim rfl (binds := [("pattern", .str (patF items) t1), ("line", .str line t2)]) (by kernel_rfl) rfl (by kernel_rfl) rfl rfl rfl rfl rfl ?_
  intro L b s₁ Γ e2 e3 e4 e5 e6 e7 e8 O hL S hc hn
  have W' : Wd w mg mb Γ.g := e5 ▸ W.hide
  subst e2 e6 e7
  have hm1 : bindL (envF Γ.w 91 L).kindOf [("pattern", .str (patF items) t1), ("line", .str line t2)] (fun _ => none) "pattern" = some (.str (patF items) t1) := by kernel_rfl
  have hm2 : bindL (envF Γ.w 91 L).kindOf [("pattern", .str (patF items) t1), ("line", .str line t2)] (fun _ => none) "line" = some (.str line t2) := by kernel_rfl
  generalize bindL (envF Γ.w 91 L).kindOf [("pattern", .str (patF items) t1), ("line", .str line t2)] (fun _ => none) = m at S hm1 hm2
  have hd1 : Γ.A.depth + 21 + 1 < recursionLimit := by rw [e8]; have := C.depth; show A.depth + 1 + 21 + 1 < _; omega
  have hu1 : Γ.A.units + 103 + 4 * 1 < cLine := by rw [e8]; have := C.units; show A.units + 3 + 103 + 4 * 1 < _; omega
  have h79 := W'.X 79 _ rfl
  have h62 := W'.X 62 _ rfl
  with_reducible refine Xs.go S ?_
  with_reducible refine Xs.asg2 O (P := fun b' u v => (∃ S, u = .ref S) ∧ ∃ D vs, v = .ref D ∧ b'.IsList D vs.toArray ∧ All2 (fun v k => IsI k v) vs [0]) ?_ (by walk_at "k") (by walk_at "k") ?_ ?_ (fun b1 vS vP l1 hp => ?_)
  · refine Args.cons (P := fun _ v => ∃ S, v = .ref S) ((Ei.listE (ArgsE.cons (Ev.str (x := "*")) ArgsE.nil) ?_).mono fun b' v l h => ?_) (fun b2 vS l2 hS => Args.cons (P := fun b' v => ∃ D vs, v = .ref D ∧ b'.IsList D vs.toArray ∧ All2 (fun v k => IsI k v) vs [0]) ((Ei.listE (ArgsE.cons (Ev.int (i := 0)) ArgsE.nil) ?_).mono fun b' v l h => ?_) (fun b3 vP l3 hP => Args.nil.mono fun b4 vs l4 h => ?_) starList) starList
    · rintro _ ⟨_, _, rfl, _, rfl⟩; show 1 ≤ sizeLine; decide
    · obtain ⟨_, ⟨D, rfl, _⟩, _⟩ := h
      exact ⟨D, rfl⟩
    · rintro _ ⟨_, _, rfl, _, rfl⟩; show 1 ≤ sizeLine; decide
    · obtain ⟨vs, ⟨D, rfl, _, _, hD, _⟩, _, _, rfl, hz, rfl⟩ := h
      exact ⟨D, _, rfl, hD, .cons hz .nil⟩
    · obtain ⟨rfl, rfl⟩ := h
      exact ⟨vS, vP, rfl, hS, hP⟩
  · rw [e3]; walk_at "u"
  · rw [e3]; walk_at "u"
  obtain ⟨⟨S₀, rfl⟩, D₀, vs0, rfl, hD₀, hz₀⟩ := hp
  refine Xs.forE (own := []) (R := []) (as := transF items) (Kin := fun v p => PartIs2 S₀ v p) (P₀ := fun b' v => ∃ D ys n, v = .ref D ∧ b'.get? D = some (lsN ys n) ∧ All2 (fun v p => PartIs2 S₀ v p) ys (transF items)) O
    (fun i => KInv S₀ line t2 (((transF items).take i).foldl (takeStep line) [0]))
    ?_ (fun b₀ v s E l hp T => ?_) (fun b₀ l => ⟨rfl, by walk_at "m", by walk_at "m", D₀, vs0, by walk_at "m", isl_mono l hD₀, hz₀, Pl.start _⟩) ?_ (fun _ => rfl) ?_
  · refine Ei.ofCallE (by walk_at "top") (.dfn 62 _ (fdAt Γ.w 62) ((S.gr.trans l1) _ _ h62) rfl) (ArgsE.cons (by walk_at "locS") (ArgsE.cons (by walk_at "loc") (ArgsE.cons (Ev.str (x := ".")) ArgsE.nil))) (fun vs' hvs => ?_)
    obtain ⟨_, _, rfl, ⟨tl, rfl⟩, _, _, rfl, hq, _, _, rfl, ⟨t3, rfl⟩, rfl⟩ := hvs
    rw [show _ = _ from hq]
    intro s E T
    refine wpAny_mono (translate_spec (T.cs O hd1 hu1) (W'.mono (T.gr.trans T.keep)) hsub hlen) (fun r s' h => ?_) fun _ _ e => e
    obtain ⟨P, D, ys, n, rfl, hnew, hD, hall⟩ := h
    obtain ⟨b', l, hk, T'⟩ := T.adopt2 P
    exact ⟨b', l, ⟨D, ys, n, rfl, (hk D _ hnew hD).2.2, hall⟩, T'⟩
  · obtain ⟨D, ys, n, rfl, hD, hall⟩ := hp
    exact iter_of_list (vs := ys) ⟨_, hD, rfl, _, rfl⟩ hall T
  · rintro i pt v b₂ m₂ own₂ R₁ s E hia lb hv ⟨rfl, hml, hms, a, us, hmp, hla, hva, hPl⟩ hR T
    have tk : ((transF items).take (i + 1)) = (transF items).take i ++ [pt] := by rw [List.take_add_one, hia]; rfl
    rw [tk, List.foldl_append, List.foldl_cons, List.foldl_nil]
    generalize ((transF items).take i).foldl (takeStep line) [0] = pl at hva hPl ⊢
    have hP' := takeStep_pl hPl pt
    have hpt := trans_parts items [] hsub (by simp) pt (List.mem_of_getElem? hia)
    refine wpAny_assign_Name (stores O T (by walk_at "k") fun s' T => ?_)
    have fin : ∀ {b₃ m₃ v₃ own' s''} {Dd : List Value}, Le b₂ b₃ → m₃ ("line" : Str) = some (.str line t2) → m₃ ("star" : Str) = some (.ref S₀) → (∃ D vs, v₃ = .ref D ∧ b₃.IsList D vs.toArray ∧ All2 (fun v k => IsI k v) vs (takeStep line pl pt)) → own' = R₁ → Γ.S b₃ (upd m₃ "places" v₃) own' s'' →
        Flow.next = Flow.next ∧ ∃ b₄ m₄ own₄, Le b₂ b₄ ∧ KInv S₀ line t2 (takeStep line pl pt) b₄ m₄ own₄ ∧ Γ.S b₄ m₄ (own₄ ++ R₁) s'' := by
      rintro b₃ m₃ v₃ own' s'' Dd l3 h1 h2 ⟨D, vs, rfl, hD, hvs⟩ rfl T3
      exact ⟨rfl, b₃, _, [], l3, ⟨rfl, by walk_at "m", by walk_at "m", D, vs, upd_eq _ _ _, hD, hvs, hP'⟩, T3⟩
    have hml3 : upd m₂ "part" v "line" = some (.str line t2) := by walk_at "m"
    have hms3 : upd m₂ "part" v "star" = some (.ref S₀) := by walk_at "m"
    have hmp3 : upd m₂ "part" v "places" = some (.ref a) := by walk_at "m"
    have hpt3 : upd m₂ "part" v "part" = some v := upd_eq _ _ _
    generalize upd m₂ "part" v = m3 at hml3 hms3 hmp3 hpt3 T ⊢
    have T : Γ.S b₂ m3 R₁ s' := T
    refine Xs.go T ?_
    rcases hpt with rfl | ⟨x, hx, rfl⟩
    · obtain rfl : v = .ref S₀ := hv
      with_reducible refine Xs.ifT (Tv.cmp cop_is_same (Ev.loc O hpt3 (by walk_at "k") (by decide)) (Ev.loc O hms3 (by walk_at "k") (by decide)) ?_) ?_
      · rfl
      with_reducible refine Xs.asg O (P := fun b' v => ∃ D vs, v = .ref D ∧ b'.IsList D vs.toArray ∧ All2 (fun v k => IsI k v) vs (takeStep line pl none)) (Ei.ite (Tv.neNil O hla hva (Ev.loc O hmp3 (by walk_at "k") (by decide)) ?_) (fun ht => ?_) (fun ht => ?_)) (by walk_at "k") ?_ (fun b5 v5 l5 hv5 => ?_)
      · walk_at "u"
      · have hne : pl ≠ [] := by simpa using ht
        obtain ⟨k, r, rfl⟩ : ∃ k r, pl = k :: r := by cases pl with | nil => exact absurd rfl hne | cons k r => exact ⟨k, r, rfl⟩
        have k0 := hPl.lo k (.head _)
        have k1 := hPl.hi k (.head _)
        cases hva with
        | cons hv0 hvr =>
          refine (Ei.listRange O (by walk_at "bui") (range_2 (a := k) (c := (line.length : Int) + 1) (by walk_at "bui") (Ev.mono (Ev.itemL hla (Ev.loc O hmp3 (by walk_at "k") (by decide)) Ev.int (by decide) (by decide) rfl (fun _ => by walk_at "u") (fun _ => by walk_at "u")) fun v hv => ?_)
            (Ev.bin bop_addI (Ev.call1 (by walk_at "bui") (.bui "len") (Ev.locS O ⟨_, hml3⟩ (by walk_at "k") (by decide)) fun x hx => cev_lenS (by omega) hx) Ev.int)) (small_one (by omega) (by omega) (by omega) (by omega)) (rangeSize_nat _ _) (by omega)).mono fun b' v _ hv => ?_
          · rw [show v = _ from hv]; exact hv0
          · obtain ⟨vs, ⟨D, rfl, _, _, hD, _⟩, hvs⟩ := hv
            refine ⟨D, vs, rfl, hD, ?_⟩
            unfold takeStep
            rw [if_neg (by simp)]
            exact hvs
      · have he : pl = [] := by simpa using ht
        subst he
        refine (Ei.listE (ArgsE.nil) ?_).mono fun b' v _ hv => ?_
        · rintro _ rfl; exact Nat.zero_le _
        · obtain ⟨vs, ⟨D, rfl, _, _, hD, _⟩, rfl⟩ := hv
          exact ⟨D, [], rfl, hD, .nil⟩
      · rw [e3]; walk_at "u"
      exact Xs.on (Xs.nil fun s T => fin (Dd := []) l5 hml3 hms3 hv5 rfl T)
    · obtain ⟨tx, rfl⟩ : IsS x v := hv
      with_reducible refine Xs.ifF (Tv.cmp (cop_is_sr (x := x)) (Ev.locS O ⟨_, hpt3⟩ (by walk_at "k") (by decide)) (Ev.loc O hms3 (by walk_at "k") (by decide)) ?_) ?_
      · rfl
      obtain ⟨c0, hc0, hxl, hcase⟩ := part_facts hx
      have ept : ∀ {b' : Heap} {own' : List (Addr × Obj)} {pos : Pos}, Ev Γ b' m3 own' (.Name "part" pos) (IsS x) := fun {_ _ _} => Ev.locS O ⟨_, hpt3⟩ (by walk_at "k") (by decide)
      have e0 : ∀ {b' : Heap} {own' : List (Addr × Obj)} {p1 p2 p3 : Pos} {k : Nat}, Ev Γ b' m3 own' (.Subscript (.Name "part" p1) (.Constant (.int 0) k p2) p3) (IsS ⟨#[c0]⟩) := fun {_ _ _ _ _ _} =>
        Ev.itemS (i := 0) ept Ev.int (by decide) hc0 (by omega) (fun _ _ => by walk_at "u") (fun _ _ => by walk_at "u")
      have stepE : ∀ {b' : Heap} {m' : Str → Option Value} {sm : Str} {barred : Bool} {e3' e4' : Expr} {p1 p2 p3 pos : Pos}, Le b₂ b' → m' ("line" : Str) = some (.str line t2) → m' ("places" : Str) = some (.ref a) → Ev Γ b' m' R₁ e3' (IsS sm) → Ev Γ b' m' R₁ e4' (IsB barred) → sigF x = some (sm, barred) →
          (eval (.Call (.Name "_law_step" p1) [.Name "line" p2, .Name "places" p3, e3', e4'] [] pos) Γ.env = (do callWith pos (← eval (.Name "_law_step" p1) Γ.env) [] (backTo pos (starEach [.Name "line" p2, .Name "places" p3, e3', e4'] Γ.env)) (backToKw pos (keywordEach [] Γ.env)))) →
          (starEach [e3', e4'] Γ.env = (false, eval e3' Γ.env) :: starEach [e4'] Γ.env) → (starEach [e4'] Γ.env = (false, eval e4' Γ.env) :: starEach [] Γ.env) → ((backTo pos (starEach [.Name "places" p3, e3', e4'] Γ.env)).any (·.1) = false) →
          Ei Γ b' m' R₁ (.Call (.Name "_law_step" p1) [.Name "line" p2, .Name "places" p3, e3', e4'] [] pos) (fun b' v => ∃ D vs, v = .ref D ∧ b'.IsList D vs.toArray ∧ All2 (fun v k => IsI k v) vs (takeStep line pl (some x))) := by
        intro b' m' sm barred e3' e4' p1 p2 p3 pos lb' hml' hmp' h3 h4 hsig q1 q2 q3 q4
        refine (Ei.ofCallE (by walk_at "top") (.dfn 79 _ (fdAt Γ.w 79) ((S.gr.trans (l1.trans (lb.trans lb'))) _ _ h79) rfl) (ArgsE.cons (Ev.locS O ⟨_, hml'⟩ (by walk_at "k") (by decide)) (ArgsE.cons (Ev.loc O hmp' (by walk_at "k") (by decide)) (ArgsE.cons h3 (ArgsE.cons h4 ArgsE.nil q3) q2) (by rfl)) (by rfl)) (R := fun b'' v => ∃ ys, NewL b' b'' ys v ∧ All2 (fun v k => IsI k v) ys (stepF line pl sm barred)) (fun vs' hvs => ?_) q1 (by rfl) q4).mono fun b'' v _ hv => ?_
        · obtain ⟨_, _, rfl, ⟨tl, rfl⟩, _, _, rfl, hq, _, _, rfl, ⟨t2, rfl⟩, _, _, rfl, hq2, rfl⟩ := hvs
          rw [show _ = _ from hq, show _ = _ from hq2]
          refine cal_new fun s E T => law_step_spec ((T.cs O hd1 hu1).mono (by omega)) (W'.mono (T.gr.trans T.keep)) (isl_mono (lb'.trans T.keep) hla) hva hPl.lo (by omega) ?_
          have := hPl.len
          have : sizeLine = 2 ^ 24 := by rw [sizeLine_eq]
          omega
        · obtain ⟨vs, ⟨D, rfl, _, _, hD, _⟩, hvs⟩ := hv
          refine ⟨D, vs, rfl, hD, ?_⟩
          unfold takeStep
          dsimp only
          rw [hsig]
          exact hvs
      rcases hcase with ⟨hb0, c1, sm, barred, body, c2, hc1, hbar, hbody, hc2, hsig, hbl, hsome⟩ | ⟨hb0, hcase⟩
      · with_reducible refine Xs.ifT (Tv.cmp (c := true) (P₁ := IsS ⟨#[c0]⟩) (P₂ := IsS "[") ?_ e0 Ev.str ?_) ?_
        · have := @cop_eqS ⟨#[c0]⟩ "["
          rwa [hb0] at this
        · rfl
        have hbart : ∀ {b' m' own' pos}, m' ("barred" : Str) = some (.bool barred) → Tv Γ b' m' own' (.Name "barred" pos) barred := fun {b' m' own' pos} h => Tv.ofB (Ev.loc O h (by walk_at "k") (by decide)) (fun _ => by rfl)
        with_reducible refine Xs.asg O (P := fun _ v => IsB barred v) ?_ (by walk_at "k") ?_ (fun b5 v5 l5 hv5 => ?_)
        · refine Ev.ei (P := fun _ v => IsB barred v) ((Ev.cmp cop_eqS (Ev.itemS (i := 1) ept Ev.int (by decide) hc1 (by omega) (fun _ _ => by walk_at "u") (fun _ _ => by walk_at "u")) Ev.str (by rfl)).mono fun v hv => ?_)
          rw [hbar] at hv; exact hv
        · rw [e3]; walk_at "u"
        obtain rfl : v5 = .bool barred := hv5
        have hx5 : upd m3 "barred" (.bool barred) "part" = some (.str x tx) := by walk_at "m"
        have hb5 : upd m3 "barred" (.bool barred) "barred" = some (.bool barred) := upd_eq _ _ _
        have hl5 : upd m3 "barred" (.bool barred) "line" = some (.str line t2) := by walk_at "m"
        have hs5 : upd m3 "barred" (.bool barred) "star" = some (.ref S₀) := by walk_at "m"
        have hp5 : upd m3 "barred" (.bool barred) "places" = some (.ref a) := by walk_at "m"
        generalize upd m3 "barred" (.bool barred) = m5 at hx5 hb5 hl5 hs5 hp5 ⊢
        with_reducible refine Xs.asg O (P := fun _ v => IsS body v) ?_ (by walk_at "k") ?_ (fun b6 v6 l6 hv6 => ?_)
        · refine Ev.ei (P := fun _ v => IsS body v) ((Ev.sliceT (lo := some _) (up := some _) (pl := some (if barred then 2 else 1)) (pu := some (-1)) (Ev.locS O ⟨_, hx5⟩ (by walk_at "k") (by decide)) (?_ : Ev _ _ _ _ _ _) (Ev.neg Ev.int) (by omega) (fun _ _ => by rfl)).mono fun v hv => ?_)
          · cases barred with
            | true => exact Ev.ifT (hbart hb5) Ev.int
            | false => exact Ev.ifF (hbart hb5) Ev.int
          · rw [hbody] at hv; exact hv
        · rw [e3]; walk_at "u"
        obtain ⟨t6, rfl⟩ := hv6
        have hbd6 : upd m5 "body" (.str body t6) "body" = some (.str body t6) := upd_eq _ _ _
        have hb6 : upd m5 "body" (.str body t6) "barred" = some (.bool barred) := by walk_at "m"
        have hl6 : upd m5 "body" (.str body t6) "line" = some (.str line t2) := by walk_at "m"
        have hs6 : upd m5 "body" (.str body t6) "star" = some (.ref S₀) := by walk_at "m"
        have hp6 : upd m5 "body" (.str body t6) "places" = some (.ref a) := by walk_at "m"
        generalize upd m5 "body" (.str body t6) = m6 at hbd6 hb6 hl6 hs6 hp6 ⊢
        have ebd : ∀ {b' : Heap} {own' : List (Addr × Obj)} {pos : Pos}, Ev Γ b' m6 own' (.Name "body" pos) (IsS body) := fun {_ _ _} => Ev.locS O ⟨_, hbd6⟩ (by walk_at "k") (by decide)
        with_reducible refine Xs.asg O (P := fun _ v => IsS sm v) (Ei.ite (Tv.cmp cop_neS (Ev.sliceT (lo := some _) (up := some _) (pl := some 1) (pu := some 2) ebd ?_ ?_ ?_ ?_) Ev.str ?_) (fun ht => ?_) (fun ht => ?_)) (by walk_at "k") ?_ (fun b7 v7 l7 hv7 => ?_)
        · exact Ev.int
        · exact Ev.int
        · omega
        · exact fun _ _ => by rfl
        · rfl
        · rw [hc2] at ht
          rcases hsome with ⟨_, rfl⟩ | ⟨h, _⟩
          · exact Ev.ei (P := fun _ v => IsS body v) ebd
          · rw [h] at ht; cases ht
        · rw [hc2] at ht
          rcases hsome with ⟨h, _⟩ | ⟨_, ha, hcc, rfl⟩
          · rw [h] at ht; cases ht
          have hj : Txt.join "" ["a", "b", "c"] = "abc" := by decide +kernel
          rw [← hj]
          refine Ev.ei (P := fun _ v => IsS (Txt.join "" ["a", "b", "c"]) v) (Ei.joinE Ev.str ?_ (by decide +kernel) (by walk_at "u") (by rfl) (by rfl) (by rfl))
          have hord : ∀ {i c : Nat} {p1 p2 p3 p4 pos : Pos} {k : Nat}, body.cps[i]? = some c → Ev Γ b6 m6 R₁ (.Call (.Name "ord" p1) [.Subscript (.Name "body" p2) (.Constant (.int i) k p3) p4] [] pos) (IsI c) := fun {i c _ _ _ _ _ _} hc =>
            Ev.call1 (by walk_at "bui") (.bui "ord") (Ev.itemS (i := i) ebd Ev.int (by omega) (by simpa using hc) (by omega) (fun _ _ => by walk_at "u") (fun _ _ => by walk_at "u")) fun v hv => cev_ord hv
          refine (Ei.comp O (cl := []) (as := rangeL 97 1 3) (fun _ => true) (fun (k : Int) => (⟨#[k.toNat]⟩ : Str)) (fun v k => IsI k v) (fun b' v x => IsS x v)
            (iter_range (range_2 (a := 97) (c := 100) (by walk_at "bui") (hord (i := 0) (c := 97) ha) (Ev.bin (bop_addI (i := 99) (j := 1)) (hord (i := 2) (c := 99) hcc) Ev.int)) (small_one (by omega) (by omega) (by omega) (by omega)) (by decide +kernel))
            (CTurn.name0 O rfl (by kernel_rfl) ?_) (by rw [e3]; walk_at "u") (fun _ _ _ _ l h => h) (by decide) rfl (by rw [sizeLine_eq]; decide) (by decide) (fun _ => rfl)).mono fun b' v l h => ?_
          · intro C' b₁ own₁ m₁ k v hk lb ho hv hm O'
            have k01 : 0 ≤ k ∧ k ≤ 100 := by
              obtain ⟨j, hj, rfl⟩ := List.mem_map.mp hk
              have := List.mem_range.mp hj
              omega
            exact Ev.ei (P := fun _ v => IsS ⟨#[k.toNat]⟩ v) (Ev.call1 (by walk_at "buic") (.bui "chr") (Ev.locI O' (let ⟨t, e⟩ := hv; ⟨t, hm.trans (congrArg some e)⟩) (by walk_at "kc") (by decide)) fun v hv => cev_chr k01.1 (by omega) hv)
          · obtain ⟨D, ys, rfl, n1, n2, hD, hy⟩ := h
            refine ⟨D, ys, rfl, ⟨_, hD, rfl, _, rfl⟩, ?_⟩
            have e : ((rangeL 97 1 3).filter fun _ => true).map (fun (k : Int) => (⟨#[k.toNat]⟩ : Str)) = [("a" : Str), "b", "c"] := by decide +kernel
            rw [e] at hy
            exact hy
        · rw [e3]; walk_at "u"
        obtain ⟨t7, rfl⟩ := hv7
        with_reducible refine Xs.asg O (P := fun b' v => ∃ D vs, v = .ref D ∧ b'.IsList D vs.toArray ∧ All2 (fun v k => IsI k v) vs (takeStep line pl (some x))) (stepE (sm := sm) (barred := barred) ?_ ?_ ?_ ?_ ?_ hsig ?_ ?_ ?_ ?_) (by walk_at "k") ?_ (fun b8 v8 l8 hv8 => ?_)
        · exact l5.trans (l6.trans l7)
        · walk_at "m"
        · walk_at "m"
        · exact Ev.locS O ⟨t7, upd_eq _ _ _⟩ (by walk_at "k") (by decide)
        · exact Ev.loc O (by walk_at "m") (by walk_at "k") (by decide)
        · rfl
        · rfl
        · rfl
        · rfl
        · rw [e3]; walk_at "u"
        exact Xs.on (Xs.on (Xs.nil fun s T => fin (Dd := []) (l5.trans (l6.trans (l7.trans l8))) (by walk_at "m") (by walk_at "m") hv8 rfl T))
      · with_reducible refine Xs.ifF (Tv.cmp (c := false) (P₁ := IsS ⟨#[c0]⟩) (P₂ := IsS "[") ?_ e0 Ev.str ?_) ?_
        · have := @cop_eqS ⟨#[c0]⟩ "["
          rwa [hb0] at this
        · rfl
        with_reducible refine Xs.asg O (P := fun b' v => ∃ D vs, v = .ref D ∧ b'.IsList D vs.toArray ∧ All2 (fun v k => IsI k v) vs (takeStep line pl (some x))) (Ei.ite (Tv.cmp cop_eqS ept Ev.str ?_) (fun ht => ?_) (fun ht => ?_)) (by walk_at "k") ?_ (fun b5 v5 l5 hv5 => ?_)
        · rfl
        · have ht : x = "(?!)" := of_decide_eq_true ht
          have hsig : sigF x = none := by
            rcases hcase with ⟨_, h⟩ | ⟨h, _⟩
            · exact h
            · exact absurd ht h
          refine (Ei.listE (ArgsE.nil) ?_).mono fun b' v _ hv => ?_
          · rintro _ rfl; exact Nat.zero_le _
          · obtain ⟨vs, ⟨D, rfl, _, _, hD, _⟩, rfl⟩ := hv
            refine ⟨D, [], rfl, hD, ?_⟩
            unfold takeStep
            dsimp only
            rw [hsig]
            exact .nil
        · have ht : ¬ x = "(?!)" := of_decide_eq_false ht
          rcases hcase with ⟨h, _⟩ | ⟨_, ⟨hdot, hsig⟩ | ⟨hdot, c, hc, hsig⟩⟩
          · exact absurd h ht
          · refine stepE (Le.refl _) hml3 hmp3 (Ev.ifT (Tv.cmp (c := true) (P₁ := IsS x) (P₂ := IsS ".") ?_ ept Ev.str (by rfl)) Ev.str) ((Ev.cmp cop_eqS ept Ev.str (by rfl)).mono fun v hv => ?_) hsig (by rfl) (by rfl) (by rfl) (by rfl)
            · have := @cop_eqS x "."
              rwa [decide_eq_true hdot] at this
            · rw [decide_eq_true hdot] at hv; exact hv
          · refine stepE (Le.refl _) hml3 hmp3 (Ev.ifF (Tv.cmp (c := false) (P₁ := IsS x) (P₂ := IsS ".") ?_ ept Ev.str (by rfl)) (Ev.itemSN (c := c) ept (Ev.neg Ev.int) hc (by omega) (fun _ _ => by walk_at "u") (fun _ _ => by walk_at "u"))) ((Ev.cmp cop_eqS ept Ev.str (by rfl)).mono fun v hv => ?_) hsig (by rfl) (by rfl) (by rfl) (by rfl)
            · have := @cop_eqS x "."
              rwa [decide_eq_false hdot] at this
            · rw [decide_eq_false hdot] at hv; exact hv
        · rw [e3]; walk_at "u"
        exact Xs.on (Xs.on (Xs.nil fun s T => fin (Dd := []) l5 hml3 hms3 hv5 rfl T))
  · rintro b₂ m₂ own₂ l₂ ⟨rfl, hml, hms, a, us, hmp, hla, hva, hPl⟩
    rw [List.take_length] at hva
    refine Xs.ret (Ev.ei (P := fun _ v => IsB (meantF items line) v) ?_) fun b' v s' _ hv T => ⟨fxLeave T C.dr C.os e5, hv⟩
    rw [← trans_meant items hsub line]
    exact Ev.inInts hla hva (Ev.call1 (by walk_at "bui") (.bui "len") (Ev.locS O ⟨_, hml⟩ (by walk_at "k") (by decide)) fun x hx => cev_lenS (by omega) hx) (by walk_at "loc") (by walk_at "u")
end Mine
end

section
open PySem PySem.W PySem.Calls PySem.Spec PyProof.Rows
set_option linter.unusedVariables false
namespace Mine
set_option maxRecDepth 100000
set_option maxHeartbeats 4000000
section
local macro_rules | `(tactic| x_close) => `(tactic| first | exact ⟨_, _, _, rfl, rfl, memLe (by assumption)⟩ | exact ⟨_, _, _, rfl, rfl, Le.refl _⟩)
theorem call_modr {w : World} {A : Around} {E : Value → Shared → Prop} {h : Heap} {g : Array GenState} {d : Drawn} {tk : Nat} {os : OsState} {t u : Tok} (X : (KF w.params).In h) :
    wpAny (model Prg w) A (call (.builtin "str.__mod__") [.str "unknown delta choice (must be 1 or 2): %r" t, .int 3 u]) (fun v s' => ∃ h' t' tk', v = .str "unknown delta choice (must be 1 or 2): 3" t' ∧ s' = ⟨h', g, d, tk', os⟩ ∧ Le h h') E ⟨h, g, d, tk, os⟩ := by
  x_run
end
theorem mod_r {w : World} {A : Around} {E : Value → Shared → Prop} {h : Heap} {g : Array GenState} {d : Drawn} {tk : Nat} {os : OsState} {t u : Tok} (X : (KF w.params).In h) :
    wpAny (model Prg w) A (binaryOp .Mod (.str "unknown delta choice (must be 1 or 2): %r" t) (.int 3 u)) (fun v s' => ∃ h' t' tk', v = .str "unknown delta choice (must be 1 or 2): 3" t' ∧ s' = ⟨h', g, d, tk', os⟩ ∧ Le h h') E ⟨h, g, d, tk, os⟩ := by
  refine wpAny_binaryOp_two (T := "str") (U := "int") (by decide) (typeIs_str _ _ _) (fun s' => typeIs_int s' _ _) F.fills_str_mod F.fills_int_mod F.sub_int_str F.slot_str_mod F.slot_int_rmod (wpAny_mono (call_modr X) (fun v s' hv => ?_) fun _ _ x => x)
  refine .inl ⟨?_, hv⟩
  obtain ⟨_, _, _, rfl, _⟩ := hv
  exact fun e => nomatch e
def Ctx (h : Heap) (e : Addr) : Prop := ∃ o vs, h.get? e = some o ∧ o.data = .fields vs ∧ vs[2]? = some .none
theorem raise_from {w : World} {A : Around} {E : Value → Shared → Prop} {s : Shared} {env : Env} {exc : Expr} {k : Nat} {p pos : Pos} {e1 : Addr} {Q : Flow → Shared → Prop} (hh : A.handled = some (.ref e1))
    (h : wpAny (model Prg w) A (eval exc env) (fun v s₁ => ∃ e2 t, v = .ref e2 ∧ e1 ≠ e2 ∧ s₁.heap.get? e2 = some { cls := .type "ValueError", data := .fields #[.ref t, .none, .none, .none, .bool false, .none] } ∧ Ctx s₁.heap e1 ∧
      ∀ h', h'.get? e2 = some { cls := .type "ValueError", data := .fields #[.ref t, .none, .ref e1, .none, .bool true, .none] } → Heap.SameBut e2 s₁.heap h' → E (.ref e2) { s₁ with heap := h' }) E s) :
    wpAny (model Prg w) A (exec (.Raise (some exc) (some (.Constant .none k p)) pos) env) Q E s := by
  rw [arm_exec_Raise]
  show wpAny _ A (do standAt pos; raiseStmt env (some (do let v ← eval exc env; standAt pos; pure v)) (some (do let v ← eval (.Constant .none k p) env; standAt pos; pure v))) Q E s
  refine wpAny_bind (wpAny_standAt ?_)
  unfold raiseStmt
  refine wpAny_bind (wpAny_bind (wpAny_mono h (fun v s₁ h₁ => ?_) fun _ _ x => x))
  obtain ⟨e2, t, rfl, hne, he, hctx, hE⟩ := h₁
  refine wpAny_bind (wpAny_standAt (wpAny_pure ?_))
  have hsub := PySem.F.excRaise_ValueError.isExc
  have hmeta := PySem.F.excRaise_ValueError.plainMeta
  obtain ⟨hp, g, d, tk, os⟩ := s₁
  refine wpAny_bind (wpAny_holding (wpAny_bind (Constant_none (wpAny_bind (wpAny_standAt (wpAny_pure ?_))))))
  refine wpAny_bind (wpAny_pure ?_)
  refine wpAny_bind (wpAny_holding ?_)
  have hexc : ∀ {Q : Value → Shared → Prop}, Q (.ref e2) ⟨hp, g, d, tk, os⟩ → wpAny (model Prg w) A (excFromValue (.ref e2) "exceptions must derive from BaseException") Q E ⟨hp, g, d, tk, os⟩ := by
    intro Q hQ
    unfold excFromValue
    repeat (first | refine wpAny_loadPart he ?_ | wp_step)
    exact hQ
  refine hexc ?_
  dsimp only
  rw [if_pos (show (Value.none == Value.none) = true by simp)]
  refine wpAny_bind (wpAny_pure ?_)
  have hd2 : Obj.data { cls := Value.type "ValueError", data := .fields #[.ref t, .none, .none, .none, .bool false, .none] } = .fields #[.ref t, .none, .none, .none, .bool false, .none] := rfl
  refine wpAny_bind (wpAny_setField he hd2 (by show 3 < 6; decide) ?_)
  have he3 := Heap.get?_update_self (Obj.mapFields (·.setIfInBounds 3 Value.none)) he rfl
  have he3' : (hp.update e2 (Obj.mapFields (·.setIfInBounds 3 Value.none))).get? e2 = some { cls := .type "ValueError", data := .fields #[.ref t, .none, .none, .none, .bool false, .none] } := he3
  have sb3 : Heap.SameBut e2 hp (hp.update e2 (Obj.mapFields (·.setIfInBounds 3 Value.none))) := Heap.SameBut.update ..
  generalize hp.update e2 (Obj.mapFields (·.setIfInBounds 3 Value.none)) = h3 at he3' sb3 ⊢
  refine wpAny_bind (wpAny_setField he3' hd2 (by show 4 < 6; decide) ?_)
  have he4 := Heap.get?_update_self (Obj.mapFields (·.setIfInBounds 4 (Value.bool true))) he3' rfl
  have he4' : (h3.update e2 (Obj.mapFields (·.setIfInBounds 4 (Value.bool true)))).get? e2 = some { cls := .type "ValueError", data := .fields #[.ref t, .none, .none, .none, .bool true, .none] } := he4
  have sb4 : Heap.SameBut e2 h3 (h3.update e2 (Obj.mapFields (·.setIfInBounds 4 (Value.bool true)))) := Heap.SameBut.update ..
  generalize h3.update e2 (Obj.mapFields (·.setIfInBounds 4 (Value.bool true))) = h4 at he4' sb4 ⊢
  have hty : ∀ {Q : Bool → Shared → Prop}, Q false ⟨h4, g, d, tk, os⟩ → wpAny (model Prg w) A (isType (.ref e2)) Q E ⟨h4, g, d, tk, os⟩ := by
    intro Q hQ
    repeat (first | refine wpAny_loadPart he4' ?_ | wp_step)
    exact hQ
  refine wpAny_bind (hty ?_)
  rw [if_neg Bool.false_ne_true]
  have hri : ∀ {Q : Value → Shared → Prop}, Q (.ref e2) ⟨h4, g, d, tk, os⟩ → wpAny (model Prg w) A (raisedInstance (.ref e2)) Q E ⟨h4, g, d, tk, os⟩ := by
    intro Q hQ
    unfold raisedInstance
    repeat (first | refine wpAny_loadPart he4' ?_ | wp_step)
    exact hQ
  refine wpAny_bind (hri ?_)
  have hd4 : Obj.data { cls := Value.type "ValueError", data := .fields #[.ref t, .none, .none, .none, .bool true, .none] } = .fields #[.ref t, .none, .none, .none, .bool true, .none] := rfl
  unfold setFlight
  refine wpAny_bind (wpAny_bind (wpAny_field he4' hd4 (x := .none) rfl ?_))
  rw [if_neg (by simp)]
  refine wpAny_pure ?_
  unfold raiseNew
  refine wpAny_bind (wpAny_handled ?_)
  rw [hh]
  dsimp only
  rw [if_pos (by simp [hne])]
  have hctx4 : Ctx h4 e1 := by
    obtain ⟨o, vs, ho, hd, hv⟩ := hctx
    exact ⟨o, vs, sb4.2 _ hne ▸ sb3.2 _ hne ▸ ho, hd, hv⟩
  obtain ⟨o1, vs1, ho1, hd1, hv1⟩ := hctx4
  refine wpAny_bind (wpAny_holding (runValue_entry (b := Builtin.«proto.unchain») (entryFor_of_tree (by kernel_rfl)) ?_))
  · unfold Builtin.«proto.unchain»
    dsimp only
    refine wpAny_bind (wpAny_field ho1 hd1 hv1 ?_)
    rw [if_pos (show (Value.none == Value.none) = true by simp)]
    refine wpAny_bind (wpAny_pure (wpAny_pure ⟨.none, rfl, ?_⟩))
    unfold updateField
    refine wpAny_bind (wpAny_bind (wpAny_load he4' ?_))
    dsimp only
    rw [if_pos (show 2 < (#[Value.ref t, Value.none, Value.none, Value.none, Value.bool true, Value.none] : Array Value).size by show 2 < 6; decide)]
    refine wpAny_update he4' ?_
    refine wpAny_throw (hE _ ?_ ?_)
    · have := Heap.get?_update_self (Obj.mapFields (·.setIfInBounds 2 (Value.ref e1))) he4' rfl
      exact this
    · exact (sb3.trans sb4).trans (Heap.SameBut.update ..)
end Mine
end

section
open PySem PySem.W PySem.Calls PySem.Spec PyProof.Rows
open PySem.W.X (SegX)
open PyProof.Rows.TI (Frs SameUp sameUp_of)
set_option linter.unusedVariables false
namespace Mine
set_option maxRecDepth 100000
set_option maxHeartbeats 4000000
/-- noted for the first time and landed: the object's third field stays -/
theorem notedLandedC {M : Model} {A : Around} {E : Value → Shared → Prop} {s s' : Shared} {env : Env} {outer : List Env} {L e : Addr} {X : String} {Q : Unit → Shared → Prop} {base : Heap}
    (hfr : A.frames = some (env :: outer)) (hl : s'.heap.FunFrames base (env :: outer)) (hf : env.frame = some L) (hb : base.StaysIn s.heap) (hx : Heap.NewExc s.heap s'.heap e X)
    (k : ∀ h' t, Heap.FlyingW base (env :: outer) e (.type X) t h' → s'.heap.UpToSlots h' → Ctx h' e → Q () { s' with heap := h' }) :
    wpAny M A (noteFrame (.ref e) env) (fun _ s₂ => wpAny M A (setFlight (.ref e) none) Q E s₂) E s' := by
  obtain ⟨ob, tp, he, hcls, hd⟩ := hx.there
  have hen : base.get? e = none := by
    cases q : base.get? e with
    | none => rfl
    | some o => have := hb _ _ q; rw [hx.new] at this; cases this
  have hene : e ∉ (env :: outer).filterMap (·.frame) := fun hm => by
    obtain ⟨_, o, ho, hnf⟩ := hl.mem hm
    rw [he] at ho; cases ho; exact hnf _ hd
  have kb : base.StaysIn s'.heap := fun b o eb => hx.keeps b o (hb _ _ eb)
  unfold noteFrame
  simp only [hf]
  refine wpAny_bind (wpAny_field he hd (x := .none) rfl ?_)
  rw [if_neg (by decide)]
  refine wpAny_bind (wpAny_frameOf_fun hfr hl hf fun h₁ hs₁ => ?_)
  refine wpAny_bind (wpAny_entryPlaceOf fun pl hpl => ?_)
  unfold EntryCells.newEntry newFields
  refine wpAny_bind (wpAny_newObj_type ?_ (hpl.sizeOk5 _ _ _ _ _))
  have he₁ : h₁.get? e = some ob := (hs₁.2.1 e hene).trans he
  have kb₁ : base.StaysIn h₁ := fun b o hbo => (hs₁.2.1 b fun hm => by rw [(hl.mem hm).1] at hbo; cases hbo).trans (kb b o hbo)
  generalize hto : ({ cls := .type "traceback", dict := none, data := .fields ([Value.none, .ref L, .none, rawInt L, .none] ++ (if pl.isEmpty then List.replicate 6 Value.none else pl)).toArray } : Obj) = TO
  have hTod : TO.data = .fields ([Value.none, .ref L, .none, rawInt L, .none] ++ (if pl.isEmpty then List.replicate 6 Value.none else pl)).toArray := by rw [← hto]
  have he₂ := Heap.get?_push_of_some (h := h₁) TO he₁
  refine wpAny_setField he₂ hd (by show 1 < 6; decide) ?_
  have hTe : h₁.objs.size ≠ e := Nat.ne_of_gt (Heap.lt_size he₁)
  have hTf : TO.isFreed = false := Obj.isFreed_of_fields hTod
  have hd₃ := Obj.data_mapFields hd (·.setIfInBounds 1 (Value.ref h₁.objs.size))
  have he₃ := Heap.get?_update_self (Obj.mapFields (·.setIfInBounds 1 (Value.ref h₁.objs.size))) he₂ (Obj.isFreed_of_fields hd₃)
  have hT₃ := (Heap.get?_update_other (h₁.push TO) (Obj.mapFields (·.setIfInBounds 1 (Value.ref h₁.objs.size))) (Ne.symm hTe)).trans (Heap.get?_push_size h₁ hTf)
  have oth : ∀ b o, b ≠ e → h₁.get? b = some o → ((h₁.push TO).update e (Obj.mapFields (·.setIfInBounds 1 (Value.ref h₁.objs.size)))).get? b = some o := fun b o hbe hb => by
    rw [Heap.get?_update_other _ _ (Ne.symm hbe)]
    exact Heap.get?_push_of_some _ hb
  generalize (h₁.push TO).update e (Obj.mapFields (·.setIfInBounds 1 (Value.ref h₁.objs.size))) = h₃ at he₃ hT₃ oth ⊢
  have noRecord : ∀ b o, s'.heap.get? b = some o → (∀ vs, o.data ≠ .fields vs) → b ≠ e := fun b o hb hnf q => by
    rw [q, he] at hb; cases hb; exact hnf _ hd
  unfold setFlight
  refine wpAny_bind (wpAny_field he₃ hd₃ (x := .ref h₁.objs.size) rfl ?_)
  rw [if_pos (show (Value.ref h₁.objs.size != Value.none) = true from by simp)]
  refine wpAny_setField hT₃ hTod (by simp only [List.size_toArray, List.length_append, List.length_cons, List.length_nil]; omega) ?_
  have oth' : ∀ b o, b ≠ e → h₁.get? b = some o → (h₃.update h₁.objs.size (Obj.mapFields (·.setIfInBounds 3 ((none : Option Addr).elim Value.none fun f => rawInt f)))).get? b = some o := fun b o hbe hb => by
    have hbT : h₁.objs.size ≠ b := Nat.ne_of_gt (Heap.lt_size hb)
    rw [Heap.get?_update_other _ _ hbT]
    exact oth b o hbe hb
  have he₄ : (h₃.update h₁.objs.size (Obj.mapFields (·.setIfInBounds 3 ((none : Option Addr).elim Value.none fun f => rawInt f)))).get? e = _ := (Heap.get?_update_other _ _ hTe).trans he₃
  have ups : s'.heap.UpToSlots (h₃.update h₁.objs.size (Obj.mapFields (·.setIfInBounds 3 ((none : Option Addr).elim Value.none fun f => rawInt f)))) := fun b o hb hnf => by
    obtain ⟨sl, hs⟩ := hs₁.2.2 b o hb
    exact ⟨sl, oth' b _ (noRecord b o hb hnf) hs⟩
  refine k _ tp ⟨fun b o hbo => oth' b o (fun q => by rw [q, hen] at hbo; cases hbo) (kb₁ b o hbo), hen, hl.of_keeps fun b o hb hnf => ?_, ?_⟩ ups ⟨_, _, he₄, hd₃, rfl⟩
  · obtain ⟨sl, hs⟩ := ups b o hb hnf
    exact ⟨_, hs, rfl⟩
  · refine ⟨_, _, h₁.objs.size, _, _, he₄, ⟨(Obj.cls_mapFields _ _).trans hcls, rfl⟩, hd₃, rfl, kb₁.fresh, hTe, Heap.get?_update_self _ hT₃ (Obj.isFreed_of_fields (Obj.data_mapFields hTod _)), Obj.data_mapFields hTod _, ?_⟩
    rcases hpl with rfl | ⟨_, _, _, _, _, _, _, rfl⟩ <;> simp
/-- landed again -/
theorem landsC {M : Model} {A : Around} {E : Value → Shared → Prop} {s : Shared} {base : Heap} {l : List Env} {e : Addr} {cls a0 : Value} {Q : Unit → Shared → Prop} (hh : Heap.FlyingW base l e cls a0 s.heap) (hc : Ctx s.heap e)
    (hQ : ∀ h', Heap.FlyingW base l e cls a0 h' → s.heap.UpToSlots h' → Ctx h' e → Q () { s with heap := h' }) : wpAny M A (setFlight (.ref e) none) Q E s := by
  obtain ⟨f1, f2, f3, oe, vs, T, oT, ts, he, hcls, hd, h1, hnT, hTe, hT, hdT, h3⟩ := hh
  obtain ⟨o', vs', ho', hd', hv'⟩ := hc
  rw [he] at ho'; cases ho'
  rw [hd] at hd'; cases hd'
  have hsz3 : 3 < ts.size := (Array.getElem?_eq_some_iff.mp h3).1
  refine wpAny_setFlight_none he hd h1 hT hdT hsz3 ?_
  have other : ∀ b, b ≠ T → (s.heap.update T (Obj.mapFields (·.setIfInBounds 3 Value.none))).get? b = s.heap.get? b := fun b hb => Heap.get?_update_other _ _ (Ne.symm hb)
  have noRecord : ∀ b o, s.heap.get? b = some o → (∀ vs, o.data ≠ .fields vs) → b ≠ T := fun b o hb hnf q => by
    rw [q, hT] at hb; cases hb; exact hnf ts hdT
  refine hQ _ ⟨fun b o hbo => (other b fun q => by rw [q, hnT] at hbo; cases hbo).trans (f1 b o hbo), f2, f3.of_keeps fun b o hb hnf => ⟨o, (other b (noRecord b o hb hnf)).trans hb, rfl⟩, oe, vs, T, _, _, (other e (Ne.symm hTe)).trans he, hcls, hd, h1, hnT, hTe,
    Heap.get?_update_self _ hT (Obj.isFreed_of_fields (Obj.data_mapFields hdT _)), Obj.data_mapFields hdT _, by simp [hsz3]⟩ (fun b o hb hn => ⟨o.slots, (other b (noRecord b o hb hn)).trans hb⟩) ⟨oe, vs, (other e (Ne.symm hTe)).trans he, hd, hv'⟩
section
variable {Γ : Fx Prg} {b : Heap} {m : Str → Option Value} {own frs : List (Addr × Obj)} {w : World} {mg mb : Str → Option Value}
/-- a builtin's fault, caught where it was raised, by a clause that raises in its turn -/
theorem catchRaise (O : Γ.Ok) (W : Wd w mg mb Γ.g) {outer : List Env} (hfr : Γ.A.frames = some (Γ.env :: outer)) (hF : Γ.env.frame = some Γ.L) (Fs : Frs outer frs) {s s' : Shared} {e : Addr} {X T' : String} {x : Str} {np pos : Pos} {b₀ : Stmt} {suite : List Stmt} {rest : List ExceptHandler}
    {Q : Flow → Shared → Prop} {E : Value → Shared → Prop} (T : Γ.S b m (frs ++ own) s) (hx : Heap.NewExc s.heap s'.heap e X) (hs' : ∃ h tk, s' = { s with heap := h, toks := tk })
    (hexc : isSubtype (.type T') (.type "BaseException") = pure true) (hnt : isSubtype (.type ((Manifest.find? T').elim "type" fun y => y.metatype)) (.type "tuple") = pure false) (hsub : isSubtype (.type X) (.type T') = pure true)
    (hm : nsIn (KK w) mainGlobals x = some none) (hb : bootBuiltins x = some (.type T')) (n : x ≠ "__name__") (hk : Γ.env.kindOf x = some .globalImplicit) (hd : (x == ("__debug__" : Str)) = false)
    (hE : PassesOwnAt Γ.M (Γ.A.mark (some (.ref e))) Γ.A Γ.env E)
    (k : ∀ s'' frs', SameUp frs frs' → Γ.S b m (frs' ++ own) s'' → Ctx s''.heap e → wpAny Γ.M (Γ.A.mark (some (.ref e))) (execs (b₀ :: suite) Γ.env) Q E s'') :
    wpAny Γ.M Γ.A (noteFrame (.ref e) Γ.env) (fun _ s₂ => wpAny Γ.M Γ.A (setFlight (.ref e) none) (fun _ s₃ =>
      wpAny Γ.M Γ.A (handleBy (.ref e) Γ.env (.ExceptHandler (some (.Name x np)) none (b₀ :: suite) pos :: rest)) Q E s₃) E s₂) E s' := by
  obtain ⟨hh, tk, rfl⟩ := hs'
  have hB : Heap.StaysIn (hideAll s.heap (Γ.L :: frs.map (·.1))) s.heap := fun b o q => of_hideAll _ q
  have hff : Heap.FunFrames hh (hideAll s.heap (Γ.L :: frs.map (·.1))) (Γ.env :: outer) := by
    refine .cons (L := Γ.L) (m := m) (by rw [O.kind]; decide) hF (T.ns.keeps hx.keeps) (hideAll_none _ (.head _)) (Fs.fun fun p hp => ⟨hx.keeps _ _ (T.ow p (List.mem_append_left _ hp)), hideAll_none _ (.tail _ (List.mem_map_of_mem hp))⟩)
  have u0 : s.heap.UpToSlots hh := Heap.UpToSlots.of_keeps hx.keeps
  refine notedLandedC (s := s) hfr hff hF hB hx fun h₁ t₁ f₁ u₁ c₁ => ?_
  obtain ⟨frs₁, su₁, T₁⟩ := St.slots (s' := { s with heap := h₁, toks := tk }) Fs T f₁.1 (u0.trans u₁) rfl rfl id
  refine wpAny_handleBy_builtin (X := X) (T := T') (b := true) hexc hnt hsub ?_
  refine Name_function_global O.kind hk (hd := hd) (loadGlobal_builtin (by rw [O.glob]; exact W.G.keeps (T₁.gr.trans T₁.keep)) (W.mn hm) (by rw [O.bui]; exact W.B.keeps (T₁.gr.trans T₁.keep)) (W.mb hb n) ?_)
  refine ⟨rfl, f₁.there, ?_⟩
  rw [if_pos rfl]
  refine landsC f₁ c₁ fun h₂ f₂ u₂ c₂ => ?_
  obtain ⟨frs₂, su₂, T₂⟩ := St.slots (s' := { s with heap := h₂, toks := tk }) Fs T f₂.1 ((u0.trans u₁).trans u₂) rfl rfl id
  exact wpAny_passesOwnAt hE (k _ frs₂ su₂ T₂ c₂)
end
end Mine
end

section
open PySem PySem.W PySem.Calls PySem.Spec PyProof.Rows
open PySem.W.X (SegX)
open PyProof.Rows.TI (Frs SameUp sameUp_of)
set_option linter.unusedVariables false
namespace Mine
set_option maxRecDepth 100000
set_option maxHeartbeats 400000
/-- what stays through a fault -/
structure Sav (B b : Heap) (L : Addr) (own frs : List (Addr × Obj)) : Prop where
  le : Le b B
  ow : ∀ p ∈ own, B.get? p.1 = some p.2
  tab : Tab B
  off : ∀ a ∈ L :: frs.map (·.1), B.get? a = none
theorem St.slotsB {g b B : Heap} {L : Addr} {m : Str → Option Value} {own frs : List (Addr × Obj)} {dr : Dn} {os : OsState} {s s' : Shared} {outer : List Env} (Fs : Frs outer frs) (T : St g b L m (frs ++ own) dr os s)
    (V : Sav B b L own frs) (k : B.StaysIn s'.heap) (u : s.heap.UpToSlots s'.heap) (hd : s'.drawn = s.drawn) (ho : s'.os = s.os) (hg : GB dr.2 s.gens → GB dr.2 s'.gens) : ∃ frs', SameUp frs frs' ∧ St g b L m (frs' ++ own) dr os s' := by
  obtain ⟨frs', su, hf'⟩ := sameUp_of (h' := s'.heap) (frs := frs) fun p hp => u p.1 p.2 (T.ow p (List.mem_append_left _ hp)) fun vs q => by
    obtain ⟨es, ep, hd⟩ := Fs.dict p hp
    rw [hd] at q; cases q
  have ea : (frs' ++ own).map (·.1) = (frs ++ own).map (·.1) := by rw [List.map_append, List.map_append, SameUp.addrs su]
  refine ⟨frs', su, u.ns T.ns, T.gr, fun a o e => k _ _ (V.le _ _ e), fun p hp => ?_, ea ▸ T.nd, ea ▸ T.off, V.tab.mono k, hd.trans T.dr, ho.trans T.os, hg T.bare⟩
  rcases List.mem_append.mp hp with hp | hp
  · exact hf' p hp
  · exact k _ _ (V.ow p hp)
theorem St.sav {g b : Heap} {L : Addr} {m : Str → Option Value} {own frs : List (Addr × Obj)} {dr : Dn} {os : OsState} {s : Shared} (T : St g b L m (frs ++ own) dr os s) {e : Addr} (hb : b.get? e = none) (he : e ∉ L :: 57 :: (frs ++ own).map (·.1)) :
    Sav (hideAll s.heap (e :: L :: frs.map (·.1))) b L own frs := by
  have nL := List.nodup_cons.mp T.nd
  have n57 := List.nodup_cons.mp nL.2
  rw [List.map_append] at nL n57 he
  simp only [List.mem_cons, not_or] at he
  refine ⟨fun a o q => hideAll_get _ (T.keep _ _ q) fun hm => ?_, fun p hp => hideAll_get _ (T.ow p (List.mem_append_right _ hp)) fun hm => ?_, ?_, fun a ha => hideAll_none _ (.tail _ ha)⟩
  · rcases List.mem_cons.mp hm with rfl | hm
    · rw [hb] at q; cases q
    · have : b.get? a = none := T.off a (by
        rcases List.mem_cons.mp hm with rfl | hm
        · exact .head _
        · refine .tail _ (.tail _ ?_); rw [List.map_append]; exact List.mem_append_left _ hm)
      rw [q] at this; cases this
  · have hp' := List.mem_map_of_mem (f := fun x : Addr × Obj => x.1) hp
    rcases List.mem_cons.mp hm with q | hm
    · exact he.2.2 (q ▸ List.mem_append_right _ hp')
    · rcases List.mem_cons.mp hm with q | hm
      · exact nL.1 (.tail _ (List.mem_append_right _ (q ▸ hp')))
      · exact (List.nodup_append.mp n57.2).2.2 _ hm _ hp' rfl
  · obtain ⟨ps, e', t⟩ := T.tab
    refine ⟨ps, hideAll_get _ e' fun hm => ?_, t⟩
    rcases List.mem_cons.mp hm with q | hm
    · exact he.2.1 q.symm
    · rcases List.mem_cons.mp hm with q | hm
      · exact nL.1 (q ▸ .head _)
      · exact n57.1 (List.mem_append_left _ hm)
section
variable {Γ : Fx Prg} {b : Heap} {own frs : List (Addr × Obj)} {m : Str → Option Value} {Ag : Around} {P : End → Shared → Prop} {r : Rs} {mg mb : Str → Option Value} {outer : List Env}
theorem gen_raises (W : Wd Γ.w mg mb Γ.g) (O1 : (Γ.seg Ag (.func r.body Γ.env) []).Ok)
    (hk : ∀ x k, (x, k) ∈ ([("which", .local), ("tag", .local), ("int", .globalImplicit), ("KeyError", .globalImplicit), ("ValueError", .globalImplicit)] : List (Str × NameKind)) → Γ.env.kindOf x = some k)
    (hfr : (Ag.over (.func r.body Γ.env) []).frames = some (Γ.env :: outer)) (hF : Γ.env.frame = some Γ.L) (Fs : Frs outer frs)
    {p1 p2 p3 p4 p5 p6 p7 : Pos} {k1 k2 : Nat} (hr : r.b₀ = .Raise (some (.Call (.Name "ValueError" p1) [.BinOp (.Constant (.str "unknown delta choice (must be 1 or 2): %r") k1 p2) .Mod (.Name "which" p3) p4] [] p5)) (some (.Constant .none k2 p6)) p7) (hrs : r.suite = [])
    {tw : Tok} (hm2 : m ("which" : Str) = some (.int 3 tw)) 
    (hcev : ∀ b m own, Cev (Γ.seg Ag (.func r.body Γ.env) []) b m own (.type "int") [.int 3 tw] (IsI 3))
    (hP : ∀ s' frs' B e t tk, SameUp frs frs' → Γ.S b m (frs' ++ own) s' → Sav B b Γ.L own frs → Heap.FlyingW B outer e (.type "ValueError") (.ref t) s'.heap → s'.heap.TupAt t [.str "unknown delta choice (must be 1 or 2): 3" tk] → P (.ret (.error (.ref e))) s')
    {s : Shared} (T : Γ.S b m (frs ++ own) s) : SegX (model Prg Γ.w) Ag (.func r.body Γ.env) ((model Prg Γ.w).den (.func r.body Γ.env)) [] s P := by
  have kw := hk ("which" : Str) .local (by simp)
  have kt := hk ("tag" : Str) .local (by simp)
  have ki := hk ("int" : Str) .globalImplicit (by simp)
  have kk := hk ("KeyError" : Str) .globalImplicit (by simp)
  have kv := hk ("ValueError" : Str) .globalImplicit (by simp)
  refine gx_func (gx_execs_cons (gx_wrap ?_))
  have key : ∀ {st : Stmt} {A' : Around} {s' : Shared}, wpAny (model Prg Γ.w) A' (exec st Γ.env) (fun _ _ => False) (fun x s' => wpAny (model Prg Γ.w) (Ag.over (.func r.body Γ.env) []) (leaving Γ.env x) (fun _ s'' => P (.ret (.error x)) s'') (fun _ _ => False) s') s' →
      ∀ {Q : Flow → Shared → Prop} {E : Value → Shared → Prop}, (∀ x s', wpAny (model Prg Γ.w) (Ag.over (.func r.body Γ.env) []) (leaving Γ.env x) (fun _ s'' => P (.ret (.error x)) s'') (fun _ _ => False) s' → E x s') → wpAny (model Prg Γ.w) A' (exec st Γ.env) Q E s' := by
    intro st A' s' h Q E hE
    exact wpAny_mono h (fun _ _ h => h.elim) hE
  have hleaf : ∀ {x : Value} {c : Code} {s' : Shared}, P (.ret (.error x)) s' → SegX (model Prg Γ.w) Ag c (.raise x) [] s' P := fun {x c s'} h => gx_end (.error x) h
  with_reducible refine key ?_ ?_
  rotate_left
  · intro x s' h
    show SegX (model Prg Γ.w) Ag _ ((leaving Γ.env x).wrap (fun _ => .raise x) .raise id id) [] s' P
    exact gx_wrap (wpAny_mono h (fun _ s'' hP => hleaf hP) fun _ _ h => h.elim)
  refine wpAny_Try_except ?_
  refine wpAny_execs_cons ?_
  with_reducible refine wpAny_Assign_Name ?_ ?_
  rotate_left
  · rfl
  with_reducible refine tagDict (Γ := Γ.seg Ag (.func r.body Γ.env) []) (m := m) (b := b) (own := frs ++ own) (i := 3) (fun D' o' => ?_) T (fun tg htg v s₁ hv T₁ => ?_) (fun h s₁ h₁ e1 tk₁ T₁ hx => ?_) (fun h => O1.hand) W.lim ?_
  rotate_left 3
  · exact fun _ _ => rfl
  · refine Ev.call1 (P := IsV (.int 3 tw)) (Ev.boot O1 W (by kernel_rfl) (by kernel_rfl) (by decide) ki (by decide)) (.typ "int") (Ev.loc O1 hm2 kw (by decide)) fun x hx => ?_
    rw [show x = _ from hx]
    exact hcev _ _ _
  · have : tagOf 3 = none := by decide
    rw [this] at htg; cases htg
  with_reducible refine catchRaise (Γ := Γ.seg Ag (.func r.body Γ.env) []) (s := s₁) (X := "KeyError") (T' := "KeyError") O1 W hfr hF Fs T₁ hx ⟨_, _, rfl⟩ ?_ ?_ ?_ ?_ ?_ ?_ kk ?_ ?_ (fun s₂ frs₂ su₂ T₂ c₂ => ?_)
  · rw [isSubtype_type]; kernel_rfl
  · exact kr_notTuple_KeyError
  · rw [isSubtype_type]; kernel_rfl
  · kernel_rfl
  · kernel_rfl
  · decide
  · decide
  · exact PassesOwnAt.leaving
  rw [hr, hrs]
  refine wpAny_execs_cons ?_
  have O2 : (Γ.seg Ag (.func r.body Γ.env) []).env.scope.kind = .function := O1.kind
  with_reducible refine raise_from rfl ?_
  refine wpAny_mono (Q := fun v s₃ => ∃ e2 t tk, v = .ref e2 ∧ e1 ≠ e2 ∧ s₃.heap.get? e2 = some { cls := .type "ValueError", data := .fields #[.ref t, .none, .none, .none, .bool false, .none] } ∧ s₃.heap.get? t = some { cls := .type "tuple", data := .seq #[.str "unknown delta choice (must be 1 or 2): 3" tk] } ∧
    Ctx s₃.heap e1 ∧ Γ.S b m (frs₂ ++ own) s₃ ∧ b.get? e2 = none ∧ e2 ∉ Γ.L :: 57 :: (frs₂ ++ own).map (·.1) ∧ b.get? t = none ∧ t ≠ e2) (?_ : wpAny _ _ _ _ _ _) (fun v s₃ hv => ?_) fun _ _ x => x
  · refine Call_ (Name_function_global O1.kind kv (hd := by decide) (loadGlobal_builtin (v := .type "ValueError") (by rw [O1.glob]; exact W.G.keeps (T₂.gr.trans T₂.keep)) (W.mn (by kernel_rfl)) (by rw [O1.bui]; exact W.B.keeps (T₂.gr.trans T₂.keep)) (W.mb (by kernel_rfl) (by decide)) ?_)) (by rfl)
    refine callWith_type1 (spliced_more (wpAny_BinOp (wpAny_Constant_str ?_)) (by rfl)) (by rfl) (by rfl)
    refine wpAny_Name (wpAny_loadName_local O1.kind kw (by rw [O1.loc]; exact T₂.ns) hm2 ?_) (by decide)
    obtain ⟨h₂, g₂, d₂, tk₂, os₂⟩ := s₂
    refine wpAny_mono (mod_r (W.mono (T₂.gr.trans T₂.keep)).X) (fun v s₃ hv => spliced_none ?_) fun _ _ x => x
    obtain ⟨h₃, t₃, tk₃, rfl, rfl, le₃⟩ := hv
    refine wpAny_call_exc PySem.F.excCall_ValueError (fun h₄ e₂ hx₂ => ?_) (by have := sizeLine_eq; show 1 ≤ sizeLine; omega)
    obtain ⟨t, he, htn, ht⟩ := hx₂.there
    have T₄ : Γ.S b m (frs₂ ++ own) ⟨h₄, g₂, d₂, tk₃, os₂⟩ := T₂.heap (tk := tk₃) (le₃.trans hx₂.keeps)
    obtain ⟨o1, vs1, ho1, hd1, hv1⟩ := c₂
    have hne : e1 ≠ e₂ := fun q => by
      have := hx₂.new
      rw [← q, le₃ _ _ ho1] at this; cases this
    have bnone : ∀ {a : Addr}, h₃.get? a = none → b.get? a = none := fun {a} hn => by
      cases q : b.get? a with
      | none => rfl
      | some o => have := le₃ _ _ (T₂.keep _ _ q); rw [hn] at this; cases this
    refine ⟨e₂, t, t₃, rfl, hne, he, ht, ⟨o1, vs1, hx₂.keeps _ _ (le₃ _ _ ho1), hd1, hv1⟩, T₄, bnone hx₂.new, ?_, bnone htn, ?_⟩
    · exact (T₂.heap (tk := tk₃) le₃).notin hx₂.new
    · intro q
      rw [q, he] at ht
      exact absurd (congrArg Obj.cls (Option.some.inj ht)) (by simp)
  · obtain ⟨e2, t, tk, rfl, hne, he, ht, hc, T₃, hbe, hni, hbt, hte⟩ := hv
    refine ⟨e2, t, rfl, hne, he, hc, fun h' he' hs' => ?_⟩
    have T₄ : Γ.S b m (frs₂ ++ own) { s₃ with heap := h' } := T₃.offSame (tk := s₃.toks) hs' hni hbe
    have V := T₄.sav hbe hni
    have hfl : Heap.FunFrames h' (hideAll h' (e2 :: Γ.L :: frs₂.map (·.1))) (Γ.env :: outer) := by
      refine .cons (L := Γ.L) (m := m) (by rw [O2]; decide) hF T₄.ns (hideAll_none _ (.tail _ (.head _))) ((Fs.up su₂).fun fun p hp => ⟨T₄.ow p (List.mem_append_left _ hp), hideAll_none _ (.tail _ (.tail _ (List.mem_map_of_mem hp)))⟩)
    refine wpAny_leaving_firstW hfr hfl hF he' (fun b o q => of_hideAll _ q) (hideAll_none _ (.head _)) rfl rfl rfl fun h'' hL => ?_
    obtain ⟨k1, ⟨_, _, k2⟩, k3, k4⟩ := hL
    obtain ⟨frs₃, su₃, T₅⟩ := T₄.slotsB (s' := { s₃ with heap := h'' }) (Fs.up su₂) V k1 k4 rfl rfl id
    have ht' : h'.get? t = some { cls := .type "tuple", data := .seq #[.str "unknown delta choice (must be 1 or 2): 3" tk] } := (hs'.2 t hte).trans ht
    refine hP _ frs₃ _ e2 t tk (su₂.trans su₃) T₅ ⟨V.le, V.ow, V.tab, by rw [← SameUp.addrs su₂]; exact V.off⟩ ⟨k1, hideAll_none _ (.head _), k2, k3⟩ (Heap.TupAt.of_slots ⟨_, _, ht', rfl, rfl⟩ k4)
end
end Mine
end

section
open PySem PySem.W PySem.Calls PySem.Spec PyProof.Rows
open PySem.W.X (SegX)
open PyProof.Rows.TI (Frs SameUp sameUp_of)
set_option linter.unusedVariables false
namespace Mine
set_option maxRecDepth 100000
set_option maxHeartbeats 400000
theorem sub_VE_stop : isSubtype (.type "ValueError") (.type "StopIteration") = pure false := by rw [isSubtype_type]; kernel_rfl
section
variable {prog : Program} {w : World} {A : Around} {E : Value → Shared → Prop} {s : Shared}
theorem next_raise {a : Addr} {g : Nat} {gs : GenState} {P : End → Shared → Prop} {Q : Option Value → Shared → Prop} (hl : s.heap.NoLimit) (hroom : A.depth < recursionLimit) (hg : s.heap.IsGen a g) (hgs : s.gens[g]? = some gs)
    (hgo : GoX (model prog w) A.in1 P gs (s.setGen g .running))
    (h : ∀ e s₁, e.quiet = true → P e s₁ → ∃ x, e = .ret (.error (.ref x)) ∧ s₁.TypeIs (.ref x) "ValueError" ∧ s₁.heap.IsGen a g ∧ E (.ref x) (s₁.setGen g .finished)) :
    wpAny (model prog w) A (pyNext (.ref a)) Q E s := by
  unfold pyNext
  refine wpAny_bind (wpAny_attempt (wpAny_callSpecial?_slot (name := Str.ofString "__next__") hg.typeIs slot_gen_next
    (wpAny_call_entry slot_gen_next hg.typeIs entry_gen_next ?_ (args_gen_next _))))
  show wpAny _ A.in1 (Builtin.Generator.genWake (.ref a) (.send .none)) _ _ s
  unfold Builtin.Generator.genWake
  refine wpAny_bind (wpAny_holding (wpAny_genNumber hg (wpAny_bind (wpAny_genState hgs ?_))))
  have main : wpAny (model prog w) A.in1 (.resume g (.send .none) [] fun r => match r with
      | .yielded v => ret v
      | .returned v => do
        if v == .none then raiseNew (← newExc (.type "StopIteration") [])
        rule "generator.return-value"; throw (← newExc (.type "StopIteration") [v])
      | .raised e => do
        Builtin.Generator.genLeft (.ref a) e
      | .running => do rule "generator.already-executing"; raiseError "ValueError" "generator already executing"
      | .justStarted => do rule "generator.send-to-fresh"; raiseError "TypeError" "can't send non-None value to a just-started generator"
      | .finished => do raiseNew (← newExc (.type "StopIteration") [])) (fun fin s' => ∃ r, fin = .done (.ret r) ∧ wpAny (model prog w) A (pure (some r)) Q E s') 
      (fun e s' => wpAny (model prog w) A (do if ← isInstance e (.type "StopIteration") then pure none else throw e) Q E s') s := by
    refine wpAny_resumeX hgs hgo fun e s₁ hq hP => ?_
    obtain ⟨x, rfl, hT, hG, hE⟩ := h e s₁ hq hP
    show wpAny _ A.in1 (Builtin.Generator.genLeft (.ref a) (.ref x)) _ _ _
    have hT' : (s₁.setGen g .finished).TypeIs (.ref x) "ValueError" := hT
    obtain ⟨oG, nm, qn, hoG, hcG, hdG⟩ := hG
    have hoG' : (s₁.setGen g .finished).heap.get? a = some oG := hoG
    unfold Builtin.Generator.genLeft Builtin.Generator.madeByALambda
    refine wpAny_bind (wpAny_bind (wpAny_load hoG' (wpAny_pure ?_)))
    refine wpAny_bind (wpAny_isInstance (T := "ValueError") (b := false) hT' sub_VE_stop ?_)
    rw [if_neg (by simp)]
    unfold Builtin.Generator.genEscaped
    refine wpAny_bind (wpAny_isInstance (T := "ValueError") (b := false) hT' sub_VE_stop ?_)
    rw [if_pos (by rfl)]
    refine wpAny_throw ?_
    refine wpAny_bind (wpAny_isInstance (T := "ValueError") (b := false) hT' sub_VE_stop ?_)
    rw [if_neg (by simp)]
    exact wpAny_throw hE
  cases gs with
  | running => exact hgo.elim
  | finished => exact hgo.elim
  | _ =>
    refine wpAny_bind (wpAny_roomToWake hl hroom ?_)
    show wpAny _ A.in1 (.resume g (.send .none) [] _) _ _ s
    exact main
/-- list(it) whose first item raises -/
structure FeedR (prog : Program) (w : World) (A : Around) (E : Value → Shared → Prop) (I S : Addr) (J : Obj → Shared → Prop) : Prop where
  at' : ∀ o s, J o s → s.heap.get? S = some o
  typ : ∀ o s, J o s → s.TypeIs (.ref I) "generator"
  self : ∀ o s E (Q : Value → Shared → Prop), J o s → Q (.ref I) s → wpAny (model prog w) A (pyIter (.ref I)) Q E s
  upd' : ∀ o s h' o' tk, J o s → Heap.SameBut S s.heap h' → h'.get? S = some o' → J o' { s with heap := h', toks := tk }
  fall : ∀ ys k s, J (lsN ys k) s → wpAny (model prog w) A (pyNext (.ref I)) (fun _ _ => False) E s
theorem list_initR {R : Result → Shared → Prop} {I S : Addr} {J : Obj → Shared → Prop} (F : FeedR prog w A.in1 (fun e s' => R (.error e) s') I S J) (hSI : S ≠ I) {s : Shared} (hJ : J (lsN [] 0) s) :
    wpAny (model prog w) A.in1 (Builtin.«list.__init__» ⟨[.ref S, .ref I], []⟩)
      (fun fin s' => match fin with | .done f => R (.ok f) s' | .again c' => c'.quiet = true ∧ codeAny (model prog w) A c' R s') (fun e s' => R (.error e) s') s := by
  show wpAny _ A.in1 (do let old ← Builtin.List.listItems (.ref S); Builtin.List.listUpdate (.ref S) (fun _ => #[]); letGo old.toList.reverse; Builtin.List.listExtendWith (.ref S) (.ref I) .none) _ _ s
  have hS := F.at' _ _ hJ
  refine wpAny_bind ?_
  unfold Builtin.List.listItems
  refine wpAny_bind (wpAny_seqItems hS rfl (wpAny_pure ?_))
  show wpAny _ A.in1 (updateSeq S (fun _ => #[]) >>= fun _ => letGo (#[] : Array Value).toList.reverse >>= fun _ => Builtin.List.listExtendWith (.ref S) (.ref I) .none) _ _ s
  refine wpAny_bind (wpAny_updateSeq hS rfl ?_)
  have hS₂ : (s.heap.update S (Obj.mapSeq fun _ => (#[] : Array Value))).get? S = some (lsN [] 0) := Heap.get?_update_self (Obj.mapSeq (fun _ => (#[] : Array Value))) hS rfl
  have hJ₂ := F.upd' _ _ _ _ s.toks hJ (Heap.SameBut.update ..) hS₂
  refine wpAny_bind (wpAny_letGo ?_)
  generalize s.heap.update S (Obj.mapSeq fun _ => (#[] : Array Value)) = h₂ at hS₂ hJ₂
  have h1 : Builtin.List.listSameRef (.ref S) (.ref I) = false := by simp [Builtin.List.listSameRef, hSI]
  have h2 : (Value.type "generator" == Value.type "list") = false := by decide
  have h3 : (Value.type "generator" == Value.type "tuple") = false := by decide
  unfold Builtin.List.listExtendWith
  refine wpAny_bind (wpAny_typeOf (F.typ _ _ hJ₂) ?_)
  simp only [h1, h2, h3, Bool.or_false, Bool.false_eq_true, if_false]
  refine wpAny_bind (F.self _ _ _ _ hJ₂ ?_)
  refine wpAny_bind (wpAny_holding ?_)
  unfold Builtin.List.listLengthHint
  refine wpAny_bind (wpAny_specialOf (F.typ _ _ hJ₂) PySem.F.gen_no_len ?_)
  show wpAny _ A.in1 (specialOf (Value.ref I) (Str.ofString "__length_hint__") >>= _) _ _ _
  refine wpAny_bind (wpAny_specialOf (F.typ _ _ hJ₂) PySem.F.gen_no_hint ?_)
  refine wpAny_pure ?_
  show wpAny _ A.in1 (rule "list.extend.makes-room" >>= fun _ => Builtin.List.listTouch (.ref S) >>= fun _ =>
    again (.builtin "list.extend.loop" ⟨[.ref S, .ref I, .none], []⟩)) _ _ _
  refine wpAny_bind (wpAny_rule ?_)
  refine wpAny_bind ?_
  show wpAny _ A.in1 (updateSeq S (·.push .none) >>= fun _ => updateSeq S (·.pop)) _ _ _
  refine wpAny_bind (wpAny_updateSeq hS₂ rfl ?_)
  have hS₃ := Heap.get?_update_self (Obj.mapSeq (·.push Value.none)) hS₂ rfl
  refine wpAny_updateSeq (hz := by seq_fits) hS₃ rfl ?_
  have hS₄ : ((h₂.update S (Obj.mapSeq (·.push Value.none))).update S (Obj.mapSeq (·.pop))).get? S = some (lsN [] 2) := Heap.get?_update_self (Obj.mapSeq (·.pop)) hS₃ rfl
  have hsb : Heap.SameBut S h₂ ((h₂.update S (Obj.mapSeq (·.push Value.none))).update S (Obj.mapSeq (·.pop))) := (Heap.SameBut.update h₂ S _).trans (Heap.SameBut.update _ S _)
  have hJ₃ := F.upd' (lsN [] 0) _ _ (lsN [] 2) s.toks hJ₂ hsb hS₄
  refine wpAny_pure ⟨plainId_quiet PySem.F.plain_extend_loop _, ?_⟩
  refine codeAny_builtin PySem.F.entry_extend_loop ?_
  rw [Around.under_plainId PySem.F.plain_extend_loop _]
  show wpAny _ A.in1 (pyNext (.ref I) >>= _) _ _ _
  exact wpAny_bind (wpAny_mono (F.fall [] 2 _ hJ₃) (fun _ _ h => h.elim) fun _ _ x => x)
theorem call_listR {Q : Value → Shared → Prop} {I : Addr} {J : Obj → Shared → Prop} (F : FeedR prog w A.in1.in1 E I s.heap.objs.size J) (hSI : s.heap.objs.size ≠ I)
    (hJ : J (lsN [] 0) { s with heap := s.heap.push (lsN [] 0) }) : wpAny (model prog w) A (call (.type "list") [.ref I]) Q E s := by
  refine callType_codes (Q₁ := fun obj s₁ => obj = .ref s.heap.objs.size ∧ s₁ = { s with heap := s.heap.push { cls := .type "list", data := .seq #[] } }) PySem.F.called_list (PySem.F.typeCall_list_1 _) PySem.F.entry_list_init
    (code_list_new _ ⟨rfl, rfl⟩) fun obj s₁ h₁ => ?_
  obtain ⟨rfl, rfl⟩ := h₁
  have hS : (s.heap.push { cls := .type "list", data := .seq #[] }).get? s.heap.objs.size = some { cls := .type "list", data := .seq #[] } := Heap.get?_push_size _ rfl
  refine ⟨⟨_, hS, rfl⟩, PySem.F.args_list_init_2 _ _, ?_⟩
  exact list_initR (A := A.in1) (R := wants (fun r s₂ => r = .none ∧ Q (.ref s.heap.objs.size) s₂) E) F hSI hJ
end
end Mine
end

section
open PySem PySem.W PySem.Calls PySem.Spec PyProof.Rows
open PySem.W.X (SegX)
open PyProof.Rows.TI (Frs SameUp sameUp_of)
set_option linter.unusedVariables false
namespace Mine
set_option maxRecDepth 100000
set_option maxHeartbeats 1000000
theorem rs_body2 (w : World) : ∃ (r : Rs) (p1 p2 p3 p4 p5 p6 p7 : Pos) (k1 k2 : Nat), (fdAt w 38).body = .stmts r.body ∧ r.b₀ = .Raise (some (.Call (.Name "ValueError" p1) [.BinOp (.Constant (.str "unknown delta choice (must be 1 or 2): %r") k1 p2) .Mod (.Name "which" p3) p4] [] p5)) (some (.Constant .none k2 p6)) p7 ∧ r.suite = [] :=
  ⟨⟨_, _, _, _, _, _, _, _, _, _, _, _, _, _, _, _, _, _, _, _, _, _, _, _, _, _, _, _, _, _, _, _, _, _, _, _, _, _, _, _, _, _, _, _, _⟩, _, _, _, _, _, _, _, _, _, rfl, rfl, rfl⟩
theorem genv_kinds2 (w : World) (L : Addr) : ∀ x k, (x, k) ∈ ([("which", .local), ("tag", .local), ("int", .globalImplicit), ("KeyError", .globalImplicit), ("ValueError", .globalImplicit)] : List (Str × NameKind)) → (genv w L).kindOf x = some k := by
  intro x k hx
  simp only [List.mem_cons, List.not_mem_nil, or_false, Prod.mk.injEq] at hx
  rcases hx with ⟨rfl, rfl⟩ | ⟨rfl, rfl⟩ | ⟨rfl, rfl⟩ | ⟨rfl, rfl⟩ | ⟨rfl, rfl⟩ <;> kernel_rfl
section
variable {Γ : Fx Prg} {b : Heap} {own frs : List (Addr × Obj)} {m : Str → Option Value} {D : Addr} {mg mb : Str → Option Value} {outer : List Env}
theorem cev_int3 (Γ' : Fx Prg) (b : Heap) (m : Str → Option Value) (own : List (Addr × Obj)) (tw : Tok) : Cev Γ' b m own (.type "int") [.int 3 tw] (IsI 3) :=
  fun s E T => call_int_int ⟨⟨tw, rfl⟩, T⟩
theorem list_raise (O : Γ.Ok) (W : Wd Γ.w mg mb Γ.g) (hd : Γ.A.depth + 40 < recursionLimit) (hu : Γ.A.units + 200 < cLine) (hfr : Γ.A.frames = some (Γ.env :: outer)) (hF : Γ.env.frame = some Γ.L) (Fs : Frs outer frs)
    {r : Rs} {p1 p2 p3 p4 p5 p6 p7 : Pos} {k1 k2 : Nat} (hr : r.b₀ = .Raise (some (.Call (.Name "ValueError" p1) [.BinOp (.Constant (.str "unknown delta choice (must be 1 or 2): %r") k1 p2) .Mod (.Name "which" p3) p4] [] p5)) (some (.Constant .none k2 p6)) p7) (hrs : r.suite = [])
    {L' G : Addr} {g : Nat} {oF : Obj} {m0 : Str → Option Value} {s : Shared} {tw : Tok} {E : Value → Shared → Prop} {Q : Value → Shared → Prop} (T : Γ.S b m ((L', oF) :: (frs ++ own)) s) (hn : s.heap.Ns L' m0) (hG : b.IsGen G g)
    (hg : s.gens[g]? = some (.fresh (.func r.body (genv Γ.w L')))) (hgs : s.gens.size = g + 1) (hgd : Γ.dr.2 ≤ g) (hm2 : m0 ("which" : Str) = some (.int 3 tw))
    (hE : ∀ s' frs' B e t tk, SameUp frs frs' → Γ.S b m (frs' ++ own) s' → Sav B b Γ.L own frs → Heap.FlyingW B (Γ.env :: outer) e (.type "ValueError") (.ref t) s'.heap → s'.heap.TupAt t [.str "unknown delta choice (must be 1 or 2): 3" tk] → E (.ref e) s') :
    wpAny Γ.M Γ.A (call (.type "list") [.ref G]) Q E s := by
  obtain ⟨oL, esL, epL, hoL, hdL, rL⟩ := T.ns
  have T4 := T.pushOwn (o := lsN [] 0) rfl
  have T5 := (T4.redr (n := g + 1) (by rw [← hgs]; exact Nat.le_refl _)).swap (l1 := [(s.heap.objs.size, lsN [] 0)]) (hn.push (lsN [] 0)) (Heap.get?_push_of_some _ hoL)
  have hGS : s.heap.objs.size ≠ G := by
    obtain ⟨o, _, _, e, _⟩ := hG
    exact Nat.ne_of_gt (Heap.lt_size (T.keep _ _ e))
  have hks : (fdAt Γ.w 38).scope.kind = .function := by kernel_rfl
  have hgl : (fdAt Γ.w 38).globals = mainGlobals := by kernel_rfl
  have hbu : (fdAt Γ.w 38).builtins = builtinsNs := by kernel_rfl
  have Fs' : Frs (Γ.env :: outer) ((Γ.L, oL) :: frs) := ⟨by rw [O.kind]; decide, hF, ⟨esL, epL, hdL⟩, Fs⟩
  refine call_listR (J := fun o s' => s'.gens[g]? = some (.fresh (.func r.body (genv Γ.w L'))) ∧ (⟨Γ.w, Γ.A, genv Γ.w L', Γ.g, L', (Γ.dr.1, g + 1), Γ.os⟩ : Fx Prg).S b m0 ((s.heap.objs.size, o) :: (Γ.L, oL) :: (frs ++ own)) s') ?_ hGS ⟨hg, T5⟩
  refine ⟨fun o s' J => J.2.ow _ (.head _), fun o s' J => (hG.keeps J.2.keep).typeIs, fun o s' E Q J hQ => wpAny_pyIter_gen (hG.keeps J.2.keep) hQ, fun o s' h' o' tk J hs ho => ⟨J.1, J.2.upd (l1 := []) hs ho⟩, fun ys k s' J => ?_⟩
  obtain ⟨hg', T'⟩ := J
  have perm : ((s.heap.objs.size, lsN ys k) :: (Γ.L, oL) :: (frs ++ own)).Perm (((Γ.L, oL) :: frs) ++ ((s.heap.objs.size, lsN ys k) :: own)) := by
    exact (List.perm_middle (l₁ := (Γ.L, oL) :: frs) (l₂ := own) (a := (s.heap.objs.size, lsN ys k))).symm
  refine next_raise (A := Γ.A.in1.in1) (P := fun e s₁ => ∃ frs' B e2 t tk, e = .ret (.error (.ref e2)) ∧ SameUp ((Γ.L, oL) :: frs) frs' ∧ (⟨Γ.w, Γ.A, genv Γ.w L', Γ.g, L', (Γ.dr.1, g + 1), Γ.os⟩ : Fx Prg).S b m0 (frs' ++ ((s.heap.objs.size, lsN ys k) :: own)) s₁ ∧
      Sav B b L' ((s.heap.objs.size, lsN ys k) :: own) ((Γ.L, oL) :: frs) ∧ Heap.FlyingW B (Γ.env :: outer) e2 (.type "ValueError") (.ref t) s₁.heap ∧ s₁.heap.TupAt t [.str "unknown delta choice (must be 1 or 2): 3" tk])
    (W.mono (T'.gr.trans T'.keep)).lim (by show Γ.A.depth < _; omega) (hG.keeps T'.keep) hg' ?_ ?_
  · refine gen_raises (Γ := ⟨Γ.w, Γ.A, genv Γ.w L', Γ.g, L', (Γ.dr.1, g + 1), Γ.os⟩) (Ag := Γ.A.in1.in1.in1) (r := r) (outer := Γ.env :: outer) (frs := (Γ.L, oL) :: frs) (own := (s.heap.objs.size, lsN ys k) :: own) W ⟨hks, rfl, hgl, hbu, O.hand, (by show Γ.A.depth + 0 + 1 + 20 < _; omega), (by show Γ.A.units + 1 + 1 + 1 + 0 + 3 + 100 < _; omega)⟩
      (genv_kinds2 _ _) ?_ rfl Fs' hr hrs hm2 (fun _ _ _ => cev_int3 _ _ _ _ _) (fun s₁ frs' B e t tk su T₁ V f tu => ⟨frs', B, e, t, tk, rfl, su, T₁, V, f, tu⟩) ((T'.perm perm).setGen rfl)
    show Γ.A.frames.map (genv Γ.w L' :: ·) = _
    rw [hfr]; rfl
  · rintro e s₁ hq ⟨frs', B, e2, t, tk, rfl, su, T₁, V, f, tu⟩
    refine ⟨e2, rfl, f.there, hG.keeps T₁.keep, ?_⟩
    cases frs' with
    | nil => exact su.elim
    | cons p frs'' =>
      obtain ⟨L2, o2⟩ := p
      obtain ⟨h1, ⟨sl, h2⟩, h3⟩ := su
      obtain rfl : L2 = Γ.L := h1
      have h2 : o2 = { oL with slots := sl } := h2
      obtain ⟨oF2, _, _, hoF2, _⟩ := T₁.ns
      have ho2 : s₁.heap.get? Γ.L = some o2 := T₁.ow (Γ.L, o2) (.head _)
      have T₂ := T₁.perm (own' := (s.heap.objs.size, lsN ys k) :: (Γ.L, o2) :: (frs'' ++ own)) (List.perm_middle (l₁ := (Γ.L, o2) :: frs'') (l₂ := own) (a := (s.heap.objs.size, lsN ys k)))
      have T₃ := (T₂.swap (l1 := [(s.heap.objs.size, lsN ys k)]) (m' := m) ⟨o2, esL, epL, ho2, by rw [h2]; exact hdL, rL⟩ hoF2).redr (n := Γ.dr.2) (by have := T₁.bare.2; exact Nat.le_trans hgd (Nat.le_trans (Nat.le_succ g) this))
      have T₄ : Γ.S b m (frs'' ++ own) s₁ := T₃.drop.drop
      exact hE _ frs'' B e2 t tk h3 (T₄.setGen rfl) ⟨V.le, fun p hp => V.ow p (.tail _ hp), V.tab, fun a ha => V.off a (.tail _ ha)⟩ f tu
end
end Mine
end

section
open PySem PySem.W PySem.Calls PySem.Spec PyProof.Rows
open PySem.W.X (SegX)
open PyProof.Rows.TI (Frs SameUp sameUp_of)
set_option linter.unusedVariables false
namespace Mine
set_option maxRecDepth 100000
set_option maxHeartbeats 1000000
local macro_rules | `(tactic| walk_at "m") => `(tactic| ((repeat (rw [upd_ne (by decide)])); first | exact upd_eq _ _ _ | assumption))
local macro_rules | `(tactic| walk_at "k") => `(tactic| exact kd (by assumption) (by kernel_rfl))
local macro_rules | `(tactic| walk_at "bui") => `(tactic| exact Ev.boot (by assumption) (by assumption) (by kernel_rfl) (by kernel_rfl) (by decide) (by walk_at "k") (by decide))
local macro_rules | `(tactic| walk_at "top") => `(tactic| exact Ev.top (by assumption) (by assumption) (by kernel_rfl) (by walk_at "k") (by decide))
section
variable {Γ : Fx Prg} {b : Heap} {own frs : List (Addr × Obj)} {m : Str → Option Value} {D : Addr} {mg mb : Str → Option Value} {outer : List Env}
theorem restore_raise (O : Γ.Ok) (W : Wd Γ.w mg mb Γ.g) (hd : Γ.A.depth + 40 < recursionLimit) (hu : Γ.A.units + 200 < cLine) (hfr : Γ.A.frames = some (Γ.env :: outer)) (hF : Γ.env.frame = some Γ.L) (Fs : Frs outer frs)
    {s : Shared} {tw : Tok} {E : Value → Shared → Prop} {Q : Value → Shared → Prop} (T : Γ.S b m (frs ++ own) s)
    (hE : ∀ b' s' frs' B e t tk, Le b b' → SameUp frs frs' → Γ.S b' m (frs' ++ own) s' → Sav B b' Γ.L own frs → Heap.FlyingW B (Γ.env :: outer) e (.type "ValueError") (.ref t) s'.heap → s'.heap.TupAt t [.str "unknown delta choice (must be 1 or 2): 3" tk] → E (.ref e) s') :
    wpAny Γ.M Γ.A (call (.ref 38) [.ref D, .int 3 tw]) (fun gv s₁ => wpAny Γ.M Γ.A (call (.type "list") [gv]) Q E s₁) E s := by
  have Ws := W.mono (T.gr.trans T.keep)
  obtain ⟨r, p1, p2, p3, p4, p5, p6, p7, k1, k2, hr, hr0, hrs⟩ := rs_body2 Γ.w
  refine wpAny_call (codeAny_call_generator (fd := fdAt Γ.w 38) (by omega) (Ws.X 38 _ rfl) (by kernel_rfl) rfl rfl hr (codeRec_of Ws.X (by kernel_rfl)) ?_)
  have hb : bindArgs (fdAt Γ.w 38) ⟨[.ref D, .int 3 tw], []⟩ = pure [(("delta" : Str), Value.ref D), ("which", .int 3 tw)] := by kernel_rfl
  with_reducible refine wpAny_of_eq hb ?_
  have hall : ((fdAt Γ.w 38).scope.names.all fun y => y.2 != .cell) = true := by kernel_rfl
  have hc1 : ∀ x ∈ (fdAt Γ.w 38).scope.names, x.2 ≠ .cell := fun x hx => by
    have := List.all_eq_true.mp hall x hx
    simpa using this
  have hl1 : ∀ x ∈ [(("delta" : Str), Value.ref D), ("which", .int 3 tw)], (fdAt Γ.w 38).scope.names.lookup x.1 = some .local := fun x hx => by
    rcases List.mem_cons.mp hx with rfl | hx
    · show (fdAt Γ.w 38).scope.names.lookup ("delta" : Str) = _
      kernel_rfl
    · rcases List.mem_cons.mp hx with rfl | hx
      · show (fdAt Γ.w 38).scope.names.lookup ("which" : Str) = _
        kernel_rfl
      · exact nomatch hx
  have hks : (fdAt Γ.w 38).scope.kind = .function := by kernel_rfl
  with_reducible refine wpAny_newFunctionEnv hc1 hl1 (fun h' hn hsb => ?_) hks
  have TL := T.pushOwn (o := { cls := .type "frame", data := .dict #[] }) rfl
  obtain ⟨oF, hoF, nsF⟩ := LCg.ns_obj hn
  have T1 := TL.upd (l1 := []) (tk := s.toks + 2) hsb hoF
  refine ⟨(W.mono (T1.gr.trans T1.keep)).lim, ?_⟩
  have T2 := T1.take (r := h'.objs.size) (o := genObj s.gens.size (fdAt Γ.w 38).name (fdAt Γ.w 38).qualname (s.toks + 2))
    (s' := { s with gens := s.gens.push (.fresh (.func r.body (genv Γ.w s.heap.objs.size))), toks := s.toks + 2 + 1 + 1, heap := h'.push (genObj s.gens.size (fdAt Γ.w 38).name (fdAt Γ.w 38).qualname (s.toks + 2)) })
    (get_size _) (Le.push _ _) (Heap.get?_push_size _ rfl) rfl rfl (fun h => ⟨h.1.push rfl, Nat.le_trans h.2 (by simp)⟩)
  obtain ⟨b₁, l₁, eG, T3⟩ := T2.freeze
  have hnG := hn.push (genObj s.gens.size (fdAt Γ.w 38).name (fdAt Γ.w 38).qualname (s.toks + 2))
  have gsz : Γ.dr.2 ≤ s.gens.size := T.bare.2
  exact list_raise O W hd hu hfr hF Fs hr0 hrs (g := s.gens.size) T3 hnG ⟨_, _, _, eG, rfl, rfl, rfl⟩ (by simp) (by simp) gsz rfl (fun s' frs' B e t tk => hE b₁ s' frs' B e t tk l₁)
end
theorem law_third_spec {w : World} {mg mb : Str → Option Value} {dr : Dn} {os : OsState} {A : Around} {s : Shared} {E : Value → Shared → Prop} {h0 : Heap} (C : Cs dr os A 25 s) (W : Wd w mg mb h0) (Ws : Wd w mg mb s.heap) (k0 : Le h0 s.heap) (n57 : h0.get? 57 = none)
    {outer : List Env} {frs : List (Addr × Obj)} (hfr : A.frames = some outer) (Fs : Frs outer frs) (hf : ∀ p ∈ frs, s.heap.get? p.1 = some p.2 ∧ h0.get? p.1 = none) (nd : (57 :: frs.map (·.1)).Nodup) {D : Addr} :
    wpAny (model Prg w) A (call (.ref 103) [.ref D]) (fun r s' =>
      (∀ x o, x ∉ 57 :: frs.map (·.1) → s.heap.get? x = some o → s'.heap.get? x = some o) ∧ Tab s'.heap ∧ s'.drawn = dr.1 ∧ s'.os = os ∧ GB dr.2 s'.gens ∧ (∃ frs', SameUp frs frs' ∧ ∀ q ∈ frs', s'.heap.get? q.1 = some q.2) ∧ IsS "unknown delta choice (must be 1 or 2): 3" r) E s := by
  refine enterH (fd := fdAt w 103) frs C (Ws.X 103 _ rfl) (by kernel_rfl) (codeRec_of Ws.X (by kernel_rfl)) Ws.lim rfl (binds := [("lines", .ref D)]) (by kernel_rfl) rfl (by kernel_rfl) rfl rfl rfl rfl rfl
    (fun p hp => (hf p hp).1) nd ?_
  intro L b s₁ Γ e2 e3 e4 e5 e6 e7 e8 O hL S
  have W' : Wd w mg mb Γ.g := W.mono fun x o q => by
    rw [e5]
    refine hideAll_get _ (gget (k0 _ _ q) fun z => by rw [z, n57] at q; cases q) fun z => ?_
    obtain ⟨p, hp, z⟩ := List.mem_map.mp z
    rw [← z, (hf p hp).2] at q; cases q
  subst e2 e6 e7
  have hm1 : (bindL (envF Γ.w 103 L).kindOf [("lines", .ref D)] fun _ => none) "lines" = some (.ref D) := by kernel_rfl
  generalize bindL (envF Γ.w 103 L).kindOf [("lines", .ref D)] (fun _ => none) = m at S hm1
  have hfr' : Γ.A.frames = some (Γ.env :: outer) := by rw [e8, e3]; exact Around.frames_deeper hfr
  have hF : Γ.env.frame = some Γ.L := by rw [e3, e4]; rfl
  have hd1 : Γ.A.depth + 40 < recursionLimit := by rw [e8]; have := C.depth; show A.depth + 1 + 40 < _; omega
  have hu1 : Γ.A.units + 200 < cLine := by rw [e8]; have := C.units; show A.units + 3 + 200 < _; omega
  obtain ⟨o38, h38, hd38⟩ : ∃ o, Γ.g.get? 38 = some o ∧ o.data = .func (fdAt Γ.w 38) := ⟨_, W'.X 38 _ rfl, rfl⟩
  have S : Γ.S b m (frs ++ []) s₁ := by rw [List.append_nil]; exact S
  have fin : ∀ (frs' : List (Addr × Obj)) (b' : Heap) (m' : Str → Option Value) (s' : Shared) (E' : Value → Shared → Prop) (tk : Tok), SameUp frs frs' → Γ.S b' m' (frs' ++ []) s' →
      (∀ x o, x ∉ 57 :: frs.map (·.1) → s.heap.get? x = some o → s'.heap.get? x = some o) ∧ Tab s'.heap ∧ s'.drawn = Γ.dr.1 ∧ s'.os = Γ.os ∧ GB Γ.dr.2 s'.gens ∧ (∃ frs', SameUp frs frs' ∧ ∀ q ∈ frs', s'.heap.get? q.1 = some q.2) ∧ IsS "unknown delta choice (must be 1 or 2): 3" (.str "unknown delta choice (must be 1 or 2): 3" tk) := by
    intro frs' b' m' s' E' tk su T
    refine ⟨fun x o hx ex => ?_, T.tab, T.dr, T.os, T.bare, ⟨frs', su, fun q hq => T.ow q (List.mem_append_left _ hq)⟩, _, rfl⟩
    simp only [List.mem_cons, not_or] at hx
    refine T.keep _ _ (T.gr _ _ ?_)
    rw [e5]
    exact hideAll_get _ (gget ex hx.1) hx.2
  refine wpAny_execs_cons (wpAny_Try_except ?_)
  refine wpAny_execs_cons (wpAny_Return_some ?_)
  refine Call_ (Ev.use (Γ := Γ) (P := IsV (.type "list")) (by walk_at "bui") S fun v s₂ hv S₂ => ?_) (by rfl)
  obtain rfl : v = .type "list" := hv
  refine callWith_type1 (spliced_more (Call_ (Ev.use (Γ := Γ) (P := IsV (.ref 38)) (by walk_at "top") S₂ fun v s₃ hv S₃ => ?_) (by rfl)) (by rfl)) (by rfl) (by rfl)
  obtain rfl : v = .ref 38 := hv
  refine callWith_def (o := o38) hd38 (spliced_more (Ev.use (Γ := Γ) (P := IsV (.ref D)) (Ev.loc O hm1 (by walk_at "k") (by decide)) S₃ fun v s₄ hv S₄ => spliced_more (wpAny_Constant_int (spliced_none ⟨?_, ?_⟩)) (by rfl)) (by rfl)) (by rfl)
  · exact S₄.keep _ _ (S₄.gr _ _ h38)
  obtain rfl : v = .ref D := hv
  refine wpAny_mono (restore_raise (Q := fun _ _ => False) (E := fun x s' => ∃ b' frs' B e t tk, x = .ref e ∧ Le b b' ∧ SameUp frs frs' ∧ Γ.S b' m (frs' ++ []) s' ∧ Sav B b' Γ.L [] frs ∧ Heap.FlyingW B (Γ.env :: outer) e (.type "ValueError") (.ref t) s'.heap ∧ s'.heap.TupAt t [.str "unknown delta choice (must be 1 or 2): 3" tk]) O W' hd1 hu1 hfr' hF Fs S₄.toks
    (fun b' s' frs' B e t tk l su T V f tu => ⟨b', frs', B, e, t, tk, rfl, l, su, T, V, f, tu⟩)) (fun gv s₅ h => spliced_none (wpAny_mono h (fun _ _ x => x.elim) fun x s' hx => ?_)) fun x s' hx => ?_
  · obtain ⟨b', frs', B, e, t, tk, rfl, l, su, T, V, f, tu⟩ := hx
    refine wpAny_looks_onW hfr' hF f fun h₄ held₄ u₄ => ?_
    refine wpAny_landsW held₄ fun h₅ fl₅ u₅ => ?_
    have V' : Sav B b' Γ.L [] frs' := ⟨V.le, V.ow, V.tab, by rw [SameUp.addrs su]; exact V.off⟩
    obtain ⟨frs₅, su₅, T₅⟩ := T.slotsB (s' := { s' with heap := h₅ }) (Fs.up su) V' fl₅.1 (u₄.trans u₅) rfl rfl id
    refine wpAny_handleBy_builtin_as (X := "ValueError") (T := "ValueError") (b := true) PySem.F.isExc_ValueError PySem.F.notTuple_ValueError (by rw [isSubtype_type]; kernel_rfl) ?_
    refine Name_function_global O.kind (by walk_at "k") (hd := by decide) (loadGlobal_builtin (v := .type "ValueError") (by rw [O.glob]; exact W'.G.keeps (T₅.gr.trans T₅.keep)) (W'.mn (by kernel_rfl)) (by rw [O.bui]; exact W'.B.keeps (T₅.gr.trans T₅.keep)) (W'.mb (by kernel_rfl) (by decide)) ?_)
    refine ⟨rfl, fl₅.there, ?_⟩
    rw [if_pos rfl]
    refine lands_againW fl₅ fun h₆ fl₆ u₆ => ?_
    obtain ⟨frs₆, su₆, T₆⟩ := T.slotsB (s' := { s' with heap := h₆ }) (Fs.up su) V' fl₆.1 ((u₄.trans u₅).trans u₆) rfl rfl id
    have tu₆ := tu.of_slots ((u₄.trans u₅).trans u₆)
    obtain ⟨oe, vs, hoe, hce, hde, hv0⟩ := fl₆.first
    obtain ⟨ot, nt, hot, hct, hdt⟩ := tu₆
    obtain ⟨oL, esL, epL, hoL, hdL, rL⟩ := T₆.ns
    have heL : e ≠ Γ.L := fun q => by rw [q, hoL] at hoe; cases hoe; rw [hdL] at hde; cases hde
    have htL : t ≠ Γ.L := fun q => by rw [q, hoL] at hot; cases hot; rw [hdL] at hdt; cases hdt
    refine wpAny_storeName_local (by walk_at "k") (by rw [O.loc]; exact T₆.ns) (fun h₇ hn₇ hs₇ => ?_) (by rw [O.kind]; rfl)
    rw [O.loc] at hn₇ hs₇
    have T₇ : Γ.S b' (upd m "error" (.ref e)) (frs₆ ++ []) { s' with heap := h₇ } := T₆.store (tk := s'.toks) hn₇ hs₇
    have xe : h₇.ExcAt e "ValueError" (.ref t) := ⟨oe, vs, (hs₇.2 _ heL).trans hoe, hce, hde, hv0⟩
    have xt : h₇.TupAt t [.str "unknown delta choice (must be 1 or 2): 3" tk] := ⟨ot, nt, (hs₇.2 _ htL).trans hot, hct, hdt⟩
    refine wpAny_execs_cons (wpAny_Return_some ?_)
    refine Call_ (Name_function_global O.kind (by walk_at "k") (hd := by decide) (loadGlobal_builtin (v := .type "str") (by rw [O.glob]; exact W'.G.keeps (T₇.gr.trans T₇.keep)) (W'.mn (by kernel_rfl)) (by rw [O.bui]; exact W'.B.keeps (T₇.gr.trans T₇.keep)) (W'.mb (by kernel_rfl) (by decide)) ?_)) (by rfl)
    refine callWith_type1 (spliced_more (wpAny_Name (wpAny_loadName_local O.kind (by walk_at "k") (by rw [O.loc]; exact T₇.ns) (upd_eq _ _ _) (spliced_none ?_)) (by decide)) (by rfl)) (by rfl) (by rfl)
    refine PySem.P.str_of_exc_one PySem.F.excStr_ValueError (by show Γ.A.units + 2 < _; omega) xe xt ?_
    refine wpAny_bind (wpAny_bindName (wpAny_storeName_local (by walk_at "k") (by rw [O.loc]; exact T₇.ns) (fun h₈ hn₈ hs₈ => ?_) (by rw [O.kind]; rfl)))
    rw [O.loc] at hn₈ hs₈
    have T₈ : Γ.S b' (upd (upd m "error" (.ref e)) "error" .none) (frs₆ ++ []) { s' with heap := h₈ } := T₇.store (tk := s'.toks) hn₈ hs₈
    unfold unbindBehindTheSuite
    refine wpAny_onRaise (wpAny_unbindName_local (v := .none) (by walk_at "k") (by rw [O.loc]; exact T₈.ns) (upd_eq _ _ _) (by rw [O.kind]; rfl) fun h₉ u hn₉ hs₉ => ?_)
    rw [O.loc] at hn₉ hs₉
    have T₉ := T₈.store (tk := s'.toks) hn₉ hs₉
    have T₉' : Γ.S b' _ (frs₆ ++ []) { s' with heap := h₉ } := T₉
    exact fin frs₆ b' _ { s' with heap := h₉ } (fun _ _ => True) tk (su.trans su₆) T₉'
  · obtain ⟨b', frs', B, e, t, tk, rfl, l, su, T, V, f, tu⟩ := hx
    refine wpAny_looks_onW hfr' hF f fun h₄ held₄ u₄ => ?_
    refine wpAny_landsW held₄ fun h₅ fl₅ u₅ => ?_
    have V' : Sav B b' Γ.L [] frs' := ⟨V.le, V.ow, V.tab, by rw [SameUp.addrs su]; exact V.off⟩
    obtain ⟨frs₅, su₅, T₅⟩ := T.slotsB (s' := { s' with heap := h₅ }) (Fs.up su) V' fl₅.1 (u₄.trans u₅) rfl rfl id
    refine wpAny_handleBy_builtin_as (X := "ValueError") (T := "ValueError") (b := true) PySem.F.isExc_ValueError PySem.F.notTuple_ValueError (by rw [isSubtype_type]; kernel_rfl) ?_
    refine Name_function_global O.kind (by walk_at "k") (hd := by decide) (loadGlobal_builtin (v := .type "ValueError") (by rw [O.glob]; exact W'.G.keeps (T₅.gr.trans T₅.keep)) (W'.mn (by kernel_rfl)) (by rw [O.bui]; exact W'.B.keeps (T₅.gr.trans T₅.keep)) (W'.mb (by kernel_rfl) (by decide)) ?_)
    refine ⟨rfl, fl₅.there, ?_⟩
    rw [if_pos rfl]
    refine lands_againW fl₅ fun h₆ fl₆ u₆ => ?_
    obtain ⟨frs₆, su₆, T₆⟩ := T.slotsB (s' := { s' with heap := h₆ }) (Fs.up su) V' fl₆.1 ((u₄.trans u₅).trans u₆) rfl rfl id
    have tu₆ := tu.of_slots ((u₄.trans u₅).trans u₆)
    obtain ⟨oe, vs, hoe, hce, hde, hv0⟩ := fl₆.first
    obtain ⟨ot, nt, hot, hct, hdt⟩ := tu₆
    obtain ⟨oL, esL, epL, hoL, hdL, rL⟩ := T₆.ns
    have heL : e ≠ Γ.L := fun q => by rw [q, hoL] at hoe; cases hoe; rw [hdL] at hde; cases hde
    have htL : t ≠ Γ.L := fun q => by rw [q, hoL] at hot; cases hot; rw [hdL] at hdt; cases hdt
    refine wpAny_storeName_local (by walk_at "k") (by rw [O.loc]; exact T₆.ns) (fun h₇ hn₇ hs₇ => ?_) (by rw [O.kind]; rfl)
    rw [O.loc] at hn₇ hs₇
    have T₇ : Γ.S b' (upd m "error" (.ref e)) (frs₆ ++ []) { s' with heap := h₇ } := T₆.store (tk := s'.toks) hn₇ hs₇
    have xe : h₇.ExcAt e "ValueError" (.ref t) := ⟨oe, vs, (hs₇.2 _ heL).trans hoe, hce, hde, hv0⟩
    have xt : h₇.TupAt t [.str "unknown delta choice (must be 1 or 2): 3" tk] := ⟨ot, nt, (hs₇.2 _ htL).trans hot, hct, hdt⟩
    refine wpAny_execs_cons (wpAny_Return_some ?_)
    refine Call_ (Name_function_global O.kind (by walk_at "k") (hd := by decide) (loadGlobal_builtin (v := .type "str") (by rw [O.glob]; exact W'.G.keeps (T₇.gr.trans T₇.keep)) (W'.mn (by kernel_rfl)) (by rw [O.bui]; exact W'.B.keeps (T₇.gr.trans T₇.keep)) (W'.mb (by kernel_rfl) (by decide)) ?_)) (by rfl)
    refine callWith_type1 (spliced_more (wpAny_Name (wpAny_loadName_local O.kind (by walk_at "k") (by rw [O.loc]; exact T₇.ns) (upd_eq _ _ _) (spliced_none ?_)) (by decide)) (by rfl)) (by rfl) (by rfl)
    refine PySem.P.str_of_exc_one PySem.F.excStr_ValueError (by show Γ.A.units + 2 < _; omega) xe xt ?_
    refine wpAny_bind (wpAny_bindName (wpAny_storeName_local (by walk_at "k") (by rw [O.loc]; exact T₇.ns) (fun h₈ hn₈ hs₈ => ?_) (by rw [O.kind]; rfl)))
    rw [O.loc] at hn₈ hs₈
    have T₈ : Γ.S b' (upd (upd m "error" (.ref e)) "error" .none) (frs₆ ++ []) { s' with heap := h₈ } := T₇.store (tk := s'.toks) hn₈ hs₈
    unfold unbindBehindTheSuite
    refine wpAny_onRaise (wpAny_unbindName_local (v := .none) (by walk_at "k") (by rw [O.loc]; exact T₈.ns) (upd_eq _ _ _) (by rw [O.kind]; rfl) fun h₉ u hn₉ hs₉ => ?_)
    rw [O.loc] at hn₉ hs₉
    have T₉ := T₈.store (tk := s'.toks) hn₉ hs₉
    have T₉' : Γ.S b' _ (frs₆ ++ []) { s' with heap := h₉ } := T₉
    exact fin frs₆ b' _ { s' with heap := h₉ } (fun _ _ => True) tk (su.trans su₆) T₉'
end Mine
end

section
open PySem PySem.W PySem.Calls PySem.Spec PyProof.Rows
set_option linter.unusedVariables false
namespace Mine
set_option maxRecDepth 100000
set_option maxHeartbeats 1000000
/-! the comparison of lists of lists of texts -/
def dataL (xs : List Str) : PyData := .list (xs.map .str)
def dataLL (L : List (List Str)) : PyData := .list (L.map dataL)
def ListS (h : Heap) (v : Value) (xs : List Str) : Prop := ∃ D ys, v = .ref D ∧ h.PlainList D ys.toArray ∧ All2 (fun v x => IsS x v) ys xs
theorem ListS.mono {h h' : Heap} (l : Le h h') {v : Value} {xs : List Str} (i : ListS h v xs) : ListS h' v xs := let ⟨D, ys, e, r, q⟩ := i; ⟨D, ys, e, plMono l r, q⟩
theorem reads_strs {h : Heap} {ys : List Value} {xs : List Str} (hi : All2 (fun v x => IsS x v) ys xs) : ∃ as, ReadsAll h ys (xs.map .str) as := by
  induction hi with
  | nil => exact ⟨[], .nil⟩
  | cons h _ ih =>
    obtain ⟨t, rfl⟩ := h
    obtain ⟨as, r⟩ := ih
    exact ⟨[] ++ as, .cons (.str _ t) r⟩
theorem reads_L {h : Heap} {v : Value} {xs : List Str} (i : ListS h v xs) : ∃ as, Reads h v (dataL xs) as := by
  obtain ⟨D, ys, rfl, hp, hi⟩ := i
  obtain ⟨o, ho, hc, n, hd⟩ := hp.isList
  obtain ⟨as, r⟩ := reads_strs (h := h) hi
  exact ⟨D :: as, .list ho hc hd (by simpa using r)⟩
theorem reads_LL {h : Heap} {a : Addr} {vs : List Value} {L : List (List Str)} (hl : h.IsList a vs.toArray) (hi : All2 (ListS h) vs L) : ∃ as, Reads h (.ref a) (dataLL L) as := by
  obtain ⟨o, ho, hc, n, hd⟩ := hl
  have : ∃ as, ReadsAll h vs (L.map dataL) as := by
    clear ho hd
    induction hi with
    | nil => exact ⟨[], .nil⟩
    | cons h _ ih =>
      obtain ⟨as, r⟩ := reads_L h
      obtain ⟨bs, rs⟩ := ih
      exact ⟨as ++ bs, .cons r rs⟩
  obtain ⟨as, r⟩ := this
  exact ⟨a :: as, .list ho hc hd (by simpa using r)⟩
theorem lay_strs : ∀ {xs : List Str}, (∀ x ∈ xs, PyData.strOk x = true) → PyData.canLayAll0 (xs.map .str) = true
  | [], _ => rfl
  | x :: r, h => by
    rw [List.map_cons, PyData.canLayAll0, PyData.canLay0, h x (.head _), lay_strs fun y hy => h y (.tail _ hy)]; rfl
theorem lay_LL : ∀ {L : List (List Str)}, (∀ xs ∈ L, ∀ x ∈ xs, PyData.strOk x = true) → PyData.canLayAll0 (L.map dataL) = true
  | [], _ => rfl
  | xs :: r, h => by
    rw [List.map_cons, PyData.canLayAll0, dataL, PyData.canLay0, lay_strs (h xs (.head _)), lay_LL fun y hy => h y (.tail _ hy)]; rfl
theorem depth_LL : ∀ (L : List (List Str)), PyData.depthAll (L.map dataL) ≤ 1
  | [] => Nat.zero_le _
  | xs :: r => by
    have := depth_LL r
    rw [List.map_cons, PyData.depthAll, dataL, PyData.depth, depthAll_strs' xs]; omega
theorem shaped_LL {L : List (List Str)} (h : ∀ xs ∈ L, ∀ x ∈ xs, PyData.strOk x = true) : SeqAt.shaped (dataLL L) = true := by
  unfold SeqAt.shaped
  have h1 : PyData.canLay0 (dataLL L) = true := by rw [dataLL, PyData.canLay0]; exact lay_LL h
  have h2 : PyData.depth (dataLL L) ≤ 64 := by
    have := depth_LL L
    rw [dataLL, PyData.depth]; omega
  rw [h1, decide_eq_true h2]; rfl
theorem neLL {w : World} {A : Around} {E : Value → Shared → Prop} {s : Shared} {a b : Addr} {vs ws : List Value} {L : List (List Str)} {Q : Value → Shared → Prop} (ha : s.heap.IsList a vs.toArray) (hva : All2 (ListS s.heap) vs L) (hb : s.heap.IsList b ws.toArray) (hvb : All2 (ListS s.heap) ws L)
    (hok : ∀ xs ∈ L, ∀ x ∈ xs, PyData.strOk x = true) (hu : A.units + 64 < cLine) (h : Q (.bool false) s) : wpAny (model Prg w) A (compareOp .NotEq (.ref a) (.ref b)) Q E s := by
  obtain ⟨as, ra⟩ := reads_LL ha hva
  obtain ⟨bs, rb⟩ := reads_LL hb hvb
  refine ne_dataH ra rb (shaped_LL hok) (shaped_LL hok) hu ?_
  rw [SeqAt.eqv_refl _ (by rw [dataLL, PyData.canLay0]; exact lay_LL hok)]
  exact h
/-! the lines -/
def tagsT : List Str := ["  ", "- ", "+ ", "? ", "-x"]
def textsT : List Str := ["a", "b*", "ab", "- a", "", "?a"]
def lineF (x : Int) : Str × Str := (tagsT.getD (x.fmod 5).toNat default, textsT.getD ((x.fdiv 5).fmod 6).toNat default)
def numsF (ns : List Int) : List Int := ns.take 6 ++ [6, 12, 1, 2, 16, 22, 13, 25, 7, 9]
def linesF (ns : List Int) : List (Str × Str) := (numsF ns).map lineF
def wholeF (lines : List (Str × Str)) : List Str := lines.map fun x => x.1 ++ x.2
def dueF (lines : List (Str × Str)) (items : List Item) (tag : Str) : List Str := (lines.filter fun x => ([("  " : Str), tag] : List Str).contains x.1 && meantF items x.2).map (·.2)
theorem lineF_tag (x : Int) : (lineF x).1 ∈ tagsT := by
  have h := fmod_pos x (n := 5) (by decide)
  have h5 : tagsT.length = 5 := by decide
  unfold lineF
  dsimp only
  rw [List.getD_eq_getElem?_getD, List.getElem?_eq_getElem (by omega)]
  exact List.getElem_mem _
theorem lineF_text (x : Int) : (lineF x).2 ∈ textsT := by
  have h := fmod_pos (x.fdiv 5) (n := 6) (by decide)
  have h5 : textsT.length = 6 := by decide
  unfold lineF
  dsimp only
  rw [List.getD_eq_getElem?_getD, List.getElem?_eq_getElem (by omega)]
  exact List.getElem_mem _
theorem lines_mem {ns : List Int} {x : Str × Str} (h : x ∈ linesF ns) : x.1 ∈ tagsT ∧ x.2 ∈ textsT := by
  obtain ⟨k, _, rfl⟩ := List.mem_map.mp h
  exact ⟨lineF_tag k, lineF_text k⟩
theorem tags_two : ∀ t ∈ tagsT, t.cps.toList.length = 2 := by decide +kernel
theorem texts_len : ∀ t ∈ textsT, t.length ≤ 3 := by decide +kernel
theorem texts_ok : ∀ t ∈ textsT, PyData.strOk t = true := by decide +kernel
theorem side_due (ns : List Int) (items : List Item) (tag : Str) : (restF tag (wholeF (linesF ns))).filter (meantF items) = dueF (linesF ns) items tag := by
  unfold wholeF dueF
  rw [restF_lines tag _ fun x hx => tags_two _ (lines_mem hx).1, List.filter_map, List.filter_filter]
  congr 1
  exact List.filter_congr fun x _ => Bool.and_comm _ _
theorem due_mem {ns : List Int} {items : List Item} {tag t : Str} (h : t ∈ dueF (linesF ns) items tag) : t ∈ textsT := by
  obtain ⟨x, hx, rfl⟩ := List.mem_map.mp h
  exact (lines_mem (List.mem_filter.mp hx).1).2
theorem lines_len (ns : List Int) : (linesF ns).length ≤ 16 := by
  unfold linesF numsF
  rw [List.length_map, List.length_append]
  have := List.length_take_le 6 ns
  show _ + 10 ≤ 16
  omega
theorem due_len (ns : List Int) (items : List Item) (tag : Str) : (dueF (linesF ns) items tag).length ≤ 16 := by
  unfold dueF
  rw [List.length_map]
  exact Nat.le_trans (List.length_filter_le _ _) (lines_len ns)
end Mine
end

section
open PySem PySem.W PySem.Calls PySem.Spec PyProof.Rows
set_option linter.unusedVariables false
namespace Mine
set_option maxRecDepth 100000
set_option maxHeartbeats 1000000
section
variable {Γ : Fx Prg} {b : Heap} {m : Str → Option Value} {own : List (Addr × Obj)}
/-- texts one after another -/
def ArgStrs (Γ : Fx Prg) (b : Heap) (m : Str → Option Value) (own : List (Addr × Obj)) (es : List Expr) (xs : List Str) : Prop := ArgsE Γ b m own es (fun vs => All2 (fun v x => IsS x v) vs xs)
theorem ArgsE.mono {es : List Expr} {P R : List Value → Prop} (h : ArgsE Γ b m own es P) (k : ∀ vs, P vs → R vs) : ArgsE Γ b m own es R :=
  fun s E pos T => wpAny_mono (h s E pos T) (fun vs s' x => ⟨k vs x.1, x.2⟩) fun _ _ x => x
theorem ArgStrs.nil : ArgStrs Γ b m own [] [] := ArgsE.nil.mono fun vs h => by subst h; exact .nil
theorem ArgStrs.cons {e : Expr} {es : List Expr} {x : Str} {xs : List Str} (he : Ev Γ b m own e (IsS x)) (h : ArgStrs Γ b m own es xs) (hs : starEach (e :: es) Γ.env = (false, eval e Γ.env) :: starEach es Γ.env := by rfl) : ArgStrs Γ b m own (e :: es) (x :: xs) :=
  (ArgsE.cons he h hs).mono fun vs hv => by obtain ⟨v, vs', rfl, h1, h2⟩ := hv; exact .cons h1 h2
def ArgInts (Γ : Fx Prg) (b : Heap) (m : Str → Option Value) (own : List (Addr × Obj)) (es : List Expr) (xs : List Int) : Prop := ArgsE Γ b m own es (fun vs => All2 (fun v x => IsI x v) vs xs)
theorem ArgInts.nil : ArgInts Γ b m own [] [] := ArgsE.nil.mono fun vs h => by subst h; exact .nil
theorem ArgInts.cons {e : Expr} {es : List Expr} {x : Int} {xs : List Int} (he : Ev Γ b m own e (IsI x)) (h : ArgInts Γ b m own es xs) (hs : starEach (e :: es) Γ.env = (false, eval e Γ.env) :: starEach es Γ.env := by rfl) : ArgInts Γ b m own (e :: es) (x :: xs) :=
  (ArgsE.cons he h hs).mono fun vs hv => by obtain ⟨v, vs', rfl, h1, h2⟩ := hv; exact .cons h1 h2
/-- [x, y, ..][i] -/
theorem Ev.tmpItem {es : List Expr} {slice : Expr} {lp pos : Pos} {xs : List Str} {i : Int} {x : Str} (h : ArgStrs Γ b m own es xs) (hi : ∀ D o, Ev Γ b m ((D, o) :: own) slice (IsI i)) (h0 : 0 ≤ i) (hx : xs[i.toNat]? = some x) (hn : xs.length ≤ 100)
    (hs : ∀ o v, subscripted slice false o v = operate [o, v] (getItem o v)) : Ev Γ b m own (.Subscript (.List es lp) slice pos) (IsS x) := by
  intro s E T
  have hlt := (List.getElem?_eq_some_iff.mp hx).1
  refine Subscript_ (List_ (wpAny_mono (h s E lp T) (fun vs s₁ hv => ?_) fun _ _ x => x))
  obtain ⟨hvs, T₁⟩ := hv
  have hl := hvs.length
  refine wpAny_newObj_type ?_ (by show vs.toArray.size ≤ sizeLine; rw [List.size_toArray]; have := sizeLine_eq; omega)
  have T₂ := T₁.pushOwn (o := { cls := .type "list", data := .seq vs.toArray }) rfl
  refine (hi _ _).use T₂ fun v s₃ hv T₃ => ?_
  obtain ⟨u, rfl⟩ := hv
  have hL : s₃.heap.IsList s₁.heap.objs.size vs.toArray := ⟨_, T₃.ow _ (.head _), rfl, _, rfl⟩
  obtain ⟨y, hy, hyx⟩ := hvs.get hx
  exact tail_any hL.typeIs F.slot_list_getitem.lookup (wpAny_getItem_list hL h0 (by omega) (by simpa using hy) ⟨hyx, T₃.drop⟩) (hs _ _)
/-- x in [y, z, ..] -/
theorem Ev.inTmp {l : Expr} {es : List Expr} {lp pos : Pos} {xs : List Str} {x : Str} (hk : Ev Γ b m own l (IsS x)) (h : ArgStrs Γ b m own es xs) (hn : xs.length ≤ 100) (hm : behindInMarks .In (.List es lp) = false) :
    Ev Γ b m own (.Compare l [.In] [.List es lp] pos) (IsB (xs.contains x)) := by
  intro s E T
  refine wpAny_Compare1 (hk.use T fun u s₁ hx T₁ => List_ (wpAny_mono (h s₁ E lp T₁) (fun vs s₂ hv => ?_) fun _ _ x => x)) hm
  obtain ⟨t, rfl⟩ := hx
  obtain ⟨hvs, T₂⟩ := hv
  have hl := hvs.length
  refine wpAny_newObj_type ?_ (by show vs.toArray.size ≤ sizeLine; rw [List.size_toArray]; have := sizeLine_eq; omega)
  refine SeqAt.in_listAt (fun u => match u with | .str z _ => z == x | _ => false) ⟨_, Heap.get?_push_size _ rfl, rfl, _, rfl⟩ (fun y hy => ?_) ⟨?_, T₂.heap' (Le.push _ _)⟩
  · obtain ⟨i, hi', e⟩ := List.mem_iff_getElem.mp (by simpa using hy : y ∈ vs)
    obtain ⟨z, hz, tz, rfl⟩ := hvs.getL (i := i) (x := y) (by rw [List.getElem?_eq_getElem hi', e])
    exact (eqGives_str z x tz t).at _ _
  · show Value.bool _ = Value.bool _
    rw [List.any_toArray' (h := rfl)]
    exact congrArg Value.bool (strs_any hvs)
/-- sum(xs) -/
theorem cev_sum (O : Γ.Ok) {a : Addr} {vs : List Value} {ns : List Int} (hl : b.IsList a vs.toArray) (hi : All2 (fun v k => IsI k v) vs ns) : Cev Γ b m own (.builtin "sum") [.ref a] (IsI ns.sum) := by
  intro s E T
  obtain ⟨xs, hxs, hns⟩ : ∃ xs : Array (Int × Tok), vs.toArray = intItems xs ∧ ns = xs.toList.map (·.1) := by
    clear hl
    induction hi with
    | nil => exact ⟨#[], by simp [intItems], rfl⟩
    | cons h _ ih =>
      obtain ⟨t, rfl⟩ := h
      obtain ⟨xs, h1, h2⟩ := ih
      rename_i k vs' ns' _
      refine ⟨((k, t) :: xs.toList).toArray, ?_, by rw [h2]; simp⟩
      have : vs' = xs.toList.map fun p => Value.int p.1 p.2 := by
        have := congrArg Array.toList h1
        simpa [intItems] using this
      rw [this]; simp [intItems]
  refine sum_intListG (xs := xs) O.hand (hxs ▸ isl_mono T.keep hl) fun h' tk t' hk => ?_
  rw [preSum_eq, List.take_of_length_le (by simp), ← hns]
  exact ⟨⟨_, rfl⟩, T.heap hk⟩
def LineIs (h : Heap) (v : Value) (x : Str × Str) : Prop := ∃ a t1 t2, v = .ref a ∧ h.IsList a #[.str x.1 t1, .str x.2 t2]
theorem LineIs.mono {h h' : Heap} (l : Le h h') {v : Value} {x : Str × Str} (i : LineIs h v x) : LineIs h' v x := let ⟨a, t1, t2, e, r⟩ := i; ⟨a, t1, t2, e, isl_mono l r⟩
theorem CTurn.two1 {β : Type} (O : Γ.Ok) {elt : Expr} {x y : Str} {px py tp : Pos} {k1 : Nat} {test : Expr} {scope : Scope} {cl : List (Str × Addr)} {as : List (Str × Str)} {p : Str × Str → Bool} {f : Str × Str → β} {Kout : Heap → Value → β → Prop} (hk : scope.kind = .function) (hx : scope.names.lookup x = some .local) (hy : scope.names.lookup y = some .local) (hxy : x ≠ y)
    (h : ∀ C b₁ own₁ m₁ a t1 t2, a ∈ as → Le b b₁ → (∀ q ∈ own, q ∈ own₁) → m₁ x = some (.str a.1 t1) → m₁ y = some (.str a.2 t2) → (Γ.comp scope cl C).Ok → Tv (Γ.comp scope cl C) b₁ m₁ own₁ test (p a) ∧ (p a = true → Ei (Γ.comp scope cl C) b₁ m₁ own₁ elt (fun b₂ y => Kout b₂ y (f a)))) :
    CTurn Γ b own elt (.Tuple [.Name x px, .Name y py] k1 tp) [test] scope cl as p f (LineIs b) Kout := by
  intro C b₁ own₁ m₁ a v s E ha lb ho hv T
  have O' : (Γ.comp scope cl C).Ok := O.comp hk
  obtain ⟨va, t1, t2, rfl, hvl⟩ := hv
  refine assign_list O'.hand (isl_mono (lb.trans T.keep) hvl) rfl rfl fun h' le => ?_
  refine assignInOrder_cons (t := assign _ (Γ.comp scope cl C).env) (wpAny_assign_Name (stores O' (T.heap' le) (lookup_relabel_local hx) fun s' T => ?_))
  refine assignInOrder_cons (t := assign _ (Γ.comp scope cl C).env) (wpAny_assign_Name (stores O' T (lookup_relabel_local hy) fun s' T => ?_))
  refine assignInOrder_nil (wpAny_tests_one ?_)
  obtain ⟨h1, h2⟩ := h C b₁ own₁ (upd (upd m₁ x (.str a.1 t1)) y (.str a.2 t2)) a t1 t2 ha lb ho (by rw [upd_ne hxy, upd_eq]) (upd_eq _ _ _) O'
  refine Tv.use (Γ := Γ.comp scope cl C) h1 T fun s₃ T₃ => ⟨rfl, ?_⟩
  cases hp : p a with
  | false => rw [if_neg Bool.false_ne_true]; exact ⟨_, T₃⟩
  | true =>
    rw [if_pos rfl]
    exact Ei.use (Γ := Γ.comp scope cl C) (h2 hp) T₃ fun y s₄ b₂ l₂ hy T₄ => ⟨b₂, _, l₂, hy, T₄⟩
theorem CTurn.two0 {β : Type} (O : Γ.Ok) {elt : Expr} {x y : Str} {px py tp : Pos} {k1 : Nat} {scope : Scope} {cl : List (Str × Addr)} {as : List (Str × Str)} {f : Str × Str → β} {Kout : Heap → Value → β → Prop} (hk : scope.kind = .function) (hx : scope.names.lookup x = some .local) (hy : scope.names.lookup y = some .local) (hxy : x ≠ y)
    (h : ∀ C b₁ own₁ m₁ a t1 t2, a ∈ as → Le b b₁ → (∀ q ∈ own, q ∈ own₁) → m₁ x = some (.str a.1 t1) → m₁ y = some (.str a.2 t2) → (Γ.comp scope cl C).Ok → Ei (Γ.comp scope cl C) b₁ m₁ own₁ elt (fun b₂ y => Kout b₂ y (f a))) :
    CTurn Γ b own elt (.Tuple [.Name x px, .Name y py] k1 tp) [] scope cl as (fun _ => true) f (LineIs b) Kout := by
  intro C b₁ own₁ m₁ a v s E ha lb ho hv T
  have O' : (Γ.comp scope cl C).Ok := O.comp hk
  obtain ⟨va, t1, t2, rfl, hvl⟩ := hv
  refine assign_list O'.hand (isl_mono (lb.trans T.keep) hvl) rfl rfl fun h' le => ?_
  refine assignInOrder_cons (t := assign _ (Γ.comp scope cl C).env) (wpAny_assign_Name (stores O' (T.heap' le) (lookup_relabel_local hx) fun s' T => ?_))
  refine assignInOrder_cons (t := assign _ (Γ.comp scope cl C).env) (wpAny_assign_Name (stores O' T (lookup_relabel_local hy) fun s' T => ?_))
  refine assignInOrder_nil (wpAny_tests_nil ⟨rfl, ?_⟩)
  rw [if_pos rfl]
  exact Ei.use (Γ := Γ.comp scope cl C) (h C b₁ own₁ (upd (upd m₁ x (.str a.1 t1)) y (.str a.2 t2)) a t1 t2 ha lb ho (by rw [upd_ne hxy, upd_eq]) (upd_eq _ _ _) O') T fun y s₄ b₂ l₂ hy T₄ => ⟨b₂, _, l₂, hy, T₄⟩
/-- x, y = e, f where y is a cell -/
theorem Xs.asg2c (O : Γ.Ok) {x y : Str} {e f : Expr} {px py tp vp pos : Pos} {k1 k2 : Nat} {rest : List Stmt} {c : Addr} {o : Obj} {v₀ : Option Value} {l1 l2 : List (Addr × Obj)} {P : Heap → Value → Value → Prop} {Q : Flow → Shared → Prop}
    (ha : Args Γ b m (l1 ++ (c, o) :: l2) [e, f] (fun b' vs => ∃ u v, vs = [u, v] ∧ P b' u v)) (ho : o.data = .cell v₀) (hx : Γ.env.kindOf x = some .local) (hy : Γ.env.kindOf y = some .cell) (hc : Γ.env.cells.lookup y = some c)
    (hs : swapsWithSole [.Tuple [.Name x px, .Name y py] k1 tp] (.Tuple [e, f] k2 vp) pos.line Γ.env = pure false) (hw : swappedStores [.Tuple [.Name x px, .Name y py] k1 tp] (.Tuple [e, f] k2 vp) Γ.env = pure none)
    (h : ∀ b' u v o', Le b b' → P b' u v → o'.data = .cell (some v) → Xs Γ b' (upd m x u) (l1 ++ (c, o') :: l2) rest Q) : Xs Γ b m (l1 ++ (c, o) :: l2) (.Assign [.Tuple [.Name x px, .Name y py] k1 tp] (.Tuple [e, f] k2 vp) pos :: rest) Q := by
  intro s E T
  refine wpAny_execs_cons (Assign_Tuple ?_ hs hw)
  refine wpAny_Tuple_spliced (wpAny_mono (ha s E vp T) (fun vs s₁ hvs => ?_) fun _ _ x => x)
  obtain ⟨b', l, ⟨u, v, rfl, p⟩, T₁⟩ := hvs
  refine ⟨by show 2 ≤ sizeLine; rw [sizeLine_eq]; decide, ?_⟩
  have T₂ := T₁.heap' (Le.push s₁.heap { cls := .type "tuple", data := .seq [u, v].toArray })
  refine wpAny_assign_Tuple O.hand (items := [u, v].toArray) ⟨_, Heap.get?_push_size _ rfl, rfl, _, rfl⟩ rfl rfl fun h' he => ?_
  have T₃ : Γ.S b' m (l1 ++ (c, o) :: l2) { s₁ with heap := h' } := T₂.heap' fun a o e => he a o (Nat.ne_of_lt (Heap.lt_size e)) e
  refine assignInOrder_cons (t := assign _ Γ.env) (wpAny_assign_Name (stores O T₃ hx fun s₄ T₄ => ?_))
  refine assignInOrder_cons (t := assign _ Γ.env) (wpAny_assign_Name (storesCell O T₄ ho hy hc fun s₅ o' d T₅ => ?_))
  exact assignInOrder_nil (h b' u v o' l p d s₅ E T₅)
/-- x, y, z = e, f, g where x is a cell -/
theorem Xs.asg3c (O : Γ.Ok) {x y z : Str} {e f g : Expr} {px py pz tp vp pos : Pos} {k1 k2 : Nat} {rest : List Stmt} {c : Addr} {o : Obj} {v₀ : Option Value} {l1 l2 : List (Addr × Obj)} {P : Heap → Value → Value → Value → Prop} {Q : Flow → Shared → Prop}
    (ha : Args Γ b m (l1 ++ (c, o) :: l2) [e, f, g] (fun b' vs => ∃ u v w, vs = [u, v, w] ∧ P b' u v w)) (ho : o.data = .cell v₀) (hx : Γ.env.kindOf x = some .cell) (hc : Γ.env.cells.lookup x = some c) (hy : Γ.env.kindOf y = some .local) (hz : Γ.env.kindOf z = some .local)
    (hs : swapsWithSole [.Tuple [.Name x px, .Name y py, .Name z pz] k1 tp] (.Tuple [e, f, g] k2 vp) pos.line Γ.env = pure false) (hw : swappedStores [.Tuple [.Name x px, .Name y py, .Name z pz] k1 tp] (.Tuple [e, f, g] k2 vp) Γ.env = pure none)
    (h : ∀ b' u v w o', Le b b' → P b' u v w → o'.data = .cell (some u) → Xs Γ b' (upd (upd m y v) z w) (l1 ++ (c, o') :: l2) rest Q) : Xs Γ b m (l1 ++ (c, o) :: l2) (.Assign [.Tuple [.Name x px, .Name y py, .Name z pz] k1 tp] (.Tuple [e, f, g] k2 vp) pos :: rest) Q := by
  intro s E T
  refine wpAny_execs_cons (Assign_Tuple ?_ hs hw)
  refine wpAny_Tuple_spliced (wpAny_mono (ha s E vp T) (fun vs s₁ hvs => ?_) fun _ _ x => x)
  obtain ⟨b', l, ⟨u, v, w, rfl, p⟩, T₁⟩ := hvs
  refine ⟨by show 3 ≤ sizeLine; rw [sizeLine_eq]; decide, ?_⟩
  have T₂ := T₁.heap' (Le.push s₁.heap { cls := .type "tuple", data := .seq [u, v, w].toArray })
  refine wpAny_assign_Tuple O.hand (items := [u, v, w].toArray) ⟨_, Heap.get?_push_size _ rfl, rfl, _, rfl⟩ rfl rfl fun h' he => ?_
  have T₃ : Γ.S b' m (l1 ++ (c, o) :: l2) { s₁ with heap := h' } := T₂.heap' fun a o e => he a o (Nat.ne_of_lt (Heap.lt_size e)) e
  refine assignInOrder_cons (t := assign _ Γ.env) (wpAny_assign_Name (storesCell O T₃ ho hx hc fun s₆ o' d T₆ => ?_))
  refine assignInOrder_cons (t := assign _ Γ.env) (wpAny_assign_Name (stores O T₆ hy fun s₅ T₅ => ?_))
  refine assignInOrder_cons (t := assign _ Γ.env) (wpAny_assign_Name (stores O T₅ hz fun s₄ T₄ => ?_))
  exact assignInOrder_nil (h b' u v w o' l p d s₄ E T₄)
end
end Mine
end

section
open PySem PySem.W PySem.Calls PySem.Spec PyProof.Rows
set_option linter.unusedVariables false
namespace Mine
set_option maxRecDepth 100000
set_option maxHeartbeats 1000000
local macro_rules | `(tactic| walk_at "m") => `(tactic| ((repeat (rw [upd_ne (by decide)])); first | exact upd_eq _ _ _ | assumption))
local macro_rules | `(tactic| walk_at "k") => `(tactic| exact kd (by assumption) (by kernel_rfl))
local macro_rules | `(tactic| walk_at "loc") => `(tactic| exact Ev.loc (by assumption) (by walk_at "m") (by walk_at "k") (by decide))
local macro_rules | `(tactic| walk_at "bui") => `(tactic| exact Ev.boot (by assumption) (by assumption) (by kernel_rfl) (by kernel_rfl) (by decide) (by walk_at "k") (by decide))
local macro_rules | `(tactic| walk_at "top") => `(tactic| exact Ev.top (by assumption) (by assumption) (by kernel_rfl) (by walk_at "k") (by decide))
local macro_rules | `(tactic| walk_at "u") => `(tactic| with_unfolding_all rfl)
local macro_rules | `(tactic| walk_at "kc") => `(tactic| exact kdc (by assumption) (by kernel_rfl))
local macro_rules | `(tactic| walk_at "buic") => `(tactic| exact Ev.boot (by assumption) (by assumption) (by kernel_rfl) (by kernel_rfl) (by decide) (by walk_at "kc") (by decide))
noncomputable def lw (w : World) : List Stmt := match (fdAt w 108).body with
  | .stmts l => l
  | _ => []
def DrawnIs (h : Heap) (v : Value) (items : List Item) : Prop := ∃ a vs, v = .ref a ∧ h.IsList a vs.toArray ∧ All2 (ItemIs h) vs items
theorem DrawnIs.mono {h h' : Heap} (l : Le h h') {v : Value} {x : List Item} (i : DrawnIs h v x) : DrawnIs h' v x := let ⟨a, vs, e, r, q⟩ := i; ⟨a, vs, e, isl_mono l r, q.mono fun _ _ z => z.mono l⟩
section
variable {Γ : Fx Prg} {b : Heap} {m : Str → Option Value} {own : List (Addr × Obj)} {mg mb : Str → Option Value}
theorem Ei.addLL {l r : Expr} {pos} {vs : List Value} {P : List Value → Prop} (hl : Ei Γ b m own l (fun b' v => NewL b b' vs v)) (hr : ∀ b', Le b b' → Ei Γ b' m own r (fun b'' v => ∃ ws, NewL b' b'' ws v ∧ P ws ∧ vs.length + ws.length ≤ sizeLine)) :
    Ei Γ b m own (.BinOp l .Add r pos) (fun b' v => ∃ ws, NewL b b' (vs ++ ws) v ∧ P ws) := by
  intro s E T
  refine wpAny_BinOp (hl.use T fun x s₁ b₁ l₁ hx T₁ => (hr b₁ l₁).use T₁ fun y s₂ b' l hy T₂ => ?_)
  obtain ⟨D0, rfl, m1, m2, _, n4, ha⟩ := hx
  obtain ⟨ws, ⟨D, rfl, n1, n2, _, n3, hD⟩, p, hz⟩ := hy
  refine PySem.P.add_list (T₂.keep _ _ (l _ _ ha)) (T₂.keep _ _ hD) ?_ (by rw [List.size_toArray, List.size_toArray]; exact hz)
  obtain ⟨b₂, l₂, m1, m2, e, T₃⟩ := pushFreeze T₂ (o := { cls := .type "list", data := .seq (vs.toArray ++ ws.toArray) }) rfl
  have ea : vs.toArray ++ ws.toArray = (vs ++ ws).toArray := by simp
  rw [ea] at e T₃ ⊢
  refine ⟨b₂, (l₁.trans l).trans l₂, ⟨ws, ⟨_, rfl, ?_, m2, ⟨_, e, rfl, _, rfl⟩, ⟨_, e⟩⟩, p⟩, T₃⟩
  cases q : b.get? s₂.heap.objs.size with
  | none => rfl
  | some o => rw [(l₁.trans l) _ _ q] at m1; cases m1
theorem all2_app {α β : Type} {R : α → β → Prop} : ∀ {a c : List α} {x y : List β}, All2 R a x → All2 R c y → All2 R (a ++ c) (x ++ y)
  | _, _, _, _, .nil, h => h
  | _, _, _, _, .cons h t, h2 => .cons h (all2_app t h2)
/-- numbers, texts; lines; drawn -/
theorem lawA (O : Γ.Ok) (W : Wd Γ.w mg mb Γ.g) {L : Addr} (e3 : Γ.env = callEnvC (fdAt Γ.w 108) L 108) (hd : Γ.A.depth + 60 < recursionLimit) (hu : Γ.A.units + 300 < cLine) {sl : Addr} {vs : List Value} {ns : List Int} (hs : m "script" = some (.ref sl)) (hsl : b.IsList sl vs.toArray) (hi : All2 (fun v k => IsI k v) vs ns) (hlen : ns.length ≤ 1000) (hb0 : Le Γ.g b)
    {oT : Obj} {l1 l2 : List (Addr × Obj)} (hcl : ∀ p ∈ l1 ++ l2, ∃ v, p.2.data = .cell v) (dT : oT.data = .cell none) {Q : Flow → Shared → Prop}
    (K : ∀ b' m' oT' vT lD lvs dD d1 d2, Le b b' → oT'.data = .cell (some vT) → m' ("lines" : Str) = some (.ref lD) → b'.IsList lD lvs.toArray → All2 (LineIs b') lvs (linesF ns) → m' ("drawn" : Str) = some (.ref dD) → b'.IsList dD [d1, d2].toArray → DrawnIs b' d1 [(("*" : Str), "", false)] → DrawnIs b' d2 (itemsF ((ns.take 6).sum + 437)) →
      Xs Γ b' m' (l1 ++ (L + 1, oT') :: l2) ((lw Γ.w).drop 3) Q) : Xs Γ b m (l1 ++ (L + 1, oT) :: l2) (lw Γ.w) Q := by
  have hlv := hi.length
  have hcT : Γ.env.cells.lookup ("texts" : Str) = some (L + 1) := by rw [e3]; kernel_rfl
  have h6 : All2 (fun v k => IsI k v) (vs.take 6) (ns.take 6) := all2_take hi
  have sl6 : ∀ {b' : Heap} {m' : Str → Option Value} {own' : List (Addr × Obj)} {p p' p1 pos : Pos} {k : Nat}, Le b b' → m' "script" = some (.ref sl) → Ei Γ b' m' own' (.Subscript (.Name "script" p) (.Slice none (some (.Constant (.int 6) k p')) none p1) pos) (fun b'' v => NewL b' b'' (vs.take 6) v) := by
    intro b' m' own' p p' p1 pos k lb hs'
    have := Ei.slice (Γ := Γ) (b := b') (m := m') (own := own') (p := p1) (pos := pos) (lo := none) (up := some (.Constant (.int 6) k p')) (pl := none) (pu := some 6) (isl_mono lb hsl) (Ev.loc (pos := p) O hs' (by walk_at "k") (by decide)) trivial Ev.int (by have := sizeLine_eq; omega) (fun _ _ => by rfl)
    refine this.mono fun b' v _ h => ?_
    rw [show (some (6 : Int)) = some ((6 : Nat) : Int) from rfl, PySem.slicePick_upto' _ 6] at h
    exact h
  conv => arg 5; whnf
  with_reducible refine Xs.asg2c O (P := fun b' u v => (∃ D nv, u = .ref D ∧ b'.IsList D nv.toArray ∧ All2 (fun v k => IsI k v) nv (numsF ns)) ∧ ListS b' v textsT) ?_ dT ?_ ?_ hcT ?_ ?_ (fun b1 vN vT oT' l1' hp dT' => ?_)
  · refine Args.cons (P := fun b' u => ∃ D nv, u = .ref D ∧ b'.IsList D nv.toArray ∧ All2 (fun v k => IsI k v) nv (numsF ns)) ((Ei.addLL (P := fun ws => All2 (fun v k => IsI k v) ws [6, 12, 1, 2, 16, 22, 13, 25, 7, 9]) (sl6 (Le.refl _) hs) (fun b' l => ?_)).mono fun b' v l h => ?_) (fun b2 vN l2 hN => Args.cons (P := fun b' v => ListS b' v textsT) ((Ei.listE (PA := fun vs => All2 (fun v x => IsS x v) vs textsT) ?_ ?_).mono fun b' v l h => ?_) (fun b3 vT l3 hT => Args.nil.mono fun b4 vs l4 h => ?_) starList) (by rfl)
    · refine (Ei.listE (PA := fun vs => All2 (fun v k => IsI k v) vs [6, 12, 1, 2, 16, 22, 13, 25, 7, 9]) ?_ ?_).mono fun b'' v _ h => ?_
      · show ArgInts _ _ _ _ _ _
        iterate 10 ((with_reducible refine ArgInts.cons Ev.int ?_ ?_); rotate_left; (· rfl))
        exact ArgInts.nil
      · intro vs h; rw [h.length]; have := sizeLine_eq; show 10 ≤ sizeLine; omega
      · obtain ⟨ws, h1, h2⟩ := h
        refine ⟨ws, h1, h2, ?_⟩
        rw [h2.length, List.length_take]
        have := sizeLine_eq
        show _ + 10 ≤ sizeLine; omega
    · obtain ⟨ws, ⟨D, rfl, _, _, hD, _⟩, hw⟩ := h
      exact ⟨D, _, rfl, hD, all2_app h6 hw⟩
    · show ArgStrs _ _ _ _ _ _
      unfold textsT
      iterate 6 ((with_reducible refine ArgStrs.cons Ev.str ?_ ?_); rotate_left; (· rfl))
      exact ArgStrs.nil
    · intro vs h; rw [h.length]; have := sizeLine_eq; show 6 ≤ sizeLine; omega
    · obtain ⟨ws, ⟨D, rfl, _, _, _, hD⟩, hw⟩ := h
      exact ⟨D, _, rfl, hD, hw⟩
    · obtain ⟨rfl, rfl⟩ := h
      obtain ⟨D, nv, e, h1, h2⟩ := hN
      exact ⟨vN, vT, rfl, ⟨D, nv, e, isl_mono l3 h1, h2⟩, hT⟩
  · walk_at "k"
  · walk_at "k"
  · rw [e3]; walk_at "u"
  · rw [e3]; walk_at "u"
  obtain ⟨⟨nD, nv, rfl, hnD, hnv⟩, hT⟩ := hp
  have hlm := hnv.length
  have hnl : (numsF ns).length ≤ 16 := by have := lines_len ns; unfold linesF at this; rwa [List.length_map] at this
  obtain ⟨tD, tv, rfl, htD, htv⟩ := hT
  with_reducible refine Xs.asgComp O (as := numsF ns) (cl := [("texts", L + 1)]) (fun _ => true) lineF (fun v k => IsI k v) (fun b' v x => LineIs b' v x) (iter_list hnD hnv (Ev.loc O (upd_eq _ _ _) (by walk_at "k") (by decide))) (CTurn.name0 O ?_ ?_ ?_) ?_ ?_ ?_ (fun _ _ _ _ l h => h.mono l) ?_ ?_ ?_ ?_ ?_ (fun b2 lD lvs lb2 n1 n2 hlD hlvs => ?_)
  · rfl
  · kernel_rfl
  · intro C' b₁ own₁ m₁ x v hx lb ho hv hm O'
    obtain ⟨tx, rfl⟩ := hv
    have h5 := fmod_pos x (n := 5) (by decide)
    have h6' := fmod_pos (x.fdiv 5) (n := 6) (by decide)
    have ht5 : tagsT.length = 5 := by decide
    have ht6 : textsT.length = 6 := by decide
    have e1 : tagsT[(x.fmod 5).toNat]? = some (lineF x).1 := by
      unfold lineF
      dsimp only
      rw [List.getD_eq_getElem?_getD, List.getElem?_eq_getElem (by omega)]; rfl
    have e2 : textsT[((x.fdiv 5).fmod 6).toNat]? = some (lineF x).2 := by
      unfold lineF
      dsimp only
      rw [List.getD_eq_getElem?_getD, List.getElem?_eq_getElem (by omega)]; rfl
    obtain ⟨y, hy, hyx⟩ := htv.get e2
    refine (Ei.listE (ArgsE.cons (Ev.tmpItem (xs := tagsT) (i := x.fmod 5) (x := (lineF x).1) ?_ (fun D o => Ev.bin (bop_modI (by decide)) (Ev.locI O' ⟨tx, hm⟩ (by walk_at "kc") (by decide)) Ev.int) h5.1 e1 (by decide) (fun _ _ => by rfl)) (ArgsE.cons (P := IsS (lineF x).2) ((Ev.itemL (x := y) (isl_mono lb htD.isList) (Ev.cellO O' (ho (L + 1, oT') (by simp)) dT' (by rfl) (by walk_at "kc") (by decide)) (Ev.bin (bop_modI (by decide)) (Ev.bin (bop_divI (by decide) (by decide)) (Ev.locI O' ⟨tx, hm⟩ (by walk_at "kc") (by decide)) Ev.int) Ev.int) h6'.1 (by omega) (by simpa using hy) (fun _ => by walk_at "u") (fun _ => by walk_at "u")).mono fun z hz => ?_) ArgsE.nil (by rfl)) (by rfl)) ?_).mono fun b' v _ h => ?_
    · unfold tagsT
      iterate 5 ((with_reducible refine ArgStrs.cons Ev.str ?_ ?_); rotate_left; (· rfl))
      exact ArgStrs.nil
    · rw [show z = y from hz]; exact hyx
    · rintro _ ⟨_, _, rfl, _, _, _, rfl, _, rfl⟩; show 2 ≤ sizeLine; decide
    · obtain ⟨ws, ⟨D, rfl, _, _, hD, _⟩, _, _, rfl, ⟨t1, rfl⟩, _, _, rfl, ⟨t2, rfl⟩, rfl⟩ := h
      exact ⟨D, t1, t2, rfl, hD⟩
  · walk_at "k"
  · rw [e3]; walk_at "u"
  · rw [e3]; walk_at "u"
  · decide
  · rfl
  · have := sizeLine_eq; omega
  · decide
  · exact fun _ => rfl
  obtain ⟨o74, h74, hd74⟩ : ∃ o, Γ.g.get? 74 = some o ∧ o.data = .func (fdAt Γ.w 74) := ⟨_, W.X 74 _ rfl, rfl⟩
  have hsum : ∀ {p1 p2 p3 p4 p5 pos : Pos} {k k' : Nat} {m' : Str → Option Value} {b' : Heap} {p6 p7 : Pos}, Le b b' → m' "script" = some (.ref sl) → Ev Γ b' m' (l1 ++ (L + 1, oT') :: l2) (.BinOp (.Call (.Name "sum" p1) [.Subscript (.Name "script" p2) (.Slice none (some (.Constant (.int 6) k p3)) none p4) p5] [] pos) .Add (.Constant (.int 437) k' p6) p7) (IsI ((ns.take 6).sum + 437)) := by
    intro p1 p2 p3 p4 p5 pos k k' m' b' p6 p7 lb hs'
    refine Ev.bin bop_addI (Ei.toEv ?_) Ev.int
    refine Ei.ofCall (P := fun _ _ => True) (PA := fun b'' ws => ∃ D, ws = [.ref D] ∧ b''.IsList D (vs.take 6).toArray) (R := fun _ v => IsI (ns.take 6).sum v) (by walk_at "bui") (.bui "sum") (Args.cons (sl6 lb hs') (fun b2 v l hv => Args.nil.mono fun b3 ws l3 h => ?_) (by rfl)) (fun b2 ws l h => ?_) (by rfl) (by rfl) (by rfl)
    · obtain ⟨rfl, rfl⟩ := h
      obtain ⟨D, rfl, _, _, hD, _⟩ := hv
      exact ⟨D, rfl, hD⟩
    · obtain ⟨D, rfl, hD⟩ := h
      exact (cev_sum O hD h6).cal
  with_reducible refine Xs.asg O (P := fun b' v => ∃ dD d1 d2, v = .ref dD ∧ b'.IsList dD [d1, d2].toArray ∧ DrawnIs b' d1 [(("*" : Str), "", false)] ∧ DrawnIs b' d2 (itemsF ((ns.take 6).sum + 437))) ?_ ?_ ?_ (fun b4 vD l4 hp => ?_)
  · refine (Ei.list (PA := fun b' ws => ∃ d1 d2, ws = [d1, d2] ∧ DrawnIs b' d1 [(("*" : Str), "", false)] ∧ DrawnIs b' d2 (itemsF ((ns.take 6).sum + 437))) ?_ ?_ ?_).mono fun b' v _ h => ?_
    · refine Args.cons (P := fun b' v => DrawnIs b' v [(("*" : Str), "", false)]) ((Ei.items (xs := [(("*" : Str), "", false)]) (ArgItems.cons fun _ _ => ArgItems.nil) (by decide)).mono fun b' v _ h => ?_) (fun b5 v5 l5 hv5 => Args.cons (P := fun b' v => DrawnIs b' v (itemsF ((ns.take 6).sum + 437))) (Ei.ofCallE (by walk_at "top") (.dfn 74 o74 (fdAt Γ.w 74) ?_ hd74) (ArgsE.cons (hsum ?_ ?_) ArgsE.nil (by rfl)) (fun ws hws => ?_) (by rfl) (by rfl) (by rfl)) (fun b6 v6 l6 hv6 => Args.nil.mono fun b7 ws l7 h => ?_) (by rfl)) starList
      · obtain ⟨ws, ⟨D, rfl, _, _, hD, _⟩, hw⟩ := h
        exact ⟨D, ws, rfl, hD, hw⟩
      · exact (hb0.trans (l1'.trans (lb2.trans l5))) _ _ h74
      · exact l1'.trans (lb2.trans l5)
      · walk_at "m"
      · obtain ⟨w1, _, rfl, ⟨tw, rfl⟩, rfl⟩ := hws
        intro s E T
        refine wpAny_mono (law_items_spec (T.cs O (n := 0) (by omega) (by omega)) (W.mono (T.gr.trans T.keep))) (fun r s' h => ?_) fun _ _ e => e
        obtain ⟨P, D, ys, rfl, hnew, hD, hall⟩ := h
        have T' := T.pur P
        obtain ⟨b', lb', hk, T''⟩ := T'.rebase
        have keepL : ∀ a items, s'.heap.IsList a items → b'.IsList a items := by
          rintro a items ⟨o, ho, hc, n, hd⟩
          refine ⟨o, hk a o (fun hm => ?_) ho, hc, n, hd⟩
          rcases List.mem_cons.mp hm with rfl | hm
          · obtain ⟨oL, es, ep, hoL, hdL, _⟩ := T'.ns
            rw [hoL] at ho; cases ho; rw [hdL] at hd; cases hd
          · rcases List.mem_cons.mp hm with rfl | hm
            · obtain ⟨ps, e57, _⟩ := T'.tab
              rw [e57] at ho; cases ho; cases hd
            · obtain ⟨p, hp, rfl⟩ := List.mem_map.mp hm
              have hop := T'.ow p hp
              rw [hop] at ho; cases ho
              have hcell : ∃ v, p.2.data = .cell v := by
                rcases List.mem_append.mp hp with hp | hp
                · exact hcl p (List.mem_append_left _ hp)
                · rcases List.mem_cons.mp hp with rfl | hp
                  · exact ⟨_, dT'⟩
                  · exact hcl p (List.mem_append_right _ hp)
              obtain ⟨v, hv⟩ := hcell
              rw [hv] at hd; cases hd
        refine ⟨b', lb', ⟨D, ys, rfl, keepL D _ ⟨_, hD, rfl, _, rfl⟩, hall.mono fun v x ⟨a, t1, t2, e, r⟩ => ⟨a, t1, t2, e, keepL _ _ r⟩⟩, T''⟩
      · obtain ⟨rfl, rfl⟩ := h
        exact ⟨v5, v6, rfl, hv5.mono l6, hv6⟩
    · rintro b1 b2 ws l ⟨d1, d2, rfl, h1, h2⟩
      exact ⟨d1, d2, rfl, h1.mono l, h2.mono l⟩
    · rintro b1 ws ⟨d1, d2, rfl, _⟩; show 2 ≤ sizeLine; decide
    · obtain ⟨ws, ⟨D, rfl, _, _, hD, _⟩, d1, d2, rfl, h1, h2⟩ := h
      exact ⟨D, d1, d2, rfl, hD, h1, h2⟩
  · walk_at "k"
  · rw [e3]; walk_at "u"
  obtain ⟨dD, d1, d2, rfl, hdD, hd1, hd2⟩ := hp
  exact K b4 _ oT' (.ref tD) lD lvs dD d1 d2 (l1'.trans (lb2.trans l4)) dT' (by walk_at "m") ⟨_, l4 _ _ hlD, rfl, _, rfl⟩ (by
    rw [List.filter_eq_self.mpr (fun _ _ => rfl)] at hlvs
    exact hlvs.mono fun v x h => h.mono l4) (upd_eq _ _ _) hdD hd1 hd2
end
end Mine
end

section
open PySem PySem.W PySem.Calls PySem.Spec PyProof.Rows
set_option linter.unusedVariables false
namespace Mine
set_option maxRecDepth 100000
set_option maxHeartbeats 1000000
local macro_rules | `(tactic| walk_at "m") => `(tactic| ((repeat (rw [upd_ne (by decide)])); first | exact upd_eq _ _ _ | assumption))
local macro_rules | `(tactic| walk_at "k") => `(tactic| exact kd (by assumption) (by kernel_rfl))
local macro_rules | `(tactic| walk_at "loc") => `(tactic| exact Ev.loc (by assumption) (by walk_at "m") (by walk_at "k") (by decide))
local macro_rules | `(tactic| walk_at "bui") => `(tactic| exact Ev.boot (by assumption) (by assumption) (by kernel_rfl) (by kernel_rfl) (by decide) (by walk_at "k") (by decide))
local macro_rules | `(tactic| walk_at "top") => `(tactic| exact Ev.top (by assumption) (by assumption) (by kernel_rfl) (by walk_at "k") (by decide))
local macro_rules | `(tactic| walk_at "u") => `(tactic| with_unfolding_all rfl)
local macro_rules | `(tactic| walk_at "kc") => `(tactic| exact kdc (by assumption) (by kernel_rfl))
local macro_rules | `(tactic| walk_at "buic") => `(tactic| exact Ev.boot (by assumption) (by assumption) (by kernel_rfl) (by kernel_rfl) (by decide) (by walk_at "kc") (by decide))
local macro_rules | `(tactic| walk_at "topc") => `(tactic| exact Ev.top (by assumption) (by assumption) (by kernel_rfl) (by walk_at "kc") (by decide))
noncomputable def lwO (w : World) : List Stmt := match (lw w).drop 3 with
  | [.For _ _ body _ _, _] => body
  | _ => []
noncomputable def lwI (w : World) : List Stmt := match lwO w with
  | [_, .For _ _ body _ _, _] => body
  | _ => []
def tagJ (j : Int) : Str := if j = 1 then "- " else "+ "
theorem restF_len {ns : List Int} {tag t : Str} (h : t ∈ restF tag (wholeF (linesF ns))) : t.length ≤ 3 := by
  unfold wholeF at h
  rw [restF_lines tag _ fun x hx => tags_two _ (lines_mem hx).1] at h
  obtain ⟨x, hx, rfl⟩ := List.mem_map.mp h
  exact texts_len _ (lines_mem (List.mem_filter.mp hx).1).2
theorem whole_len {ns : List Int} {t : Str} (h : t ∈ wholeF (linesF ns)) : t.length ≤ 10 := by
  obtain ⟨x, hx, rfl⟩ := List.mem_map.mp h
  have h1 := texts_len _ (lines_mem hx).2
  have h2 : ∀ t ∈ tagsT, t.length ≤ 2 := by decide +kernel
  have h3 := h2 _ (lines_mem hx).1
  rw [strLen_append]; omega
section
variable {Γ : Fx Prg} {b : Heap} {m : Str → Option Value} {own : List (Addr × Obj)} {mg mb : Str → Option Value}
theorem Xs.appE {o e : Expr} {ap pos p4 : Pos} {a : Addr} {ys : List Value} {n : Nat} {l1 l2 : List (Addr × Obj)} {P : Heap → Value → Prop} {rest : List Stmt} {Q : Flow → Shared → Prop} (ho : Ev Γ b m (l1 ++ (a, lsN ys n) :: l2) o (IsV (.ref a))) (he : Ei Γ b m (l1 ++ (a, lsN ys n) :: l2) e P) (hz : ys.length ≤ 1000)
    (hi : interactive Γ.env = false) (hw : swapsWith (.Call (.Attribute o "append" ap) [e] [] pos) none p4.line Γ.env = pure false)
    (hbase : attributeBase o "append" Γ.env (eval o Γ.env) = eval o Γ.env) (hfew : ((backTo pos (starEach [e] Γ.env)).all (fun x => !x.1) && (backToKw pos (keywordEach [] Γ.env)).all (fun x => x.1.isSome) && decide ([e].length + ([] : List Keyword).length + (if ([] : List Keyword).isEmpty then 0 else 1) < 30)) = true)
    (hline : (ap.endLine == pos.line) = true) (hs : starEach [e] Γ.env = (false, eval e Γ.env) :: starEach [] Γ.env)
    (k : ∀ b' v, Le b b' → P b' v → Xs Γ b' m (l1 ++ (a, lsN (ys ++ [v]) (n + 1)) :: l2) rest Q) : Xs Γ b m (l1 ++ (a, lsN ys n) :: l2) (.Expr (.Call (.Attribute o "append" ap) [e] [] pos) p4 :: rest) Q := by
  intro s E T
  refine wpAny_execs_cons (wpAny_Expr_any ?_ hi hw)
  refine wpAny_Call_method hbase hfew hline F.plainAttrs_list F.slot_list_append F.type_list_append (ho.use T fun ov s₁ hv T₁ => ?_)
  obtain rfl : ov = .ref a := hv
  have hin : (a, lsN ys n) ∈ l1 ++ (a, lsN ys n) :: l2 := by simp
  refine ⟨⟨_, T₁.ow _ hin, rfl⟩, fun a' q => (by cases q; exact ⟨_, T₁.ow _ hin, rfl⟩), callWith_method1 (spliced_more (he.use T₁ fun v s₂ b₂ l₂ hv T₂ => spliced_none ?_) hs) hs rfl⟩
  refine append_at (hsz := by show ys.toArray.size ≤ sizeLine; rw [List.size_toArray]; have := sizeLine_eq; omega) (T₂.ow (a, _) hin) fun h₉ hs₉ hD₉ => ?_
  exact k b₂ v l₂ hv _ _ (St.upd (l1 := l1) (o' := lsN (ys ++ [v]) (n + 1)) (tk := s₂.toks) T₂ hs₉ (hD₉.trans (by rw [List.push_toArray])))
theorem Tv.inTmp {l : Expr} {es : List Expr} {lp pos : Pos} {xs : List Str} {x : Str} (hk : Ev Γ b m own l (IsS x)) (h : ArgStrs Γ b m own es xs) (hn : xs.length ≤ 100) (hm : behindInMarks .In (.List es lp) = false) :
    Tv Γ b m own (.Compare l [.In] [.List es lp] pos) (xs.contains x) := by
  intro s E T
  refine wpAny_isTrue_Compare1 (hk.use T fun u s₁ hx T₁ => List_ (wpAny_mono (h s₁ E lp T₁) (fun vs s₂ hv => ?_) fun _ _ x => x)) hm
  obtain ⟨t, rfl⟩ := hx
  obtain ⟨hvs, T₂⟩ := hv
  have hl := hvs.length
  refine wpAny_newObj_type ?_ (by show vs.toArray.size ≤ sizeLine; rw [List.size_toArray]; have := sizeLine_eq; omega)
  refine SeqAt.in_listAt (fun u => match u with | .str z _ => z == x | _ => false) ⟨_, Heap.get?_push_size _ rfl, rfl, _, rfl⟩ (fun y hy => ?_) (wpAny_truthy_bool ⟨?_, T₂.heap' (Le.push _ _)⟩)
  · obtain ⟨i, hi', e⟩ := List.mem_iff_getElem.mp (by simpa using hy : y ∈ vs)
    obtain ⟨z, hz, tz, rfl⟩ := hvs.getL (i := i) (x := y) (by rw [List.getElem?_eq_getElem hi', e])
    exact (eqGives_str z x tz t).at _ _
  · rw [List.any_toArray' (h := rfl)]
    exact strs_any hvs
/-- [tag + text for tag, text in lines] -/
theorem Ei.whole (O : Γ.Ok) {lD : Addr} {lvs : List Value} {lines : List (Str × Str)} (hl : m "lines" = some (.ref lD)) (hkl : Γ.env.kindOf "lines" = some .local) (hlD : b.IsList lD lvs.toArray) (hlv : All2 (LineIs b) lvs lines) (hlen : lines.length ≤ 16) (hsz : ∀ x ∈ lines, x.1.length + x.2.length ≤ 100)
    {scope : Scope} (hk : scope.kind = .function) (hnm : scope.names = [((".0" : Str), .local), ("tag", .local), ("text", .local)]) {p1 p2 p3 p4 p5 p6 p7 pos : Pos} {k : Nat} :
    Ei Γ b m own (.ListComp (.BinOp (.Name "tag" p1) .Add (.Name "text" p2) p3) [⟨.Tuple [.Name "tag" p4, .Name "text" p5] k p6, .Name "lines" p7, [], 0⟩] scope pos) (fun b' v => ListS b' v (wholeF lines)) := by
  have ht : scope.names.lookup ("tag" : Str) = some .local := by rw [hnm]; decide
  have hx : scope.names.lookup ("text" : Str) = some .local := by rw [hnm]; decide
  refine (Ei.comp O (as := lines) (cl := []) (fun _ => true) (fun (x : Str × Str) => x.1 ++ x.2) (LineIs b) (fun b' v x => IsS x v)
    (iter_list hlD hlv (Ev.loc O hl hkl (by decide))) (CTurn.two0 O hk ht hx (by decide) fun C' b₁ own₁ m₁ a t1 t2 ha lb ho h1 h2 O' => ?_) ?_ (fun _ _ _ _ _ h => h) ?_ hk (by have := sizeLine_eq; omega) ?_ (fun _ => rfl)).mono fun b' v _ h => ?_
  · have := hsz a ha
    exact Ev.ei (P := fun _ v => IsS (a.1 ++ a.2) v) (Ev.bin (bop_addS (by omega)) (Ev.locS O' ⟨t1, h1⟩ (lookup_relabel_local ht) (by decide)) (Ev.locS O' ⟨t2, h2⟩ (lookup_relabel_local hx) (by decide)))
  · unfold closureFor; rw [hnm]; rfl
  · rw [hnm]; decide
  · rw [hnm]; decide
  · obtain ⟨D, ys, rfl, _, _, hD, hy⟩ := h
    rw [List.filter_eq_self.mpr (fun _ _ => rfl)] at hy
    exact ⟨D, ys, rfl, ⟨_, hD⟩, hy⟩
theorem lawTurn (O : Γ.Ok) (W : Wd Γ.w mg mb Γ.g) {L : Addr} (e3 : Γ.env = callEnvC (fdAt Γ.w 108) L 108) (hd : Γ.A.depth + 60 < recursionLimit) (hu : Γ.A.units + 300 < cLine) (hb0 : Le Γ.g b) {ns : List Int} {items : List Item} (hsub : ∀ x ∈ items, x ∈ itemsT) (hlen3 : items.length ≤ 3)
    {j : Int} (hj : j = 1 ∨ j = 2) {lD SD DU : Addr} {lvs sd du : List Value} {n1 n2 : Nat} {vI : Value} {tp tj : Tok} {oW oP oI : Obj} {rest : List (Addr × Obj)}
    (hl : m "lines" = some (.ref lD)) (hlD : b.IsList lD lvs.toArray) (hlv : All2 (LineIs b) lvs (linesF ns)) (hS : m "sides" = some (.ref SD)) (hDu : m "due" = some (.ref DU)) (hsd : sd.length ≤ 10) (hdu : du.length ≤ 10)
    (dW : oW.data = .cell (some (.int j tj))) (dP : oP.data = .cell (some (.str (patF items) tp))) (dI : oI.data = .cell (some vI)) (hI : DrawnIs b vI items) {Q : Flow → Shared → Prop}
    (K : ∀ b' m' v1 v2, Le b b' → (∀ y : Str, y ≠ "side" → m' y = m y) → ListS b' v1 (dueF (linesF ns) items (tagJ j)) → ListS b' v2 (dueF (linesF ns) items (tagJ j)) →
      Xs Γ b' m' ((DU, lsN (du ++ [v2]) (n2 + 1)) :: (SD, lsN (sd ++ [v1]) (n1 + 1)) :: (L + 4, oW) :: (L + 3, oP) :: (L + 2, oI) :: rest) [] Q) :
    Xs Γ b m ((DU, lsN du n2) :: (SD, lsN sd n1) :: (L + 4, oW) :: (L + 3, oP) :: (L + 2, oI) :: rest) (lwI Γ.w) Q := by
  have hcW : Γ.env.cells.lookup ("which" : Str) = some (L + 4) := by rw [e3]; kernel_rfl
  have hcP : Γ.env.cells.lookup ("pattern" : Str) = some (L + 3) := by rw [e3]; kernel_rfl
  have hcI : Γ.env.cells.lookup ("items" : Str) = some (L + 2) := by rw [e3]; kernel_rfl
  obtain ⟨o38, h38, hd38⟩ : ∃ o, Γ.g.get? 38 = some o ∧ o.data = .func (fdAt Γ.w 38) := ⟨_, W.X 38 _ rfl, rfl⟩
  obtain ⟨o91, h91, hd91⟩ : ∃ o, Γ.g.get? 91 = some o ∧ o.data = .func (fdAt Γ.w 91) := ⟨_, W.X 91 _ rfl, rfl⟩
  obtain ⟨o86, h86, hd86⟩ : ∃ o, Γ.g.get? 86 = some o ∧ o.data = .func (fdAt Γ.w 86) := ⟨_, W.X 86 _ rfl, rfl⟩
  have htag : tagOf j = some (tagJ j) := by rcases hj with rfl | rfl <;> rfl
  conv => arg 5; whnf
  with_reducible refine Xs.asg O (P := fun b' v => ListS b' v (restF (tagJ j) (wholeF (linesF ns)))) ?_ (by walk_at "k") ?_ (fun b1 vS lb1 hvS => ?_)
  · intro s E T
    refine Call_ (Ev.use (Γ := Γ) (P := IsV (.type "list")) (by walk_at "bui") T fun v s₁ hv T₁ => ?_) (by rfl)
    obtain rfl : v = .type "list" := hv
    refine callWith_type1 (spliced_more (Call_ (Ev.use (Γ := Γ) (P := IsV (.ref 38)) (by walk_at "top") T₁ fun v s₂ hv T₂ => ?_) (by rfl)) (by rfl)) (by rfl) (by rfl)
    obtain rfl : v = .ref 38 := hv
    refine callWith_def (o := o38) hd38 (spliced_more (Ei.use (Γ := Γ) (Ei.whole O hl (by walk_at "k") hlD hlv (lines_len ns) (fun x hx => ?_) (by rfl) (by rfl)) T₂ fun vw s₃ b₃ lb₃ hw T₃ => spliced_more (Ev.use (Γ := Γ) (P := fun v => (j = 1 ∧ IsS "1" v) ∨ (j = 2 ∧ IsI 2 v)) ?_ T₃ fun wv s₄ hwv T₄ => spliced_none ⟨?_, ?_⟩) (by rfl)) (by rfl)) (by rfl)
    · have h1 := texts_len _ (lines_mem hx).2
      have h2 : ∀ t ∈ tagsT, t.length ≤ 2 := by decide +kernel
      have h3 := h2 _ (lines_mem hx).1
      omega
    · rcases hj with rfl | rfl
      · exact Ev.ifT (Tv.cmp (c := true) (P₁ := IsI 1) (P₂ := IsI 1) (@cop_eqI 1 1) ((Ev.cellO O (by simp) dW hcW (by walk_at "k") (by decide)).mono fun v hv => ⟨tj, hv⟩) Ev.int (by rfl)) (Ev.str.mono fun v hv => .inl ⟨rfl, hv⟩)
      · exact Ev.ifF (Tv.cmp (c := false) (P₁ := IsI 2) (P₂ := IsI 1) (@cop_eqI 2 1) ((Ev.cellO O (by simp) dW hcW (by walk_at "k") (by decide)).mono fun v hv => ⟨tj, hv⟩) Ev.int (by rfl)) (Ev.int.mono fun v hv => .inr ⟨rfl, hv⟩)
    · exact T₄.keep _ _ (lb₃ _ _ (hb0 _ _ h38))
    · obtain ⟨D, ys, rfl, hD, hys⟩ := hw
      have hcev : ∀ (Γ' : Fx Prg) b m own, Cev Γ' b m own (.type "int") [wv] (IsI j) := by
        intro Γ' b m own s E T
        rcases hwv with ⟨rfl, t, rfl⟩ | ⟨rfl, t, rfl⟩
        · exact PySem.W.KIN.call_text (by decide +kernel) (by decide +kernel) ⟨⟨_, rfl⟩, T.toks⟩
        · exact call_int_int ⟨⟨t, rfl⟩, T⟩
      have hws : (wholeF (linesF ns)).length ≤ 1000 := by
        unfold wholeF; rw [List.length_map]; have := lines_len ns; omega
      refine wpAny_mono (restore_list O W (by omega) (by omega) hD.isList hys (fun x hx => by have := whole_len hx; omega) hws htag hcev T₄) (fun gv s₅ h => spliced_none (wpAny_mono h.2 (fun r s₆ hr => ?_) fun _ _ x => x)) fun _ _ x => x
      obtain ⟨b', l', ⟨ys', ⟨D', rfl, _, _, _, hD'⟩, hy'⟩, T'⟩ := hr
      exact ⟨b', lb₃.trans l', ⟨D', ys', rfl, hD', hy'⟩, T'⟩
  · rw [e3]; walk_at "u"
  obtain ⟨sD, sv, rfl, hsD, hsv⟩ := hvS
  have hS1 : upd m "side" (.ref sD) "sides" = some (.ref SD) := by walk_at "m"
  have hD1 : upd m "side" (.ref sD) "due" = some (.ref DU) := by walk_at "m"
  have hl1 : upd m "side" (.ref sD) "lines" = some (.ref lD) := by walk_at "m"
  have hs1 : upd m "side" (.ref sD) "side" = some (.ref sD) := upd_eq _ _ _
  have g1 : ∀ y : Str, y ≠ "side" → upd m "side" (.ref sD) y = m y := fun y hy => upd_ne hy
  generalize upd m "side" (.ref sD) = m1 at hS1 hD1 hl1 hs1 g1 ⊢
  have hss := hsv.length
  have hsl : (restF (tagJ j) (wholeF (linesF ns))).length ≤ 16 := by
    unfold wholeF
    rw [restF_lines (tagJ j) _ fun x hx => tags_two _ (lines_mem hx).1, List.length_map]
    exact Nat.le_trans (List.length_filter_le _ _) (lines_len ns)
  show Xs Γ b1 m1 ([(DU, lsN du n2)] ++ (SD, lsN sd n1) :: ((L + 4, oW) :: (L + 3, oP) :: (L + 2, oI) :: rest)) _ Q
  with_reducible refine Xs.appE (P := fun b' v => ListS b' v (dueF (linesF ns) items (tagJ j))) (Ev.loc O hS1 (by walk_at "k") (by decide)) ?_ ?_ ?_ ?_ ?_ ?_ ?_ ?_ (fun b2 v1 lb2 hv1 => ?_)
  · refine (Ei.comp O (as := restF (tagJ j) (wholeF (linesF ns))) (cl := [("pattern", L + 3)]) (meantF items) (fun (x : Str) => x) (fun v x => IsS x v) (fun b' v x => IsS x v)
      (iter_list hsD.isList hsv (Ev.loc O hs1 (by walk_at "k") (by decide))) (CTurn.name1 O (by rfl) (by kernel_rfl) fun C' b₁ own₁ m₁ x v hx lb ho hv hm O' => ?_) ?_ (fun _ _ _ _ _ h => h) (by decide) (by rfl) (by have := sizeLine_eq; omega) (by decide) (fun _ => by rfl)).mono fun b' v _ h => ?_
    · obtain ⟨tx, rfl⟩ := hv
      refine ⟨Tv.ofB (Ev.ofCallE (PA := fun vs => ∃ t, vs = [.str (patF items) tp, .str x t]) (by walk_at "topc") (.dfn 91 o91 (fdAt Γ.w 91) (lb _ _ (lb1 _ _ (hb0 _ _ h91))) hd91) ((ArgsE.cons (Ev.cellO O' (ho (L + 3, oP) (by simp)) dP (by rfl) (by walk_at "kc") (by decide)) (ArgsE.cons (Ev.locS O' ⟨tx, hm⟩ (by walk_at "kc") (by decide)) ArgsE.nil (by rfl)) (by rfl)).mono fun vs hvs => ?_) (fun vs hvs => ?_) (by rfl) (by rfl) (by rfl)) (fun _ => by rfl), fun _ => Ev.ei (P := fun _ v => IsS x v) (Ev.locS O' ⟨tx, hm⟩ (by walk_at "kc") (by decide))⟩
      · obtain ⟨v1, _, rfl, h1, v2, _, rfl, ⟨t2, rfl⟩, rfl⟩ := hvs
        exact ⟨t2, by rw [show v1 = _ from h1]⟩
      · obtain ⟨t, rfl⟩ := hvs
        have hxl := restF_len hx
        exact cev_pur fun s E T => law_taken_spec (T.cs O' (n := 2) (by show Γ.A.depth + 21 + 2 < _; omega) (by show Γ.A.units + 103 + 4 * 2 < _; omega)) (W.mono (T.gr.trans T.keep)) hsub hlen3 (by omega)
    · rw [e3]; walk_at "u"
    · obtain ⟨D, ys, rfl, _, _, hD, hy⟩ := h
      rw [List.map_id', side_due] at hy
      exact ⟨D, ys, rfl, ⟨_, hD⟩, hy⟩
  · omega
  · rw [e3]; walk_at "u"
  · rw [e3]; walk_at "u"
  · walk_at "u"
  · rfl
  · rfl
  · rfl
  have hlD2 : b2.IsList lD lvs.toArray := isl_mono (lb1.trans lb2) hlD
  have hlv2 : All2 (LineIs b2) lvs (linesF ns) := hlv.mono fun v x h => h.mono (lb1.trans lb2)
  show Xs Γ b2 m1 ([] ++ (DU, lsN du n2) :: ((SD, lsN (sd ++ [v1]) (n1 + 1)) :: (L + 4, oW) :: (L + 3, oP) :: (L + 2, oI) :: rest)) _ Q
  with_reducible refine Xs.appE (P := fun b' v => ListS b' v (dueF (linesF ns) items (tagJ j))) (Ev.loc O hD1 (by walk_at "k") (by decide)) ?_ ?_ ?_ ?_ ?_ ?_ ?_ ?_ (fun b3 v2 lb3 hv2 => ?_)
  · refine (Ei.comp O (as := linesF ns) (cl := [("which", L + 4), ("items", L + 2)]) (fun x => ([("  " : Str), tagJ j] : List Str).contains x.1 && meantF items x.2) (fun (x : Str × Str) => x.2) (LineIs b2) (fun b' v x => IsS x v)
      (iter_list hlD2 hlv2 (Ev.loc O hl1 (by walk_at "k") (by decide))) (CTurn.two1 O (by rfl) (by kernel_rfl) (by kernel_rfl) (by decide) fun C' b₁ own₁ m₁ x t1 t2 hx lb ho hm1 hm2 O' => ?_) ?_ (fun _ _ _ _ _ h => h) (by decide) (by rfl) (by have := lines_len ns; have := sizeLine_eq; omega) (by decide) (fun _ => by rfl)).mono fun b' v _ h => ?_
    · obtain ⟨iD, iv, rfl, hiD, hiv⟩ := hI.mono (lb1.trans (lb2.trans lb))
      have exT : ∀ {pos}, Ev (Γ.comp _ [("which", L + 4), ("items", L + 2)] C') b₁ m₁ own₁ (.Name "text" pos) (IsS x.2) := fun {pos} => Ev.locS O' ⟨t2, hm2⟩ (by walk_at "kc") (by decide)
      refine ⟨Tw.tv (Tw.andC (Tv.inTmp (xs := [("  " : Str), tagJ j]) (Ev.locS O' ⟨t1, hm1⟩ (by walk_at "kc") (by decide)) (ArgStrs.cons Ev.str (ArgStrs.cons (Ev.tmpItem (xs := [("- " : Str), "+ "]) (i := j - 1) (ArgStrs.cons Ev.str (ArgStrs.cons Ev.str ArgStrs.nil (by rfl)) (by rfl)) (fun D o => Ev.bin (bop_subI (i := j) (j := 1)) ((Ev.cellO O' (.tail _ (ho (L + 4, oW) (by simp))) dW (by rfl) (by walk_at "kc") (by decide)).mono fun v hv => ⟨tj, hv⟩) Ev.int) ?_ ?_ (by decide) (fun _ _ => by rfl)) ArgStrs.nil (by rfl)) (by rfl)) (by simp) (by rfl)) (fun _ => Tw.and1 (Tv.ofB (Ev.ofCallE (PA := fun vs => ∃ t, vs = [.ref iD, .str x.2 t]) (by walk_at "topc") (.dfn 86 o86 (fdAt Γ.w 86) (lb _ _ (lb2 _ _ (lb1 _ _ (hb0 _ _ h86)))) hd86) ((ArgsE.cons (Ev.cellO O' (ho (L + 2, oI) (by simp)) dI (by rfl) (by walk_at "kc") (by decide)) (ArgsE.cons exT ArgsE.nil (by rfl)) (by rfl)).mono fun vs hvs => ?_) (fun vs hvs => ?_) (by rfl) (by rfl) (by rfl)) (fun _ => by rfl)))), fun _ => Ev.ei (P := fun _ v => IsS x.2 v) exT⟩
      · rcases hj with rfl | rfl <;> decide
      · rcases hj with rfl | rfl <;> rfl
      · obtain ⟨v1, _, rfl, h1, v2, _, rfl, ⟨t, rfl⟩, rfl⟩ := hvs
        exact ⟨t, by rw [show v1 = _ from h1]⟩
      · obtain ⟨t, rfl⟩ := hvs
        have hxl := texts_len _ (lines_mem hx).2
        exact cev_pur fun s E T => law_meant_spec (T.cs O' (n := 1) (by show Γ.A.depth + 21 + 1 < _; omega) (by show Γ.A.units + 103 + 4 * 1 < _; omega)) (W.mono (T.gr.trans T.keep)) (isl_mono T.keep hiD) (hiv.mono fun v x h => h.mono T.keep) (by omega) (by omega)
    · rw [e3]; walk_at "u"
    · obtain ⟨D, ys, rfl, _, _, hD, hy⟩ := h
      exact ⟨D, ys, rfl, ⟨_, hD⟩, hy⟩
  · omega
  · rw [e3]; walk_at "u"
  · rw [e3]; walk_at "u"
  · walk_at "u"
  · rfl
  · rfl
  · rfl
  exact K b3 m1 v1 v2 (lb1.trans (lb2.trans lb3)) g1 (hv1.mono lb3) hv2
end
end Mine
end

section
open PySem PySem.W PySem.Calls PySem.Spec PyProof.Rows
open PyProof.Rows.TI (Frs SameUp sameUp_of)
set_option linter.unusedVariables false
namespace Mine
set_option maxRecDepth 100000
set_option maxHeartbeats 1000000
/-- the texts of the items, joined -/
theorem glued_empty : ∀ (xs : List Str), (Builtin.Str.glued "" xs).cps.toList = (xs.map fun x => x.cps.toList).flatten := by
  have e0 : ("" : Str).cps = #[] := by decide +kernel
  have step : ∀ (xs : List Str) (acc : Array Nat), (xs.foldl (fun acc p => acc ++ ("" : Str).cps ++ p.cps) acc).toList = acc.toList ++ (xs.map fun x => x.cps.toList).flatten := by
    intro xs
    induction xs with
    | nil => intro acc; simp
    | cons x r ih =>
      intro acc
      rw [List.foldl_cons, ih, e0]
      simp
  intro xs
  cases xs with
  | nil => simp [Builtin.Str.glued, Str.empty]
  | cons x r =>
    show (r.foldl (fun acc p => acc ++ ("" : Str).cps ++ p.cps) x.cps).toList = _
    rw [step]; simp
theorem pat_join (items : List Item) : Txt.join "" (items.map fun x => x.1) = patF items := by
  have h : (Txt.join "" (items.map fun x => x.1)).cps.toList = patL items := by
    show (Builtin.Str.glued "" _).cps.toList = _
    rw [glued_empty]
    induction items with
    | nil => rfl
    | cons x r ih => show x.1.cps.toList ++ _ = x.1.cps.toList ++ patL r; rw [← ih]
  unfold patF
  rw [← h]
section
variable {Γ : Fx Prg} {b : Heap} {m : Str → Option Value} {own : List (Addr × Obj)} {mg mb : Str → Option Value}
/-- xs[:] of a thing that nobody keeps -/
theorem Ei.copyTmp {value : Expr} {p pos} {a : Addr} {vs : List Value} (hl : b.IsList a vs.toArray) (hv : Ev Γ b m own value (IsV (.ref a))) (hn : vs.length ≤ 1000) :
    Ei Γ b m own (.Subscript value (.Slice none none none p) pos) (fun b' v => NewL b b' vs v) := by
  intro s E T
  refine Subscript_ (hv.use T fun v s₁ hv T₁ => ?_)
  obtain rfl : v = .ref a := hv
  refine wpAny_Slice (evalPart_none_step (evalPart_none_step (evalPart_none_step ?_)))
  have T₂ := T₁.heap' (Le.push s₁.heap { cls := .type "slice", data := .fields #[.none, .none, .none] })
  have hl₂ : (s₁.heap.push { cls := .type "slice", data := .fields #[.none, .none, .none] }).IsList a vs.toArray := isl_mono T₂.keep hl
  refine tail_any hl₂.typeIs F.slot_list_getitem.lookup (wpAny_getItem_list_slice hl₂ (Heap.IsSliceOf.new ..) .none .none .none (by simp) ?_ (by rw [List.size_toArray]; have := sizeLine_eq; omega)) (by with_unfolding_all rfl)
  obtain ⟨b', l, n1, n2, e, T₅⟩ := pushFreeze T₂ (o := { cls := .type "list", data := .seq (slicePick vs.toArray none none none) }) rfl
  rw [slicePick_all] at e T₅ ⊢
  exact ⟨b', l, ⟨_, rfl, n1, n2, ⟨_, e, rfl, _, rfl⟩, ⟨_, e⟩⟩, T₅⟩
/-- list(unorderable_list_difference(xs, ys)) of two lists that are made here -/
theorem Ei.uld (O : Γ.Ok) (W : Wd Γ.w mg mb Γ.g) (hd : Γ.A.depth + 60 < recursionLimit) (hu : Γ.A.units + 300 < cLine) (hfr : Γ.A.frames = some [Γ.env]) (hF : Γ.env.frame = some Γ.L) (hb0 : Le Γ.g b)
    {f1 f2 e1 e2 : Expr} {q1 q2 : Pos} {v1 v2 : List Value} {one two : List Str} (hf1 : Ev Γ b m own f1 (IsV (.type "list"))) (hf2 : Ev Γ b m own f2 (IsV (.ref 69)))
    (h1 : Ei Γ b m own e1 (fun b' v => NewL b b' v1 v)) (h2 : ∀ b', Le b b' → Ei Γ b' m own e2 (fun b'' v => NewL b' b'' v2 v)) (hi1 : All2 (fun v x => IsS x v) v1 one) (hi2 : All2 (fun v x => IsS x v) v2 two) (hl1 : one.length ≤ 1000) (hl2 : two.length ≤ 1000)
    (he1 : eval (.Call f1 [.Call f2 [e1, e2] [] q2] [] q1) Γ.env = (do callWith q1 (← eval f1 Γ.env) [] (backTo q1 (starEach [.Call f2 [e1, e2] [] q2] Γ.env)) (backToKw q1 (keywordEach [] Γ.env))))
    (he2 : eval (.Call f2 [e1, e2] [] q2) Γ.env = (do callWith q2 (← eval f2 Γ.env) [] (backTo q2 (starEach [e1, e2] Γ.env)) (backToKw q2 (keywordEach [] Γ.env))))
    (hs1 : starEach [.Call f2 [e1, e2] [] q2] Γ.env = (false, eval (.Call f2 [e1, e2] [] q2) Γ.env) :: starEach [] Γ.env) (hs2 : starEach [e1, e2] Γ.env = (false, eval e1 Γ.env) :: starEach [e2] Γ.env) (hs3 : starEach [e2] Γ.env = (false, eval e2 Γ.env) :: starEach [] Γ.env) :
    Ei Γ b m own (.Call f1 [.Call f2 [e1, e2] [] q2] [] q1) (fun b' v => ∃ D ws, v = .ref D ∧ b'.IsList D ws.toArray ∧ All2 (ListS b') ws [(uldF one.reverse [] two).1, (uldF one.reverse [] two).2]) := by
  intro s E T
  obtain ⟨o69, h69, hd69⟩ : ∃ o, Γ.g.get? 69 = some o ∧ o.data = .func (fdAt Γ.w 69) := ⟨_, W.X 69 _ rfl, rfl⟩
  refine Call_ (hf1.use T fun v s₁ hv T₁ => ?_) he1
  obtain rfl : v = .type "list" := hv
  refine callWith_type1 (spliced_more (Call_ (hf2.use T₁ fun v s₂ hv T₂ => ?_) he2) hs1) hs1 rfl
  obtain rfl : v = .ref 69 := hv
  refine callWith_def (o := o69) hd69 (spliced_more (h1.use T₂ fun x s₃ b₃ lb₃ hx T₃ => spliced_more ((h2 b₃ lb₃).use T₃ fun y s₄ b₄ lb₄ hy T₄ => spliced_none ⟨?_, ?_⟩) hs3) hs2) hs2
  · exact T₄.keep _ _ ((lb₃.trans lb₄) _ _ (hb0 _ _ h69))
  obtain ⟨D1, rfl, n1, m1, _, z1, hD1⟩ := hx
  obtain ⟨D2, rfl, n2, m2, _, z2, hD2⟩ := hy
  have lb := lb₃.trans lb₄
  have hs1' := T₄.keep _ _ (lb₄ _ _ hD1)
  have hs2' := T₄.keep _ _ hD2
  obtain ⟨oL, esL, epL, hoL, hdL, rL⟩ := T₄.ns
  have gn : ∀ {a : Addr}, b.get? a = none → Γ.g.get? a = none := fun {a} hn => by
    cases q : Γ.g.get? a with
    | none => rfl
    | some o => rw [hb0 _ _ q] at hn; cases hn
  have n2b : b.get? D2 = none := by
    cases q : b.get? D2 with
    | none => rfl
    | some o => rw [lb₃ _ _ q] at n2; cases n2
  have off1 : D1 ∉ Γ.L :: 57 :: own.map (·.1) := fun hm => by have := T₄.off _ hm; rw [lb₄ _ _ hD1] at this; cases this
  have off2 : D2 ∉ Γ.L :: 57 :: own.map (·.1) := fun hm => by have := T₄.off _ hm; rw [hD2] at this; cases this
  have n12 : D1 ≠ D2 := fun q => by
    have : b₃.get? D1 = some (lsN v1 z1) := hD1
    rw [q, n2] at this; cases this
  have ndL := T₄.nd
  have offL := T.off
  simp only [List.mem_cons, not_or] at off1 off2
  simp only [List.nodup_cons, List.mem_cons, not_or] at ndL
  refine wpAny_mono (uld_spec (h0 := Γ.g) (T₄.cs O (n := 0) (by omega) (by omega)) W (W.mono (T₄.gr.trans T₄.keep)) (T₄.gr.trans T₄.keep) (gn (T.off 57 (by simp))) (outer := [Γ.env]) (frs := [(Γ.L, oL)]) hfr ⟨by rw [O.kind]; decide, hF, ⟨esL, epL, hdL⟩, trivial⟩ (fun p hp => ?_) hs1' hs2' (gn n1) (gn n2b) ?_ hi1 hi2 hl1 hl2) (fun r s₅ h => spliced_none ?_) fun _ _ x => x
  · obtain rfl := List.mem_singleton.mp hp
    exact ⟨hoL, gn (T.off _ (.head _))⟩
  · simp only [List.map_cons, List.map_nil, List.nodup_cons, List.mem_cons, List.not_mem_nil, or_false, not_or, List.nodup_nil, and_true, not_false_iff]
    exact ⟨⟨fun q => m1 q.symm, fun q => m2 q.symm, fun q => ndL.1.1 q.symm⟩, ⟨n12, off1.1⟩, off2.1⟩
  obtain ⟨keep, tab, hdr, hos, hgb, ⟨frs', su, hfrs'⟩, D, M, ys, zs, nm, na, o, rfl, hDn, hMn, hDD, hc, hdat, hdict, hM, ha, hys, hzs⟩ := h
  simp only [List.map_cons, List.map_nil, List.mem_cons, List.not_mem_nil, or_false, not_or] at keep
  have T₄b : Γ.S b m own s₄ := T₄.shrink lb hb0
  have T₅ : Γ.S b m own s₅ := by
    refine ⟨?_, hb0, fun a o e => keep a o ⟨fun q => ?_, fun q => ?_, fun q => ?_, fun q => ?_⟩ (T₄b.keep _ _ e), fun p hp => keep p.1 p.2 ⟨fun q => ?_, fun q => ?_, fun q => ?_, fun q => ?_⟩ (T₄b.ow p hp), T₄b.nd, T₄b.off, tab, hdr, hos, ⟨hgb.1, Nat.le_trans T₄.bare.2 hgb.2⟩⟩
    · cases frs' with
      | nil => exact su.elim
      | cons p r =>
        obtain ⟨g1, ⟨sl, g2⟩, _⟩ := su
        have := hfrs' p (.head _)
        rw [g1, g2] at this
        exact ⟨_, esL, epL, this, hdL, rL⟩
    · rw [q, T.off 57 (by simp)] at e; cases e
    · rw [q, n1] at e; cases e
    · rw [q, n2b] at e; cases e
    · rw [q, T.off _ (.head _)] at e; cases e
    · exact ndL.2.1 (q ▸ List.mem_map_of_mem (f := fun x : Addr × Obj => x.1) hp)
    · exact off1.2.2 (q ▸ List.mem_map_of_mem (f := fun x : Addr × Obj => x.1) hp)
    · exact off2.2.2 (q ▸ List.mem_map_of_mem (f := fun x : Addr × Obj => x.1) hp)
    · exact ndL.1.2 (q ▸ List.mem_map_of_mem (f := fun x : Addr × Obj => x.1) hp)
  refine call_list_seq D (.inr rfl) hDD hc hdat (fun h' c' hk hnew => ?_) (by show 2 ≤ sizeLine; have := sizeLine_eq; omega)
  have T₆ : Γ.S b m own { s₅ with heap := h' } := T₅.heap' hk
  obtain ⟨b₆, lb₆, hk₆, T₇⟩ := T₆.rebase
  have nM := T₄.notin hMn
  have nS := T₅.notin (get_size _)
  have nD2 : D2 ∉ Γ.L :: 57 :: own.map (·.1) := by simp only [List.mem_cons, not_or]; exact off2
  exact ⟨b₆, lb₆, ⟨_, [.ref M, .ref D2], rfl, ⟨_, hk₆ _ _ nS hnew, rfl, _, rfl⟩, .cons ⟨M, ys, rfl, ⟨nm, hk₆ M _ nM (hk _ _ hM)⟩, hys⟩ (.cons ⟨D2, zs, rfl, ⟨na, hk₆ D2 _ nD2 (hk _ _ ha)⟩, hzs⟩ .nil)⟩, T₇⟩
end
end Mine
end

section
open PySem PySem.W PySem.Calls PySem.Spec PyProof.Rows
open PyProof.Rows.TI (Frs SameUp sameUp_of)
set_option linter.unusedVariables false
namespace Mine
set_option maxRecDepth 100000
set_option maxHeartbeats 1000000
local macro_rules | `(tactic| walk_at "m") => `(tactic| ((repeat (rw [upd_ne (by decide)])); first | exact upd_eq _ _ _ | assumption))
local macro_rules | `(tactic| walk_at "k") => `(tactic| exact kd (by assumption) (by kernel_rfl))
local macro_rules | `(tactic| walk_at "loc") => `(tactic| exact Ev.loc (by assumption) (by walk_at "m") (by walk_at "k") (by decide))
local macro_rules | `(tactic| walk_at "bui") => `(tactic| exact Ev.boot (by assumption) (by assumption) (by kernel_rfl) (by kernel_rfl) (by decide) (by walk_at "k") (by decide))
local macro_rules | `(tactic| walk_at "top") => `(tactic| exact Ev.top (by assumption) (by assumption) (by kernel_rfl) (by walk_at "k") (by decide))
local macro_rules | `(tactic| walk_at "u") => `(tactic| with_unfolding_all rfl)
local macro_rules | `(tactic| walk_at "kc") => `(tactic| exact kdc (by assumption) (by kernel_rfl))
theorem lackR_mem (two : List Str) {x : Str} : ∀ (r s : List Str), x ∈ lackR two s r → x ∈ r := by
  intro r
  induction r with
  | nil => intro s h; exact h
  | cons y r ih =>
    intro s h
    unfold lackR at h
    split at h
    · rcases List.mem_cons.mp h with rfl | h
      · exact .head _
      · exact .tail _ (ih _ h)
    · exact .tail _ (ih _ h)
inductive OInv (ns : List Int) (items : List Item) (D1 D2 lD L : Addr) (oP oI : Obj) (b2 : Heap) (i : Nat) (b' : Heap) (m' : Str → Option Value) (own' : List (Addr × Obj)) : Prop
  | mk (sd du : List Value) (n1 n2 : Nat) (oW' : Obj) (ho : own' = [(D2, lsN du n2), (D1, lsN sd n1), (L + 4, oW'), (L + 3, oP), (L + 2, oI)]) (lb : Le b2 b') (h1 : m' "lines" = some (.ref lD)) (h2 : m' "sides" = some (.ref D1)) (h3 : m' "due" = some (.ref D2)) (dW : ∃ v, oW'.data = .cell v)
    (hsd : All2 (ListS b') sd (([dueF (linesF ns) items "- ", dueF (linesF ns) items "+ "] : List (List Str)).take i)) (hdu : All2 (ListS b') du (([dueF (linesF ns) items "- ", dueF (linesF ns) items "+ "] : List (List Str)).take i))
section
variable {Γ : Fx Prg} {b : Heap} {m : Str → Option Value} {own : List (Addr × Obj)} {mg mb : Str → Option Value}
theorem lawOuter (O : Γ.Ok) (W : Wd Γ.w mg mb Γ.g) {L : Addr} (e3 : Γ.env = callEnvC (fdAt Γ.w 108) L 108) (hd : Γ.A.depth + 60 < recursionLimit) (hu : Γ.A.units + 300 < cLine) (hfr : Γ.A.frames = some [Γ.env]) (hF : Γ.env.frame = some Γ.L) (hb0 : Le Γ.g b)
    {ns : List Int} {items : List Item} (hsub : ∀ x ∈ items, x ∈ itemsT) (hlen3 : items.length ≤ 3) {lD : Addr} {lvs : List Value} {vI : Value} {oW oP oI : Obj} {rest : List (Addr × Obj)}
    (hl : m "lines" = some (.ref lD)) (hlD : b.IsList lD lvs.toArray) (hlv : All2 (LineIs b) lvs (linesF ns)) (dW : ∃ v, oW.data = .cell v) (dP : ∃ v, oP.data = .cell v) (dI : oI.data = .cell (some vI)) (hI : DrawnIs b vI items) {Q : Flow → Shared → Prop}
    (K : ∀ b' m' oW' oP', Le b b' → m' "lines" = some (.ref lD) → (∃ v, oW'.data = .cell v) → (∃ v, oP'.data = .cell v) → Xs Γ b' m' ((L + 4, oW') :: (L + 3, oP') :: (L + 2, oI) :: rest) [] Q) :
    Xs Γ b m ((L + 4, oW) :: (L + 3, oP) :: (L + 2, oI) :: rest) (lwO Γ.w) Q := by
  have hcW : Γ.env.cells.lookup ("which" : Str) = some (L + 4) := by rw [e3]; kernel_rfl
  have hcP : Γ.env.cells.lookup ("pattern" : Str) = some (L + 3) := by rw [e3]; kernel_rfl
  have hcI : Γ.env.cells.lookup ("items" : Str) = some (L + 2) := by rw [e3]; kernel_rfl
  obtain ⟨wv, dW⟩ := dW
  obtain ⟨pv, dP⟩ := dP
  obtain ⟨iD, iv, rfl, hiD, hiv⟩ := hI
  conv => arg 5; whnf
  show Xs Γ b m ([(L + 4, oW)] ++ (L + 3, oP) :: ((L + 2, oI) :: rest)) _ Q
  with_reducible refine Xs.asg3c O (P := fun b' u v w => IsS (patF items) u ∧ ∃ D1 D2 k1 k2, v = .ref D1 ∧ w = .ref D2 ∧ b.get? D1 = none ∧ b.get? D2 = none ∧ D1 ≠ D2 ∧ b'.get? D1 = some (lsN [] k1) ∧ b'.get? D2 = some (lsN [] k2)) ?_ dP ?_ hcP ?_ ?_ ?_ ?_ (fun b1 u v w oP' lb1 hp dP' => ?_)
  · refine Args.cons (P := fun _ v => IsS (patF items) v) (Ev.ei (P := fun _ v => IsS (patF items) v) ?_) (fun b2 v2 l2 hv2 => Args.cons (P := fun b' v => ∃ D, v = .ref D ∧ b2.get? D = none ∧ ∃ k, b'.get? D = some (lsN [] k)) ?_ (fun b3 v3 l3 hv3 => Args.cons (P := fun b' v => ∃ D, v = .ref D ∧ b3.get? D = none ∧ ∃ k, b'.get? D = some (lsN [] k)) ?_ (fun b4 v4 l4 hv4 => Args.nil.mono fun b5 ws l5 h => ?_) starList) starList) (by rfl)
    · rw [← pat_join]
      refine Ei.joinE Ev.str ?_ ?_ (by walk_at "u") (by rfl) (by rfl) (by rfl)
      · refine (Ei.comp O (as := items) (cl := []) (fun _ => true) (fun (x : Item) => x.1) (fun v x => ItemIs b v x) (fun b' v x => IsS x v) (iter_list hiD hiv (Ev.cellO O (by simp) dI hcI (by walk_at "k") (by decide))) (CTurn.name0 O (by rfl) (by kernel_rfl) fun C' b₁ own₁ m₁ x v hx lb ho hv hm O' => ?_) ?_ (fun _ _ _ _ _ h => h) (by decide) (by rfl) (by have := sizeLine_eq; omega) (by decide) (fun _ => by rfl)).mono fun b' v _ h => ?_
        · obtain ⟨xa, x1, x2, rfl, hxl⟩ := hv.mono lb
          exact Ev.ei (P := fun _ v => IsS x.1 v) ((Ev.itemL (i := 0) hxl (Ev.loc O' hm (by walk_at "kc") (by decide)) Ev.int (by decide) (by decide) rfl (fun _ => by walk_at "u") (fun _ => by walk_at "u")).mono fun v hv => ⟨x1, hv⟩)
        · rw [e3]; walk_at "u"
        · obtain ⟨D, ys, rfl, _, _, hD, hy⟩ := h
          rw [List.filter_eq_self.mpr (fun _ _ => rfl)] at hy
          exact ⟨D, ys, rfl, ⟨_, hD, rfl, _, rfl⟩, hy⟩
      · have hb : ∀ (l : List Item), (∀ x ∈ l, x ∈ itemsT) → ((l.map fun x => x.1).map (·.length)).sum ≤ 6 * l.length := by
          intro l
          induction l with
          | nil => intro _; exact Nat.le_refl _
          | cons x r ih =>
            intro h
            have h1 : ∀ x ∈ itemsT, x.1.length ≤ 6 := by decide +kernel
            have h2 := h1 x (h x (.head _))
            have h3 := ih fun y hy => h y (.tail _ hy)
            rw [List.map_cons, List.map_cons, List.sum_cons, List.length_cons]; omega
        have h1 := hb items hsub
        have h2 : ("" : Str).length = 0 := by decide +kernel
        rw [h2]; omega
    · refine (Ei.listE ArgsE.nil ?_).mono fun b' v _ h => ?_
      · rintro _ rfl; exact Nat.zero_le _
      · obtain ⟨_, ⟨D, rfl, n1, _, _, k, hk⟩, rfl⟩ := h
        exact ⟨D, rfl, n1, k, hk⟩
    · refine (Ei.listE ArgsE.nil ?_).mono fun b' v _ h => ?_
      · rintro _ rfl; exact Nat.zero_le _
      · obtain ⟨_, ⟨D, rfl, n1, _, _, k, hk⟩, rfl⟩ := h
        exact ⟨D, rfl, n1, k, hk⟩
    · obtain ⟨rfl, rfl⟩ := h
      obtain ⟨D1, rfl, n1, k1, hD1⟩ := hv3
      obtain ⟨D2, rfl, n2, k2, hD2⟩ := hv4
      have bn : ∀ {b₀ b₁ : Heap} {a : Addr}, Le b₀ b₁ → b₁.get? a = none → b₀.get? a = none := fun {b₀ b₁ a} l hn => by
        cases q : b₀.get? a with
        | none => rfl
        | some o => rw [l _ _ q] at hn; cases hn
      refine ⟨v2, .ref D1, .ref D2, rfl, hv2, D1, D2, k1, k2, rfl, rfl, bn l2 n1, bn (l2.trans l3) n2, fun q => ?_, l4 _ _ hD1, hD2⟩
      rw [q, n2] at hD1; cases hD1
  · walk_at "k"
  · walk_at "k"
  · walk_at "k"
  · rw [e3]; walk_at "u"
  · rw [e3]; walk_at "u"
  obtain ⟨hu1, D1, D2, k1, k2, rfl, rfl, n1, n2, n12, hD1, hD2⟩ := hp
  obtain ⟨tp, rfl⟩ := hu1
  intro s₀ E₀ T₀
  have gn : ∀ {a : Addr}, b.get? a = none → Γ.g.get? a = none := fun {a} hn => by
    cases q : Γ.g.get? a with
    | none => rfl
    | some o => rw [hb0 _ _ q] at hn; cases hn
  have T₁ := St.own (St.own T₀ hD1 (gn n1)) (hideAll_get _ hD2 (by simpa using Ne.symm n12)) (gn n2)
  have lbb : Le b (hideAll (hideAll b1 [D1]) [D2]) := fun a o e => hideAll_get _ (hideAll_get _ (lb1 _ _ e) (by simp only [List.mem_singleton]; rintro rfl; rw [n1] at e; cases e)) (by simp only [List.mem_singleton]; rintro rfl; rw [n2] at e; cases e)
  generalize hideAll (hideAll b1 [D1]) [D2] = b2 at T₁ lbb
  have hlD2 := isl_mono lbb hlD
  have hlv2 : All2 (LineIs b2) lvs (linesF ns) := hlv.mono fun v x h => h.mono lbb
  have hml : upd (upd m "sides" (.ref D1)) "due" (.ref D2) "lines" = some (.ref lD) := by walk_at "m"
  have hms : upd (upd m "sides" (.ref D1)) "due" (.ref D2) "sides" = some (.ref D1) := by walk_at "m"
  have hmd : upd (upd m "sides" (.ref D1)) "due" (.ref D2) "due" = some (.ref D2) := upd_eq _ _ _
  generalize upd (upd m "sides" (.ref D1)) "due" (.ref D2) = m2 at T₁ hml hms hmd
  have T₁ : Γ.S b2 m2 ([(D2, lsN [] k2), (D1, lsN [] k1), (L + 4, oW), (L + 3, oP'), (L + 2, oI)] ++ rest) s₀ := T₁
  refine Xs.go T₁ ?_
  have hcomm : ∀ i : Nat, i < 2 → (([dueF (linesF ns) items "- ", dueF (linesF ns) items "+ "] : List (List Str)).take (i + 1)) = ([dueF (linesF ns) items "- ", dueF (linesF ns) items "+ "] : List (List Str)).take i ++ [dueF (linesF ns) items (tagJ (i + 1 : Nat))] := by
    intro i hi
    have : i = 0 ∨ i = 1 := by omega
    rcases this with rfl | rfl <;> rfl
  refine Xs.forE (as := [(1 : Int), 2]) (Kin := fun v k => IsI k v) (P₀ := fun b' v => ∃ D ws, v = .ref D ∧ b'.IsList D ws.toArray ∧ All2 (fun v k => IsI k v) ws [(1 : Int), 2]) O
    (OInv ns items D1 D2 lD L oP' oI b2)
    ?_ (fun b₀ v s E l hp T => ?_) (fun b₀ l => ⟨[], [], k1, k2, oW, rfl, l, hml, hms, hmd, ⟨wv, dW⟩, .nil, .nil⟩) ?_ (fun _ => rfl) ?_
  · refine (Ei.listE (PA := fun vs => All2 (fun v k => IsI k v) vs [(1 : Int), 2]) (ArgInts.cons Ev.int (ArgInts.cons Ev.int ArgInts.nil (by rfl)) (by rfl)) ?_).mono fun b' v _ h => ?_
    · intro vs h; rw [h.length]; show 2 ≤ sizeLine; decide
    · obtain ⟨ws, ⟨D, rfl, _, _, hD, _⟩, hw⟩ := h
      exact ⟨D, ws, rfl, hD, hw⟩
  · obtain ⟨D, ws, rfl, hD, hw⟩ := hp
    exact iter_of_list hD hw T
  · rintro i a v b₃ m₃ own₃ R₁ s E hia lb ⟨ta, rfl⟩ ⟨sd, du, j1, j2, oW', rfl, l3, h1, h2, h3, ⟨wv', dW'⟩, hsd, hdu⟩ hR T
    have hi2 : i < 2 ∧ a = (i + 1 : Nat) := by
      cases i with
      | zero => simp at hia; exact ⟨by omega, by simp [← hia]⟩
      | succ i => cases i with
        | zero => simp at hia; exact ⟨by omega, by simp [← hia]⟩
        | succ i => simp at hia
    obtain ⟨hi2, rfl⟩ := hi2
    have T : Γ.S b₃ m₃ ([(D2, lsN du j2), (D1, lsN sd j1)] ++ (L + 4, oW') :: ((L + 3, oP') :: (L + 2, oI) :: R₁)) s := T
    refine wpAny_assign_Name (storesCell O T dW' (by walk_at "k") hcW fun s' o' d T' => ?_)
    have T' : Γ.S b₃ m₃ ((D2, lsN du j2) :: (D1, lsN sd j1) :: (L + 4, o') :: (L + 3, oP') :: (L + 2, oI) :: R₁) s' := T'
    refine Xs.go T' ?_
    have hls := hsd.length
    have hld := hdu.length
    rw [List.length_take] at hls hld
    simp only [List.length_cons, List.length_nil] at hls hld
    refine lawTurn O W e3 hd hu (hb0.trans (lbb.trans l3)) hsub hlen3 (j := (i + 1 : Nat)) ?_ h1 (isl_mono l3 hlD2) (hlv2.mono fun v x h => h.mono l3) h2 h3 (by omega) (by omega) d dP' dI ⟨iD, iv, rfl, isl_mono (lbb.trans l3) hiD, hiv.mono fun v x h => h.mono (lbb.trans l3)⟩ (fun b₄ m₄ v1 v2 l4 g4 hv1 hv2 => ?_)
    · have : i = 0 ∨ i = 1 := by omega
      rcases this with rfl | rfl
      · exact .inl rfl
      · exact .inr rfl
    · refine Xs.nil fun s'' T'' => ⟨rfl, b₄, m₄, _, l4, ⟨sd ++ [v1], du ++ [v2], j1 + 1, j2 + 1, o', rfl, l3.trans l4, (g4 _ (by decide)).trans h1, (g4 _ (by decide)).trans h2, (g4 _ (by decide)).trans h3, ⟨_, d⟩, ?_, ?_⟩, T''⟩
      · rw [hcomm i hi2]; exact all2_app (hsd.mono fun v x h => h.mono l4) (.cons hv1 .nil)
      · rw [hcomm i hi2]; exact all2_app (hdu.mono fun v x h => h.mono l4) (.cons hv2 .nil)
  · rintro b₅ m₅ own₅ l5 ⟨sd, du, j1, j2, oW', rfl, _, h1, h2, h3, dW', hsd, hdu⟩
    have hsd : All2 (ListS b₅) sd [dueF (linesF ns) items "- ", dueF (linesF ns) items "+ "] := hsd
    have hdu : All2 (ListS b₅) du [dueF (linesF ns) items "- ", dueF (linesF ns) items "+ "] := hdu
    obtain ⟨s0, s1, rfl, hs0, hs1⟩ : ∃ s0 s1, sd = [s0, s1] ∧ ListS b₅ s0 (dueF (linesF ns) items "- ") ∧ ListS b₅ s1 (dueF (linesF ns) items "+ ") := by
      cases hsd with
      | cons h t => cases t with
        | cons h' t' => cases t'; exact ⟨_, _, rfl, h, h'⟩
    obtain ⟨d0, d1, rfl, hd0, hd1⟩ : ∃ s0 s1, du = [s0, s1] ∧ ListS b₅ s0 (dueF (linesF ns) items "- ") ∧ ListS b₅ s1 (dueF (linesF ns) items "+ ") := by
      cases hdu with
      | cons h t => cases t with
        | cons h' t' => cases t'; exact ⟨_, _, rfl, h, h'⟩
    have m1 : ∀ t ∈ dueF (linesF ns) items "- ", t ∈ textsT := fun t ht => due_mem ht
    have m2' : ∀ t ∈ dueF (linesF ns) items "+ ", t ∈ textsT := fun t ht => due_mem ht
    have len1 := due_len ns items "- "
    have len2 := due_len ns items "+ "
    generalize dueF (linesF ns) items "- " = one at *
    generalize dueF (linesF ns) items "+ " = two at *
    obtain ⟨S0, y0, rfl, hS0, hy0⟩ := hs0
    obtain ⟨S1, y1, rfl, hS1, hy1⟩ := hs1
    have ly0 := hy0.length
    have ly1 := hy1.length
    have hb5 : Le Γ.g b₅ := hb0.trans (lbb.trans l5)
    obtain ⟨o96, h96, hd96⟩ : ∃ o, Γ.g.get? 96 = some o ∧ o.data = .func (fdAt Γ.w 96) := ⟨_, W.X 96 _ rfl, rfl⟩
    have eSd : ∀ {b' pos}, Ev Γ b' m₅ ([(D2, lsN [d0, d1] j2), (D1, lsN [.ref S0, .ref S1] j1), (L + 4, oW'), (L + 3, oP'), (L + 2, oI)] ++ rest) (.Name "sides" pos) (IsV (.ref D1)) := fun {b' pos} => Ev.loc O h2 (by walk_at "k") (by decide)
    have eDu : ∀ {b' pos}, Ev Γ b' m₅ ([(D2, lsN [d0, d1] j2), (D1, lsN [.ref S0, .ref S1] j1), (L + 4, oW'), (L + 3, oP'), (L + 2, oI)] ++ rest) (.Name "due" pos) (IsV (.ref D2)) := fun {b' pos} => Ev.loc O h3 (by walk_at "k") (by decide)
    with_reducible refine Xs.ifN ?_ ?_
    · refine Tw.tv (Tw.orF ?_ (Tw.orF ?_ Tw.orN))
      · intro s E T
        refine wpAny_isTrue_Compare1 (Ei.use (Γ := Γ) (Ei.uld (v1 := y0) (v2 := y1) (one := one) (two := two) O W hd hu hfr hF hb5 (by walk_at "bui") (by walk_at "top") (Ei.copyTmp hS0.isList (Ev.itemOwn (k := 0) (.tail _ (.head _)) eSd Ev.int rfl (by simp) (fun _ => by rfl) (fun _ => by rfl)) (by omega)) (fun b' l => Ei.copyTmp (isl_mono l hS1.isList) (Ev.itemOwn (k := 1) (.tail _ (.head _)) eSd Ev.int rfl (by simp) (fun _ => by rfl) (fun _ => by rfl)) (by omega)) hy0 hy1 (by omega) (by omega) (by rfl) (by rfl) (by rfl) (by rfl) (by rfl)) T fun u s₁ b₆ lb₆ hu6 T₁ => ?_) (by rfl)
        obtain ⟨U, us, rfl, hU, hus⟩ := hu6
        obtain ⟨e0, z0, rfl, hE0, hz0⟩ := hd0
        obtain ⟨e1, z1, rfl, hE1, hz1⟩ := hd1
        refine Ei.use (Γ := Γ) (P := fun b' v => ∃ D ws, v = .ref D ∧ b'.IsList D ws.toArray ∧ All2 (ListS b') ws [lackF one two, leftF one two]) (Ei.ofCallE (by walk_at "top") (.dfn 96 o96 (fdAt Γ.w 96) ((hb5.trans lb₆) _ _ h96) hd96) (ArgsE.cons (P := IsV (.ref e0)) (Ev.itemOwn (k := 0) (.head _) eDu Ev.int rfl (by simp) (fun _ => by rfl) (fun _ => by rfl)) (ArgsE.cons (P := IsV (.ref e1)) (Ev.itemOwn (k := 1) (.head _) eDu Ev.int rfl (by simp) (fun _ => by rfl) (fun _ => by rfl)) ArgsE.nil (by rfl)) (by rfl)) (fun vs' hvs => ?_) (by rfl) (by rfl) (by rfl)) T₁ fun v s₂ b₇ lb₇ hv7 T₂ => ?_
        · obtain ⟨_, _, rfl, rfl, _, _, rfl, rfl, rfl⟩ := hvs
          intro s E T
          have W' : Wd Γ.w mg mb s.heap := W.mono (T.gr.trans T.keep)
          refine wpAny_mono (law_net_spec (T.cs O (n := 0) (by omega) (by omega)) W' (plMono (lb₆.trans T.keep) hE0) hz0 (plMono (lb₆.trans T.keep) hE1) hz1 (by omega) (by omega)) (fun r s' hr => ?_) fun _ _ x => x
          obtain ⟨P, D, D1, D2, x1, x2, rfl, nD, nD1, nD2, hD, hD1, hD2, hx1, hx2⟩ := hr
          obtain ⟨b', l, hk, T'⟩ := T.adopt2 P
          have up : ∀ {D : Addr} {ys : Array Value}, s.heap.get? D = none → s'.heap.PlainList D ys → b'.PlainList D ys := fun n h => let ⟨q, e⟩ := h; ⟨q, (hk _ _ n e).2.2⟩
          exact ⟨b', l, ⟨D, [.ref D1, .ref D2], rfl, (up nD hD).isList, .cons ⟨D1, x1, rfl, up nD1 hD1, hx1⟩ (.cons ⟨D2, x2, rfl, up nD2 hD2, hx2⟩ .nil)⟩, T'⟩
        · obtain ⟨V, ws, rfl, hV, hws⟩ := hv7
          rw [lack_eq, left_eq] at hws
          rw [uldF_two] at hus
          refine neLL (L := [lackR two [] one.reverse, keepF (fun v => one.count v) two]) (isl_mono (lb₇.trans T₂.keep) hU) (hus.mono fun v x h => h.mono (lb₇.trans T₂.keep)) (isl_mono T₂.keep hV) (hws.mono fun v x h => h.mono T₂.keep) ?_ (by omega) (wpAny_truthy_bool ⟨rfl, T₂.shrink (lb₆.trans lb₇) hb5⟩)
          intro xs hxs x hx
          rcases List.mem_cons.mp hxs with rfl | hxs
          · exact texts_ok _ (m1 _ (List.mem_reverse.mp (lackR_mem two _ _ hx)))
          · obtain rfl := List.mem_singleton.mp hxs
            have hc := (keepF_mem x two (fun v => one.count v)).mp hx
            exact texts_ok _ (m2' _ (List.count_pos_iff.mp (Nat.lt_of_le_of_lt (Nat.zero_le _) hc)))
      · intro s E T
        refine wpAny_isTrue_Compare1 (eSd.use T fun u s₁ hu1 T₁ => eDu.use T₁ fun v s₂ hv T₂ => ?_) (by rfl)
        obtain rfl : u = .ref D1 := hu1
        obtain rfl : v = .ref D2 := hv
        refine neLL (L := [one, two]) ⟨_, T₂.ow (D1, _) (.tail _ (.head _)), rfl, _, rfl⟩ (hsd.mono fun v x h => h.mono T₂.keep) ⟨_, T₂.ow (D2, _) (.head _), rfl, _, rfl⟩ (hdu.mono fun v x h => h.mono T₂.keep) ?_ (by omega) (wpAny_truthy_bool ⟨rfl, T₂⟩)
        intro xs hxs x hx
        rcases List.mem_cons.mp hxs with rfl | hxs
        · exact texts_ok _ (m1 _ hx)
        · obtain rfl := List.mem_singleton.mp hxs
          exact texts_ok _ (m2' _ hx)
    · exact Xs.dropOwn (Xs.dropOwn (K b₅ m₅ oW' oP' (lbb.trans l5) h1 dW' ⟨_, dP'⟩))
end
end Mine
end

section
open PySem PySem.W PySem.Calls PySem.Spec PyProof.Rows
open PyProof.Rows.TI (Frs SameUp sameUp_of)
set_option linter.unusedVariables false
namespace Mine
set_option maxRecDepth 100000
set_option maxHeartbeats 1000000
local macro_rules | `(tactic| walk_at "m") => `(tactic| ((repeat (rw [upd_ne (by decide)])); first | exact upd_eq _ _ _ | assumption))
local macro_rules | `(tactic| walk_at "k") => `(tactic| exact kd (by assumption) (by kernel_rfl))
local macro_rules | `(tactic| walk_at "top") => `(tactic| exact Ev.top (by assumption) (by assumption) (by kernel_rfl) (by walk_at "k") (by decide))
local macro_rules | `(tactic| walk_at "u") => `(tactic| with_unfolding_all rfl)
theorem itemsF_sub {x : Int} {z : Item} (h : z ∈ itemsF x) : z ∈ itemsT := by
  obtain ⟨k, _, rfl⟩ := List.mem_map.mp h
  have h12 : itemsT.length = 12 := by decide
  have hp := fmod_pos ((x.fdiv 3).fdiv (12 ^ k.toNat)) (n := 12) (by decide)
  rw [List.getD_eq_getElem?_getD, List.getElem?_eq_getElem (by omega)]
  exact List.getElem_mem _
theorem itemsF_len (x : Int) : (itemsF x).length ≤ 3 := by
  have hp := fmod_pos x (n := 3) (by decide)
  unfold itemsF rangeL
  rw [List.length_map, List.length_map, List.length_range]
  omega
section
variable {Γ : Fx Prg} {b : Heap} {m : Str → Option Value} {own : List (Addr × Obj)} {mg mb : Str → Option Value}
/-- _law_third(lines) -/
theorem Ev.third (O : Γ.Ok) (W : Wd Γ.w mg mb Γ.g) (hd : Γ.A.depth + 60 < recursionLimit) (hu : Γ.A.units + 300 < cLine) (hfr : Γ.A.frames = some [Γ.env]) (hF : Γ.env.frame = some Γ.L) (hb0 : Le Γ.g b)
    {f e : Expr} {q : Pos} (hf : Ev Γ b m own f (IsV (.ref 103))) (h1 : Ei Γ b m own e (fun b' v => ∃ D, v = .ref D))
    (he1 : eval (.Call f [e] [] q) Γ.env = (do callWith q (← eval f Γ.env) [] (backTo q (starEach [e] Γ.env)) (backToKw q (keywordEach [] Γ.env)))) (hs1 : starEach [e] Γ.env = (false, eval e Γ.env) :: starEach [] Γ.env) :
    Ev Γ b m own (.Call f [e] [] q) (IsS "unknown delta choice (must be 1 or 2): 3") := by
  intro s E T
  obtain ⟨o103, h103, hd103⟩ : ∃ o, Γ.g.get? 103 = some o ∧ o.data = .func (fdAt Γ.w 103) := ⟨_, W.X 103 _ rfl, rfl⟩
  refine Call_ (hf.use T fun v s₁ hv T₁ => ?_) he1
  obtain rfl : v = .ref 103 := hv
  refine callWith_def (o := o103) hd103 (spliced_more (h1.use T₁ fun x s₃ b₃ lb₃ hx T₃ => spliced_none ⟨?_, ?_⟩) hs1) hs1
  · exact T₃.keep _ _ (lb₃ _ _ (hb0 _ _ h103))
  obtain ⟨D, rfl⟩ := hx
  obtain ⟨oL, esL, epL, hoL, hdL, rL⟩ := T₃.ns
  have gn : ∀ {a : Addr}, b.get? a = none → Γ.g.get? a = none := fun {a} hn => by
    cases q : Γ.g.get? a with
    | none => rfl
    | some o => rw [hb0 _ _ q] at hn; cases hn
  have ndL := T₃.nd
  simp only [List.nodup_cons, List.mem_cons, not_or] at ndL
  refine wpAny_mono (law_third_spec (h0 := Γ.g) (T₃.cs O (n := 25) (by omega) (by omega)) W (W.mono (T₃.gr.trans T₃.keep)) (T₃.gr.trans T₃.keep) (gn (T.off 57 (by simp))) (outer := [Γ.env]) (frs := [(Γ.L, oL)]) hfr ⟨by rw [O.kind]; decide, hF, ⟨esL, epL, hdL⟩, trivial⟩ (fun p hp => ?_) ?_) (fun r s₅ h => ?_) fun _ _ x => x
  · obtain rfl := List.mem_singleton.mp hp
    exact ⟨hoL, gn (T.off _ (.head _))⟩
  · simp only [List.map_cons, List.map_nil, List.nodup_cons, List.mem_cons, List.not_mem_nil, or_false, List.nodup_nil, and_true, not_false_iff]
    exact fun q => ndL.1.1 q.symm
  obtain ⟨keep, tab, hdr, hos, hgb, ⟨frs', su, hfrs'⟩, hr⟩ := h
  simp only [List.map_cons, List.map_nil, List.mem_cons, List.not_mem_nil, or_false, not_or] at keep
  have T₃b : Γ.S b m own s₃ := T₃.shrink lb₃ hb0
  refine ⟨hr, ?_⟩
  refine ⟨?_, hb0, fun a o e => keep a o ⟨fun q => ?_, fun q => ?_⟩ (T₃b.keep _ _ e), fun p hp => keep p.1 p.2 ⟨fun q => ?_, fun q => ?_⟩ (T₃b.ow p hp), T₃b.nd, T₃b.off, tab, hdr, hos, ⟨hgb.1, Nat.le_trans T₃.bare.2 hgb.2⟩⟩
  · cases frs' with
    | nil => exact su.elim
    | cons p r =>
      obtain ⟨g1, ⟨sl, g2⟩, _⟩ := su
      have := hfrs' p (.head _)
      rw [g1, g2] at this
      exact ⟨_, esL, epL, this, hdL, rL⟩
  · rw [q, T.off 57 (by simp)] at e; cases e
  · rw [q, T.off _ (.head _)] at e; cases e
  · exact ndL.2.1 (q ▸ List.mem_map_of_mem (f := fun x : Addr × Obj => x.1) hp)
  · exact ndL.1.2 (q ▸ List.mem_map_of_mem (f := fun x : Addr × Obj => x.1) hp)
/-- the loop and the end -/
theorem lawB (O : Γ.Ok) (W : Wd Γ.w mg mb Γ.g) {L : Addr} (e3 : Γ.env = callEnvC (fdAt Γ.w 108) L 108) (hd : Γ.A.depth + 60 < recursionLimit) (hu : Γ.A.units + 300 < cLine) (hfr : Γ.A.frames = some [Γ.env]) (hF : Γ.env.frame = some Γ.L) (hb0 : Le Γ.g b)
    {ns : List Int} {lD dD : Addr} {lvs : List Value} {d1 d2 : Value} {x : Int} {oW oP oI : Obj} {rest : List (Addr × Obj)}
    (hl : m "lines" = some (.ref lD)) (hlD : b.IsList lD lvs.toArray) (hlv : All2 (LineIs b) lvs (linesF ns)) (hdr : m "drawn" = some (.ref dD)) (hdD : b.IsList dD [d1, d2].toArray) (hd1 : DrawnIs b d1 [(("*" : Str), "", false)]) (hd2 : DrawnIs b d2 (itemsF x))
    (dW : ∃ v, oW.data = .cell v) (dP : ∃ v, oP.data = .cell v) (dI : ∃ v, oI.data = .cell v) {Q : Flow → Shared → Prop}
    (K : ∀ b' m' own' s', Γ.S b' m' own' s' → Q (.ret (.bool true)) s') :
    Xs Γ b m ((L + 4, oW) :: (L + 3, oP) :: (L + 2, oI) :: rest) ((lw Γ.w).drop 3) Q := by
  have hcI : Γ.env.cells.lookup ("items" : Str) = some (L + 2) := by rw [e3]; kernel_rfl
  conv => arg 5; whnf
  show Xs Γ b m ([(L + 4, oW), (L + 3, oP), (L + 2, oI)] ++ rest) _ Q
  with_reducible
   refine Xs.for (as := ([[(("*" : Str), "", false)], itemsF x] : List (List Item))) (Kin := fun v z => DrawnIs b v z) O
    (fun (i : Nat) (b' : Heap) m' own' => ∃ oW' oP' oI', own' = [(L + 4, oW'), (L + 3, oP'), (L + 2, oI')] ∧ Le b b' ∧ m' "lines" = some (.ref lD) ∧ (∃ v, oW'.data = .cell v) ∧ (∃ v, oP'.data = .cell v) ∧ (∃ v, oI'.data = .cell v))
    (iter_list hdD (.cons hd1 (.cons hd2 .nil)) (Ev.loc O hdr ?_ ?_)) ⟨oW, oP, oI, rfl, Le.refl _, hl, dW, dP, dI⟩ ?_ ?_ ?_
  · walk_at "k"
  · decide
  · rintro i a v b₃ m₃ own₃ R₁ s E hia lb hv ⟨oW', oP', oI', rfl, l3, h1, dW', dP', vI, dI'⟩ hR T
    have hsub : ∀ z ∈ a, z ∈ itemsT := by
      cases i with
      | zero =>
        obtain rfl : ([(("*" : Str), "", false)] : List Item) = a := by simpa using hia
        decide
      | succ i => cases i with
        | zero =>
          obtain rfl : itemsF x = a := by simpa using hia
          exact fun z hz => itemsF_sub hz
        | succ i => simp at hia
    have hlen3 : a.length ≤ 3 := by
      cases i with
      | zero =>
        obtain rfl : ([(("*" : Str), "", false)] : List Item) = a := by simpa using hia
        decide
      | succ i => cases i with
        | zero =>
          obtain rfl : itemsF x = a := by simpa using hia
          exact itemsF_len x
        | succ i => simp at hia
    have T : Γ.S b₃ m₃ ([(L + 4, oW'), (L + 3, oP')] ++ (L + 2, oI') :: R₁) s := T
    refine wpAny_assign_Name (storesCell O T dI' (by walk_at "k") hcI fun s' o' d T' => ?_)
    have T' : Γ.S b₃ m₃ ((L + 4, oW') :: (L + 3, oP') :: (L + 2, o') :: R₁) s' := T'
    refine Xs.go T' ?_
    exact lawOuter O W e3 hd hu hfr hF (hb0.trans l3) hsub hlen3 h1 (isl_mono l3 hlD) (hlv.mono fun v z h => h.mono l3) dW' dP' d (hv.mono l3) fun b₄ m₄ oW₄ oP₄ l4 h4 dW₄ dP₄ => Xs.nil fun s'' T'' => ⟨rfl, b₄, m₄, _, l4, ⟨oW₄, oP₄, o', rfl, l3.trans l4, h4, dW₄, dP₄, _, d⟩, T''⟩
  · exact fun _ => rfl
  · rintro b₅ m₅ own₅ l5 ⟨oW', oP', oI', rfl, _, h1, dW', dP', dI'⟩
    have hlx := lines_len ns
    refine Xs.ret (P := fun _ v => v = .bool true) (Ev.ei (P := fun _ v => v = .bool true) ((Ev.cmp cop_eqS (Ev.third O W hd hu hfr hF (hb0.trans l5) (by walk_at "top") ((Ei.whole O h1 (by walk_at "k") (isl_mono l5 hlD) (hlv.mono fun v z h => h.mono l5) hlx (fun z hz => ?_) (by rfl) (by rfl)).mono fun b' v _ h => let ⟨D, _, e, _⟩ := h; ⟨D, e⟩) (by rfl) (by rfl)) Ev.str (by rfl)).mono fun v hv => ?_)) fun b' v s' _ hv T => ?_
    · have h1 := texts_len _ (lines_mem hz).2
      have h2 : ∀ t ∈ tagsT, t.length ≤ 2 := by decide +kernel
      have h3 := h2 _ (lines_mem hz).1
      omega
    · rw [show v = _ from hv]
      simp
    · subst hv
      exact K _ _ _ _ T
end
end Mine
end

section
open PySem PySem.W PySem.Calls PySem.Spec PyProof.Rows
open PyProof.Rows.TI (Frs SameUp sameUp_of)
set_option linter.unusedVariables false
namespace Mine
set_option maxRecDepth 100000
set_option maxHeartbeats 1000000
theorem enterC {prog : Program} {w : World} {A : Around} {s : Shared} {f : Addr} {o : Obj} {fd : FuncData} {body : List Stmt} {vals : List Value} {binds : List (Str × Value)} {dr : Dn} {os : OsState} {n : Nat} {R : Result → Shared → Prop}
    (C : Cs dr os A n s) (ho : s.heap.get? f = some o) (hd : o.data = .func fd) (hcd : s.heap.CodeRec fd.code fd.qualname) (hlim : s.heap.NoLimit) (hbody : fd.body = .stmts body) (hbind : bindArgs fd ⟨vals, []⟩ = pure binds) (hclo : fd.closure = [])
    (hkind : (binds.all fun y => fd.scope.names.lookup y.1 == some .local || fd.scope.names.lookup y.1 == some .cell) = true) (hg : fd.globals = mainGlobals) (hb : fd.builtins = builtinsNs)
    (hk : fd.scope.kind = .function) (hco : fd.scope.isCoroutine = false) (hgen : fd.scope.isGenerator = false)
    (k : ∀ (L : Addr) (b : Heap) (s₁ : Shared) (Γ : Fx prog), Γ.w = w → Γ.env = callEnvC fd L f → Γ.L = L → Γ.g = hideAll s.heap [57] → Γ.dr = dr → Γ.os = os → Γ.A = A.deeper (callEnvC fd L f) → Γ.Ok → L = s.heap.objs.size →
      Γ.S b (bindL (callEnvC fd L f).kindOf binds fun _ => none) [] s₁ → (∀ x c, (callEnvC fd L f).cells.lookup x = some c → ∃ o, b.get? c = some o ∧ o.data = .cell (bindC (callEnvC fd L f).kindOf binds (fun _ => none) x)) →
      (∀ x c, (callEnvC fd L f).cells.lookup x = some c → s.heap.get? c = none) →
      wpAny Γ.M Γ.A (execs body Γ.env) (fun fl s' => R (.ok (.ret (match fl with | .ret v => v | _ => .none))) s') (fun _ _ => False) s₁) :
    codeAny (model prog w) A (.call (.ref f) ⟨vals, []⟩) R s := by
  refine codeAny_call_cells (by have := C.depth; omega) ho hd hlim hcd hbody hbind hclo ?_ ?_ hco hgen hk
  · exact kindsX hkind _
  · intro s₁ x
    obtain ⟨h₁, tk, rfl⟩ := x.toInCall.same
    have L0 : (callEnvC fd s.heap.objs.size f).locals = s.heap.objs.size := rfl
    rw [L0] at x
    have keep := x.toInCall.keep
    have ns := x.toInCall.ns
    obtain ⟨ps, et, tt⟩ := C.tab
    have l57 : 57 < s.heap.objs.size := Heap.lt_size et
    have n57 : s.heap.objs.size ≠ 57 := Nat.ne_of_gt l57
    have S : St (hideAll s.heap [57]) (hideAll h₁ [s.heap.objs.size, 57]) s.heap.objs.size (bindL (callEnvC fd s.heap.objs.size f).kindOf binds fun _ => none) [] dr os { s with heap := h₁, toks := tk } := by
      refine ⟨ns, fun a o e => ?_, fun a o e => of_hideAll _ e, fun p hp => (nomatch hp), by simp [n57], fun a ha => hideAll_none _ (by simpa using ha), ⟨ps, keep _ _ et, tt⟩, C.dr.1, C.os, ⟨C.bare, Nat.le_of_eq C.dr.2⟩⟩
      have e' := of_hideAll _ e
      refine hideAll_get _ (keep _ _ e') ?_
      simp only [List.mem_cons, List.not_mem_nil, or_false, not_or]
      refine ⟨fun q => (by rw [q, get_size] at e'; cases e'), fun q => ?_⟩
      rw [q, hideAll_none _ (by simp)] at e; cases e
    have cellN : ∀ x c, (callEnvC fd s.heap.objs.size f).cells.lookup x = some c → s.heap.objs.size < c := fun y c hc => x.above y c (mem_of_lookup hc)
    have := k s.heap.objs.size _ _ ⟨w, A.deeper (callEnvC fd s.heap.objs.size f), callEnvC fd s.heap.objs.size f, hideAll s.heap [57], s.heap.objs.size, dr, os⟩ rfl rfl rfl rfl rfl rfl rfl
      ⟨hk, rfl, hg, hb, C.hand, by show A.depth + 1 + 20 < _; have := C.depth; omega, by show A.units + 3 + 100 < _; have := C.units; omega⟩ rfl S ?_ ?_
    · exact wpAny_mono this (fun _ _ y => y) fun _ _ y => y.elim
    · intro y c hc
      obtain ⟨oc, e1, e2⟩ := x.cell y c hc
      refine ⟨oc, hideAll_get _ e1 ?_, e2⟩
      simp only [List.mem_cons, List.not_mem_nil, or_false, not_or]
      exact ⟨Nat.ne_of_gt (cellN y c hc), Nat.ne_of_gt (Nat.lt_trans l57 (cellN y c hc))⟩
    · intro y c hc
      cases q : s.heap.get? c with
      | none => rfl
      | some o => exact absurd (Heap.lt_size q) (Nat.not_lt.mpr (Nat.le_of_lt (cellN y c hc)))
theorem nat_nes (L : Nat) : L + 1 + 1 ≠ L + 1 ∧ L + 1 + 1 + 1 ≠ L + 1 ∧ L + 1 + 1 + 1 ≠ L + 1 + 1 ∧ L + 1 + 1 + 1 + 1 ≠ L + 1 ∧ L + 1 + 1 + 1 + 1 ≠ L + 1 + 1 ∧ L + 1 + 1 + 1 + 1 ≠ L + 1 + 1 + 1 := by omega
theorem law_spec {w : World} {mg mb : Str → Option Value} {dr : Dn} {os : OsState} {A : Around} {s : Shared} {R : Result → Shared → Prop} (C : Cs dr os A 50 s) (W : Wd w mg mb s.heap) (hfr : A.frames = some []) {sl : Addr} {vs : List Value} {ns : List Int} (hsl : s.heap.IsList sl vs.toArray)
    (hi : All2 (fun v k => IsI k v) vs ns) (hlen : ns.length ≤ 1000) (h : ∀ s', Pur s s' → R (.ok (.ret (.bool true))) s') : codeAny (model Prg w) A (.call (.ref 108) ⟨[.ref sl], []⟩) R s := by
  refine enterC (fd := fdAt w 108) C (W.X 108 _ rfl) (by kernel_rfl) (codeRec_of W.X (by kernel_rfl)) W.lim (body := lw w) (by kernel_rfl) (binds := [("script", .ref sl)]) (by kernel_rfl) rfl (by kernel_rfl) rfl rfl rfl rfl rfl ?_
  intro L b s₁ Γ e2 e3 e4 e5 e6 e7 e8 O hL S hc hn
  have W' : Wd w mg mb Γ.g := e5 ▸ W.hide
  have hslb : b.IsList sl vs.toArray := by
    have n := isl57 C.tab hsl
    obtain ⟨o, e, r⟩ := hsl
    exact ⟨o, S.gr _ _ (e5 ▸ gget e n), r⟩
  subst e2 e6 e7
  have hfr' : Γ.A.frames = some [Γ.env] := by rw [e8, e3]; exact Around.frames_deeper hfr
  have hF : Γ.env.frame = some Γ.L := by rw [e3, e4]; rfl
  have hd1 : Γ.A.depth + 60 < recursionLimit := by rw [e8]; have := C.depth; show A.depth + 1 + 60 < _; omega
  have hu1 : Γ.A.units + 300 < cLine := by rw [e8]; have := C.units; show A.units + 3 + 300 < _; omega
  have hm1 : bindL (envF Γ.w 108 L).kindOf [("script", .ref sl)] (fun _ => none) "script" = some (.ref sl) := by kernel_rfl
  obtain ⟨o1, h1, d1⟩ : ∃ o, b.get? (L + 1) = .some o ∧ o.data = .cell .none := hc "texts" (L + 1) (by kernel_rfl)
  obtain ⟨o2, h2, d2⟩ : ∃ o, b.get? (L + 1 + 1) = .some o ∧ o.data = .cell .none := hc "items" (L + 1 + 1) (by kernel_rfl)
  obtain ⟨o3, h3, d3⟩ : ∃ o, b.get? (L + 1 + 1 + 1) = .some o ∧ o.data = .cell .none := hc "pattern" (L + 1 + 1 + 1) (by kernel_rfl)
  obtain ⟨o4, h4, d4⟩ : ∃ o, b.get? (L + 1 + 1 + 1 + 1) = .some o ∧ o.data = .cell .none := hc "which" (L + 1 + 1 + 1 + 1) (by kernel_rfl)
  have g1 : Γ.g.get? (L + 1) = none := by rw [e5]; exact hide_sub (hn "texts" _ (by kernel_rfl))
  have g2 : Γ.g.get? (L + 1 + 1) = none := by rw [e5]; exact hide_sub (hn "items" _ (by kernel_rfl))
  have g3 : Γ.g.get? (L + 1 + 1 + 1) = none := by rw [e5]; exact hide_sub (hn "pattern" _ (by kernel_rfl))
  have g4 : Γ.g.get? (L + 1 + 1 + 1 + 1) = none := by rw [e5]; exact hide_sub (hn "which" _ (by kernel_rfl))
  have slN : sl ≠ L + 1 ∧ sl ≠ L + 1 + 1 ∧ sl ≠ L + 1 + 1 + 1 ∧ sl ≠ L + 1 + 1 + 1 + 1 := by
    have hlt : sl < L := by
      obtain ⟨o, e, _⟩ := hsl
      rw [hL]; exact Heap.lt_size e
    have hlt : (sl : Nat) < (L : Nat) := hlt
    refine ⟨Nat.ne_of_lt ?_, Nat.ne_of_lt ?_, Nat.ne_of_lt ?_, Nat.ne_of_lt ?_⟩
    · exact Nat.lt_succ_of_lt hlt
    · exact Nat.lt_succ_of_lt (Nat.lt_succ_of_lt hlt)
    · exact Nat.lt_succ_of_lt (Nat.lt_succ_of_lt (Nat.lt_succ_of_lt hlt))
    · exact Nat.lt_succ_of_lt (Nat.lt_succ_of_lt (Nat.lt_succ_of_lt (Nat.lt_succ_of_lt hlt)))
  generalize bindL (envF Γ.w 108 L).kindOf [("script", .ref sl)] (fun _ => none) = m at S hm1
  obtain ⟨q1, q2, q3, q4, q5, q6⟩ := nat_nes L
  have S1 := St.own S h1 g1
  have S2 := St.own S1 (hideAll_get _ h2 fun q => q1 (List.mem_singleton.mp q)) g2
  have S3 := St.own S2 (hideAll_get _ (hideAll_get _ h3 fun q => q2 (List.mem_singleton.mp q)) fun q => q3 (List.mem_singleton.mp q)) g3
  have S4 := St.own S3 (hideAll_get _ (hideAll_get _ (hideAll_get _ h4 fun q => q4 (List.mem_singleton.mp q)) fun q => q5 (List.mem_singleton.mp q)) fun q => q6 (List.mem_singleton.mp q)) g4
  have hslb' := let ⟨o, e, r⟩ := hslb; (⟨o, hideAll_get _ (hideAll_get _ (hideAll_get _ (hideAll_get _ e fun q => slN.1 (List.mem_singleton.mp q)) fun q => slN.2.1 (List.mem_singleton.mp q)) fun q => slN.2.2.1 (List.mem_singleton.mp q)) fun q => slN.2.2.2 (List.mem_singleton.mp q), r⟩ : (hideAll (hideAll (hideAll (hideAll b [L + 1]) [L + 1 + 1]) [L + 1 + 1 + 1]) [L + 1 + 1 + 1 + 1]).IsList sl vs.toArray)
  have hgb := S4.gr
  generalize hideAll (hideAll (hideAll (hideAll b [L + 1]) [L + 1 + 1]) [L + 1 + 1 + 1]) [L + 1 + 1 + 1 + 1] = b4 at S4 hslb' hgb
  have S4 : Γ.S b4 m ([(L + 4, o4), (L + 3, o3), (L + 2, o2)] ++ (L + 1, o1) :: []) s₁ := S4
  refine Xs.go S4 ?_
  refine lawA O W' e3 hd1 hu1 hm1 hslb' hi hlen hgb (fun p hp => ?_) d1 fun b5 m5 oT' vT lD lvs dD v1 v2 lb dT' hl hlD hlv hdr hdD hd1' hd2' => ?_
  · simp only [List.append_nil, List.mem_cons, List.not_mem_nil, or_false] at hp
    rcases hp with rfl | rfl | rfl
    · exact ⟨_, d4⟩
    · exact ⟨_, d3⟩
    · exact ⟨_, d2⟩
  · refine lawB O W' e3 hd1 hu1 hfr' hF (hgb.trans lb) hl hlD hlv hdr hdD hd1' hd2' ⟨_, d4⟩ ⟨_, d3⟩ ⟨_, d2⟩ fun b' m' own' s' T => ?_
    have T' : St Γ.g b' Γ.L m' own' Γ.dr Γ.os s' := T
    rw [e5] at T'
    exact h s' (St.leave T' C.dr C.os)
end Mine
end

section
open PySem PySem.W PySem.Calls PySem.Spec PyProof.Rows
set_option linter.unusedVariables false
namespace Mine
set_option maxRecDepth 100000
theorem all2_ints {vs : List Value} {ns : List Int} (h : IntsAre vs ns) : All2 (fun v k => IsI k v) vs ns := by
  induction h with
  | nil => exact .nil
  | cons k t _ ih => exact .cons ⟨t, rfl⟩ ih
theorem law_end {w : World} {c : ClaimW} {cl : Str → Option Addr} {mean : ExcName → Option Value} {args : List WData} {s₁ s' : Shared} (P : Pur s₁ s') (X : (KK w).In s₁.heap) (T : s₁.heap.get? 57 = some (tabObj #[])) (hg : s₁.gens = #[])
    (hr : ∀ cls, c.raises args cls = false) (hp : c.post args (.bool true) args = true) : GoodWG c cl mean args s₁ (.ok (.ret (.bool true))) s' := by
  obtain ⟨ps, e, _⟩ := P.tab ⟨#[], T, trivial⟩
  have ht : s₁.heap.TableAt 61 57 #[] := ⟨⟨_, _, X 61 _ rfl, rfl, rfl, rfl⟩, T⟩
  have ht' : s'.heap.TableAt 61 57 (#[] ++ ps) := ⟨let ⟨o, vs, a, b⟩ := ht.1; ⟨o, vs, P.keep _ _ (by decide) a, b⟩, by rw [e, Array.empty_append]⟩
  exact ⟨.inl ⟨_, _, [], rfl, hr, ReadsW.bool true, hp, fun _ => ⟨List.nodup_nil, fun _ hm => (nomatch hm)⟩⟩, OldK.step_table (OldK.refl _) ht ht ht' (fun b o n e => P.keep b o n e) (by decide), P.os, (P.bare 0 ⟨.of_eq hg, Nat.zero_le _⟩).1⟩
theorem law_top {w : World} {c : ClaimW} {cl : Str → Option Addr} {mean : ExcName → Option Value} {args : List WData} {s₁ : Shared} {mg mb : Str → Option Value} {p : Program} {loose : List Str} {mean' : ExcName → Option Value} (T : Top p loose mean' mg mb s₁.heap) (X : (KK w).In s₁.heap) (T57 : s₁.heap.get? 57 = some (tabObj #[])) (hg : s₁.gens = #[])
    {sl : Addr} {vs : List Value} {ns : List Int} (hsl : s₁.heap.IsList sl vs.toArray) (hi : IntsAre vs ns) (hlen : ns.length ≤ 1000) {fa : Addr} (hmg : mg "law" = some (.ref fa)) (hr : ∀ cls, c.raises args cls = false) (hp : c.post args (.bool true) args = true) :
    wpAny (model Prg w) callerA (call (.ref fa) [.ref sl]) (fun v s' => GoodWG c cl mean args s₁ (.ok (.ret v)) s') (fun e s' => GoodWG c cl mean args s₁ (.error e) s') s₁ := by
  have W : Wd w mg mb s₁.heap := by
    refine ⟨X, T.g, T.b, T.nolimit, T.builtins, ?_⟩
    obtain ⟨bm, ob, b1, b2, b3, b4, b5, b6⟩ := T.bmain
    refine ⟨bm, ob, b1, b2, fun q => ?_, fun q => ?_, b3, b4, b5, b6⟩
    · obtain ⟨o, es, ep, e, hd, _⟩ := T.g
      rw [q, e] at b3; cases b3; rw [hd] at b6; cases b6
    · rw [q, T57] at b3; cases b3; cases b4
  have h108 : mg "law" = some (.ref 108) := W.mg (by kernel_rfl)
  rw [h108] at hmg
  cases hmg
  refine enter_call (law_spec (dr := (s₁.drawn, s₁.gens.size)) (os := s₁.os) ⟨⟨#[], T57, trivial⟩, .of_eq hg, ⟨rfl, rfl⟩, rfl, rfl, by decide, by decide +kernel⟩ W rfl hsl (all2_ints hi) hlen fun s' P => law_end P X T57 hg hr hp)
end Mine
end

open PySem PySem.W PySem.Calls PySem.Spec PyProof.Rows
set_option linter.unusedVariables false
set_option maxRecDepth 100000 in
set_option maxHeartbeats 8000000 in
theorem PySem.Challenge.cw_in0178_01_holds : PySem.Challenge.rw_in0178_01.Holds := by
  w_on
  refine Mine.said fun hsaid => ?_
  refine holds_open (q := Mine.view) (loose := Mine.looseL) (Xt := Mine.XtL) (XP := XL Mine.view []) (Yf := Hook.obs Mine.HK) (Ya := Hook.val Mine.HK) (YP := Hook.says Mine.HK) (N := 3540) Mine.leftAll (Hook.of Mine.HK) (Hook.keeps Mine.HK) (fun s e => xl_of s (Bool.and_eq_true_iff.mp e).1) XL.keeps (by rfl) (by rfl) (by rfl) (fun s e => recFacts_of (Bool.and_eq_true_iff.mp e).2) (by rfl) (by first | assumption | decide +kernel) (by decide +kernel) ⟨rfl, rfl, rfl, rfl, rfl, by decide +kernel⟩ ?hw ?hc
  case hw => w_witness2
  case hc =>
    intro w s₀ s₁ mg mb G Y fa o pm cd doc dV kV ho hd hcd hD hmg hg args vals as hpre hlay hrd hwl hlo
    have KX := km_in_of Y
    have KT := km_tabs_of Y 57 (.head _)
    clear hD hcd ho hd Y
    wrow_args hpre hlay hrd hwl hlo
    exact Mine.law_top G.T KX KT hg (by assumption) (by assumption) (by omega) hmg (fun _ => rfl) (by wrow_post)
