import PyProof.Rows.All
import Wide.All
import OpenK.AllK
import Wide.FinOn
import PyProof.IsiBase
import PyProof.CallType
import PySem.Challenge.RW_ij0090_01
open PySem PySem.W PyProof.Rows
set_option Elab.async false
set_option linter.all false
set_option linter.unusedVariables false
set_option genSizeOf false
set_option genInjectivity false
local macro_rules | `(tactic| omega) => `(tactic| lia)

section
set_option Elab.async false
namespace Mine
set_option maxRecDepth 100000
set_option maxHeartbeats 8000000
noncomputable def parN (i : Nat) : Arguments := match PySem.Challenge.pw_ij0090_01.main.body[i]? with
  | some (.FunctionDef _ a _ _ _ _ _ _ _ _) => a
  | _ => ⟨[], [], none, [], [], none, []⟩
noncomputable def bodN (i : Nat) : FuncBody := match PySem.Challenge.pw_ij0090_01.main.body[i]? with
  | some (.FunctionDef _ _ b _ _ _ _ _ _ _) => .stmts b
  | _ => .stmts []
noncomputable def scoN (i : Nat) : Scope := match PySem.Challenge.pw_ij0090_01.main.body[i]? with
  | some (.FunctionDef _ _ _ _ _ _ s _ _ _) => s
  | _ => { kind := .module, names := [], isGenerator := false, isCoroutine := false }
noncomputable def hd.heap_39 : Params → Frag := fun P => [
  (3, { cls := Value.type "dict", data := Data.dict #[{ hash := PyData.keyHash P (Str.ofString "__name__"), key := Value.str (Str.ofString "__name__") 165, val := Value.str (Str.ofString "law_ij0090_01") 533 }, { hash := PyData.keyHash P (Str.ofString "__doc__"), key := Value.str (Str.ofString "__doc__") 166, val := Value.none }, { hash := PyData.keyHash P (Str.ofString "__package__"), key := Value.str (Str.ofString "__package__") 167, val := Value.none }, { hash := PyData.keyHash P (Str.ofString "__loader__"), key := Value.str (Str.ofString "__loader__") 168, val := Value.builtin "__main__.__loader__#opaque" }, { hash := PyData.keyHash P (Str.ofString "__spec__"), key := Value.str (Str.ofString "__spec__") 169, val := Value.none }, { hash := PyData.keyHash P (Str.ofString "__annotations__"), key := Value.str (Str.ofString "__annotations__") 170, val := Value.ref 6 }, { hash := PyData.keyHash P (Str.ofString "__builtins__"), key := Value.str (Str.ofString "__builtins__") 171, val := Value.ref 4 }, { hash := PyData.keyHash P (Str.ofString "__file__"), key := Value.str (Str.ofString "__file__") 173, val := Value.str (Str.ofString "/claim/cut.py") 172 }, { hash := PyData.keyHash P (Str.ofString "__cached__"), key := Value.str (Str.ofString "__cached__") 174, val := Value.none }, { hash := PyData.keyHash P (Str.ofString "_sre"), key := Value.str (Str.ofString "_sre") 275, val := Value.ref 12 }, { hash := PyData.keyHash P (Str.ofString "_split_list"), key := Value.str (Str.ofString "_split_list") 294, val := Value.ref 38 }, { hash := PyData.keyHash P (Str.ofString "_twin_re_1"), key := Value.str (Str.ofString "_twin_re_1") 334, val := Value.ref 43 }, { hash := PyData.keyHash P (Str.ofString "translate"), key := Value.str (Str.ofString "translate") 343, val := Value.ref 50 }, { hash := PyData.keyHash P (Str.ofString "_special_chars_map"), key := Value.str (Str.ofString "_special_chars_map") 491, val := Value.ref 52 }, { hash := PyData.keyHash P (Str.ofString "escape"), key := Value.str (Str.ofString "escape") 498, val := Value.ref 62 }, { hash := PyData.keyHash P (Str.ofString "_translate"), key := Value.str (Str.ofString "_translate") 519, val := Value.ref 69 }, { hash := PyData.keyHash P (Str.ofString "_join_translated_parts"), key := Value.str (Str.ofString "_join_translated_parts") 532, val := Value.ref 76 }, { hash := PyData.keyHash P (Str.ofString "_law_bracket"), key := Value.str (Str.ofString "_law_bracket") 540, val := Value.ref 81 }, { hash := PyData.keyHash P (Str.ofString "_law_set"), key := Value.str (Str.ofString "_law_set") 554, val := Value.ref 88 }, { hash := PyData.keyHash P (Str.ofString "law"), key := Value.str (Str.ofString "law") 560, val := Value.ref 93 }] 20 }),
  (6, { cls := Value.type "dict", data := Data.dict #[] }),
  (11, { cls := Value.type "dict", data := Data.dict #[{ hash := PyData.keyHash P (Str.ofString "__name__"), key := Value.str (Str.ofString "__name__") 247, val := Value.str (Str.ofString "_sre") 246 }, { hash := PyData.keyHash P (Str.ofString "__doc__"), key := Value.str (Str.ofString "__doc__") 248, val := Value.none }, { hash := PyData.keyHash P (Str.ofString "__package__"), key := Value.str (Str.ofString "__package__") 250, val := Value.str (Str.ofString "") 249 }, { hash := PyData.keyHash P (Str.ofString "__loader__"), key := Value.str (Str.ofString "__loader__") 251, val := Value.builtin "off-the-table:_sre.__loader__:shared#opaque" }, { hash := PyData.keyHash P (Str.ofString "__spec__"), key := Value.str (Str.ofString "__spec__") 252, val := Value.builtin "off-the-table:_sre.__spec__:shared#opaque" }, { hash := PyData.keyHash P (Str.ofString "compile"), key := Value.str (Str.ofString "compile") 253, val := Value.builtin "_sre.compile" }, { hash := PyData.keyHash P (Str.ofString "template"), key := Value.str (Str.ofString "template") 254, val := Value.builtin "off-the-table:_sre.template:shared#opaque" }, { hash := PyData.keyHash P (Str.ofString "getcodesize"), key := Value.str (Str.ofString "getcodesize") 255, val := Value.builtin "off-the-table:_sre.getcodesize:shared#opaque" }, { hash := PyData.keyHash P (Str.ofString "ascii_iscased"), key := Value.str (Str.ofString "ascii_iscased") 256, val := Value.builtin "off-the-table:_sre.ascii_iscased:shared#opaque" }, { hash := PyData.keyHash P (Str.ofString "unicode_iscased"), key := Value.str (Str.ofString "unicode_iscased") 257, val := Value.builtin "off-the-table:_sre.unicode_iscased:shared#opaque" }, { hash := PyData.keyHash P (Str.ofString "ascii_tolower"), key := Value.str (Str.ofString "ascii_tolower") 258, val := Value.builtin "off-the-table:_sre.ascii_tolower:shared#opaque" }, { hash := PyData.keyHash P (Str.ofString "unicode_tolower"), key := Value.str (Str.ofString "unicode_tolower") 259, val := Value.builtin "off-the-table:_sre.unicode_tolower:shared#opaque" }, { hash := PyData.keyHash P (Str.ofString "MAGIC"), key := Value.str (Str.ofString "MAGIC") 261, val := Value.int 20230612 260 }, { hash := PyData.keyHash P (Str.ofString "CODESIZE"), key := Value.str (Str.ofString "CODESIZE") 263, val := Value.int 4 262 }, { hash := PyData.keyHash P (Str.ofString "MAXREPEAT"), key := Value.str (Str.ofString "MAXREPEAT") 265, val := Value.int 4294967295 264 }, { hash := PyData.keyHash P (Str.ofString "MAXGROUPS"), key := Value.str (Str.ofString "MAXGROUPS") 267, val := Value.int 1073741823 266 }, { hash := PyData.keyHash P (Str.ofString "copyright"), key := Value.str (Str.ofString "copyright") 269, val := Value.str (Str.ofString " SRE 2.2.2 Copyright (c) 1997-2002 by Secret Labs AB ") 268 }] 17 }),
  (12, { cls := Value.type "module", dict := some 11 }),
  (32, { cls := Value.type "tuple", data := Data.seq #[] }),
  (34, { cls := Value.type "tuple", data := Data.seq #[Value.str (Str.ofString "s") 287, Value.str (Str.ofString "predicate") 288, Value.str (Str.ofString "yes") 289, Value.str (Str.ofString "no") 290, Value.str (Str.ofString "x") 291] }),
  (35, { cls := Value.type "tuple", data := Data.seq #[] }),
  (37, { cls := Value.type "code", data := Data.fields #[Value.str (Str.ofString "_split_list") 284, Value.str (Str.ofString "_split_list") 285, Value.str (Str.ofString "/claim/cut.py") 286, Value.int 3 0, Value.int 2 0, Value.int 0 0, Value.int 0 0, Value.int 3 0, Value.ref 32, Value.bool true, Value.int 276 0, Value.ref 33, Value.none, Value.ref 34, Value.ref 35, Value.ref 36, Value.int 292 0, Value.int 3 0, Value.str (Str.ofString "/claim/cut.py") 293] }),
  (38, { cls := Value.type "function", data := Data.func { name := Str.ofString "_split_list", qualname := Str.ofString "_split_list", params := parN 2, body := bodN 2, scope := scoN 2, globals := 3, closure := [], defaults := Value.none, kwdefaults := Value.none, pyModule := Value.str (Str.ofString "cpy313.pydoc") 282, code := Value.ref 37 } }),
  (42, { cls := Value.type "tuple", data := Data.seq #[Value.int 14 0, Value.int 14 0, Value.int 4 0, Value.int 1 0, Value.int 1 0, Value.int 9 0, Value.int 0 0, Value.int 64 0, Value.int 0 0, Value.int 1342177280 0, Value.int 0 0, Value.int 0 0, Value.int 0 0, Value.int 0 0, Value.int 0 0, Value.int 17 0, Value.int 0 0, Value.int 13 0, Value.int 11 0, Value.int 9 0, Value.int 0 0, Value.int 64 0, Value.int 0 0, Value.int 1342177280 0, Value.int 0 0, Value.int 0 0, Value.int 0 0, Value.int 0 0, Value.int 0 0, Value.int 17 0, Value.int 1 0, Value.int 1 0] }),
  (43, { cls := Value.type "re.Pattern", data := Data.fields #[Value.str (Str.ofString "([&~|])") 298, Value.int 32 333, Value.int 1 0, Value.none, Value.none, Value.ref 42, Value.int 0 0] }),
  (44, { cls := Value.type "tuple", data := Data.seq #[] }),
  (46, { cls := Value.type "tuple", data := Data.seq #[Value.str (Str.ofString "pat") 338, Value.str (Str.ofString "STAR") 339, Value.str (Str.ofString "parts") 340] }),
  (47, { cls := Value.type "tuple", data := Data.seq #[] }),
  (49, { cls := Value.type "code", data := Data.fields #[Value.str (Str.ofString "translate") 335, Value.str (Str.ofString "translate") 336, Value.str (Str.ofString "/claim/cut.py") 337, Value.int 14 0, Value.int 1 0, Value.int 0 0, Value.int 0 0, Value.int 3 0, Value.ref 44, Value.bool true, Value.int 276 0, Value.ref 45, Value.none, Value.ref 46, Value.ref 47, Value.ref 48, Value.int 341 0, Value.int 14 0, Value.str (Str.ofString "/claim/cut.py") 342] }),
  (50, { cls := Value.type "function", data := Data.func { name := Str.ofString "translate", qualname := Str.ofString "translate", params := parN 5, body := bodN 5, scope := scoN 5, globals := 3, closure := [], defaults := Value.none, kwdefaults := Value.none, pyModule := Value.str (Str.ofString "cpy313.fnmatch") 295, code := Value.ref 49 } }),
  (52, { cls := Value.type "dict", data := Data.dict #[{ hash := 40, key := Value.int 40 347, val := Value.str (Str.ofString "\\(") 351 }, { hash := 41, key := Value.int 41 353, val := Value.str (Str.ofString "\\)") 357 }, { hash := 91, key := Value.int 91 359, val := Value.str (Str.ofString "\\[") 363 }, { hash := 93, key := Value.int 93 365, val := Value.str (Str.ofString "\\]") 369 }, { hash := 123, key := Value.int 123 371, val := Value.str (Str.ofString "\\{") 375 }, { hash := 125, key := Value.int 125 377, val := Value.str (Str.ofString "\\}") 381 }, { hash := 63, key := Value.int 63 383, val := Value.str (Str.ofString "\\?") 387 }, { hash := 42, key := Value.int 42 389, val := Value.str (Str.ofString "\\*") 393 }, { hash := 43, key := Value.int 43 395, val := Value.str (Str.ofString "\\+") 399 }, { hash := 45, key := Value.int 45 401, val := Value.str (Str.ofString "\\-") 405 }, { hash := 124, key := Value.int 124 407, val := Value.str (Str.ofString "\\|") 411 }, { hash := 94, key := Value.int 94 413, val := Value.str (Str.ofString "\\^") 417 }, { hash := 36, key := Value.int 36 419, val := Value.str (Str.ofString "\\$") 423 }, { hash := 92, key := Value.int 92 425, val := Value.str (Str.ofString "\\\\") 429 }, { hash := 46, key := Value.int 46 431, val := Value.str (Str.ofString "\\.") 435 }, { hash := 38, key := Value.int 38 437, val := Value.str (Str.ofString "\\&") 441 }, { hash := 126, key := Value.int 126 443, val := Value.str (Str.ofString "\\~") 447 }, { hash := 35, key := Value.int 35 449, val := Value.str (Str.ofString "\\#") 453 }, { hash := 32, key := Value.int 32 455, val := Value.str (Str.ofString "\\ ") 459 }, { hash := 9, key := Value.int 9 461, val := Value.str (Str.ofString "\\\t") 465 }, { hash := 10, key := Value.int 10 467, val := Value.str (Str.ofString "\\\n") 471 }, { hash := 13, key := Value.int 13 473, val := Value.str (Str.ofString "\\\x0d") 477 }, { hash := 11, key := Value.int 11 479, val := Value.str (Str.ofString "\\\x0b") 483 }, { hash := 12, key := Value.int 12 485, val := Value.str (Str.ofString "\\\x0c") 489 }] 24 }),
  (56, { cls := Value.type "tuple", data := Data.seq #[] }),
  (58, { cls := Value.type "tuple", data := Data.seq #[Value.str (Str.ofString "pattern") 495] }),
  (59, { cls := Value.type "tuple", data := Data.seq #[] }),
  (61, { cls := Value.type "code", data := Data.fields #[Value.str (Str.ofString "escape") 492, Value.str (Str.ofString "escape") 493, Value.str (Str.ofString "/claim/cut.py") 494, Value.int 20 0, Value.int 1 0, Value.int 0 0, Value.int 0 0, Value.int 3 0, Value.ref 56, Value.bool true, Value.int 276 0, Value.ref 57, Value.none, Value.ref 58, Value.ref 59, Value.ref 60, Value.int 496 0, Value.int 20 0, Value.str (Str.ofString "/claim/cut.py") 497] }),
  (62, { cls := Value.type "function", data := Data.func { name := Str.ofString "escape", qualname := Str.ofString "escape", params := parN 8, body := bodN 8, scope := scoN 8, globals := 3, closure := [], defaults := Value.none, kwdefaults := Value.none, pyModule := Value.str (Str.ofString "re") 344, code := Value.ref 61 } }),
  (63, { cls := Value.type "tuple", data := Data.seq #[] }),
  (65, { cls := Value.type "tuple", data := Data.seq #[Value.str (Str.ofString "pat") 504, Value.str (Str.ofString "STAR") 505, Value.str (Str.ofString "QUESTION_MARK") 506, Value.str (Str.ofString "res") 507, Value.str (Str.ofString "add") 508, Value.str (Str.ofString "i") 509, Value.str (Str.ofString "n") 510, Value.str (Str.ofString "c") 511, Value.str (Str.ofString "j") 512, Value.str (Str.ofString "stuff") 513, Value.str (Str.ofString "chunks") 514, Value.str (Str.ofString "k") 515, Value.str (Str.ofString "chunk") 516] }),
  (66, { cls := Value.type "tuple", data := Data.seq #[] }),
  (68, { cls := Value.type "code", data := Data.fields #[Value.str (Str.ofString "_translate") 501, Value.str (Str.ofString "_translate") 502, Value.str (Str.ofString "/claim/cut.py") 503, Value.int 27 0, Value.int 3 0, Value.int 0 0, Value.int 0 0, Value.int 3 0, Value.ref 63, Value.bool true, Value.int 276 0, Value.ref 64, Value.none, Value.ref 65, Value.ref 66, Value.ref 67, Value.int 517 0, Value.int 27 0, Value.str (Str.ofString "/claim/cut.py") 518] }),
  (69, { cls := Value.type "function", data := Data.func { name := Str.ofString "_translate", qualname := Str.ofString "_translate", params := parN 10, body := bodN 10, scope := scoN 10, globals := 3, closure := [], defaults := Value.none, kwdefaults := Value.none, pyModule := Value.str (Str.ofString "cpy313.fnmatch") 499, code := Value.ref 68 } }),
  (70, { cls := Value.type "tuple", data := Data.seq #[] }),
  (72, { cls := Value.type "tuple", data := Data.seq #[Value.str (Str.ofString "inp") 523, Value.str (Str.ofString "STAR") 524, Value.str (Str.ofString "res") 525, Value.str (Str.ofString "add") 526, Value.str (Str.ofString "i") 527, Value.str (Str.ofString "n") 528, Value.str (Str.ofString "fixed") 529] }),
  (73, { cls := Value.type "tuple", data := Data.seq #[] }),
  (75, { cls := Value.type "code", data := Data.fields #[Value.str (Str.ofString "_join_translated_parts") 520, Value.str (Str.ofString "_join_translated_parts") 521, Value.str (Str.ofString "/claim/cut.py") 522, Value.int 89 0, Value.int 2 0, Value.int 0 0, Value.int 0 0, Value.int 3 0, Value.ref 70, Value.bool true, Value.int 276 0, Value.ref 71, Value.none, Value.ref 72, Value.ref 73, Value.ref 74, Value.int 530 0, Value.int 89 0, Value.str (Str.ofString "/claim/cut.py") 531] }),
  (76, { cls := Value.type "function", data := Data.func { name := Str.ofString "_join_translated_parts", qualname := Str.ofString "_join_translated_parts", params := parN 11, body := bodN 11, scope := scoN 11, globals := 3, closure := [], defaults := Value.none, kwdefaults := Value.none, pyModule := Value.str (Str.ofString "cpy313.fnmatch") 499, code := Value.ref 75 } }),
  (77, { cls := Value.type "tuple", data := Data.seq #[] }),
  (80, { cls := Value.type "code", data := Data.fields #[Value.str (Str.ofString "_law_bracket") 535, Value.str (Str.ofString "_law_bracket") 536, Value.str (Str.ofString "/claim/cut.py") 537, Value.int 117 0, Value.int 3 0, Value.int 0 0, Value.int 0 0, Value.int 3 0, Value.ref 77, Value.bool true, Value.int 276 0, Value.ref 78, Value.none, Value.none, Value.none, Value.ref 79, Value.int 538 0, Value.int 117 0, Value.str (Str.ofString "/claim/cut.py") 539] }),
  (81, { cls := Value.type "function", data := Data.func { name := Str.ofString "_law_bracket", qualname := Str.ofString "_law_bracket", params := parN 13, body := bodN 13, scope := scoN 13, globals := 3, closure := [], defaults := Value.none, kwdefaults := Value.none, pyModule := Value.str (Str.ofString "law_ij0090_01") 533, code := Value.ref 80 } }),
  (82, { cls := Value.type "tuple", data := Data.seq #[] }),
  (84, { cls := Value.type "tuple", data := Data.seq #[Value.str (Str.ofString "text") 544, Value.str (Str.ofString "k") 545, Value.str (Str.ofString "turned") 546, Value.str (Str.ofString "signs") 547, Value.str (Str.ofString "slash") 548, Value.str (Str.ofString "ranges") 549, Value.str (Str.ofString "at") 550, Value.str (Str.ofString "wide") 551] }),
  (85, { cls := Value.type "tuple", data := Data.seq #[] }),
  (87, { cls := Value.type "code", data := Data.fields #[Value.str (Str.ofString "_law_set") 541, Value.str (Str.ofString "_law_set") 542, Value.str (Str.ofString "/claim/cut.py") 543, Value.int 123 0, Value.int 2 0, Value.int 0 0, Value.int 0 0, Value.int 3 0, Value.ref 82, Value.bool true, Value.int 276 0, Value.ref 83, Value.none, Value.ref 84, Value.ref 85, Value.ref 86, Value.int 552 0, Value.int 123 0, Value.str (Str.ofString "/claim/cut.py") 553] }),
  (88, { cls := Value.type "function", data := Data.func { name := Str.ofString "_law_set", qualname := Str.ofString "_law_set", params := parN 14, body := bodN 14, scope := scoN 14, globals := 3, closure := [], defaults := Value.none, kwdefaults := Value.none, pyModule := Value.str (Str.ofString "law_ij0090_01") 533, code := Value.ref 87 } }),
  (89, { cls := Value.type "tuple", data := Data.seq #[] }),
  (92, { cls := Value.type "code", data := Data.fields #[Value.str (Str.ofString "law") 555, Value.str (Str.ofString "law") 556, Value.str (Str.ofString "/claim/cut.py") 557, Value.int 138 0, Value.int 1 0, Value.int 0 0, Value.int 0 0, Value.int 3 0, Value.ref 89, Value.bool true, Value.int 276 0, Value.ref 90, Value.none, Value.none, Value.none, Value.ref 91, Value.int 558 0, Value.int 138 0, Value.str (Str.ofString "/claim/cut.py") 559] }),
  (93, { cls := Value.type "function", data := Data.func { name := Str.ofString "law", qualname := Str.ofString "law", params := parN 15, body := bodN 15, scope := scoN 15, globals := 3, closure := [], defaults := Value.none, kwdefaults := Value.none, pyModule := Value.str (Str.ofString "law_ij0090_01") 533, code := Value.ref 92 } })]
noncomputable abbrev headAs : List Addr := [3, 6, 11, 12, 32, 34, 35, 37, 38, 42, 43, 44, 46, 47, 49, 50, 52, 56, 58, 59, 61, 62, 63, 65, 66, 68, 69, 70, 72, 73, 75, 76, 77, 80, 81, 82, 84, 85, 87, 88, 89, 92, 93]
theorem headAs_eq : ∀ P, headAs = (hd.heap_39 P).map (·.1) := fun _ => by kernel_rfl
noncomputable def headQ : Program := view PySem.Challenge.pw_ij0090_01 [0, 2, 4, 5, 7, 8, 10, 11, 13, 14, 15]
noncomputable abbrev headLoose : List Str := [Str.ofString "_twin_re_1", Str.ofString "_special_chars_map"]
noncomputable abbrev headHook : Hook := kmHook hd.heap_39 headAs headAs_eq [64, 90]
noncomputable def ob0 : Params → Obj := fun P => { cls := Value.type "dict", data := Data.dict #[{ hash := PyData.keyHash P (Str.ofString "builtins"), key := Value.str (Str.ofString "builtins") 162, val := Value.ref 4 }, { hash := PyData.keyHash P (Str.ofString "__main__"), key := Value.str (Str.ofString "__main__") 163, val := Value.ref 5 }, { hash := PyData.keyHash P (Str.ofString "_sre"), key := Value.str (Str.ofString "_sre") 244, val := Value.ref 12 }] 3 }
noncomputable def ob1 : Params → Obj := fun P => { cls := Value.none, data := Data.dict #[{ hash := PyData.keyHash P (Str.mk ⟨[105, 109, 112, 111, 114, 116, 46, 108, 111, 97, 100, 101, 100, 46, 95, 115, 114, 101]⟩), key := Value.str (Str.mk ⟨[105, 109, 112, 111, 114, 116, 46, 108, 111, 97, 100, 101, 100, 46, 95, 115, 114, 101]⟩) 183, val := Value.bool Bool.true }, { hash := PyData.keyHash P (Str.mk ⟨[99, 108, 97, 115, 115, 46, 95, 102, 114, 111, 122, 101, 110, 95, 105, 109, 112, 111, 114, 116, 108, 105, 98, 46, 66, 117, 105, 108, 116, 105, 110, 73, 109, 112, 111, 114, 116, 101, 114]⟩), key := Value.str (Str.mk ⟨[99, 108, 97, 115, 115, 46, 95, 102, 114, 111, 122, 101, 110, 95, 105, 109, 112, 111, 114, 116, 108, 105, 98, 46, 66, 117, 105, 108, 116, 105, 110, 73, 109, 112, 111, 114, 116, 101, 114]⟩) 185, val := Value.ref 14 }, { hash := PyData.keyHash P (Str.mk ⟨[119, 97, 116, 99, 104, 101, 100, 46, 105, 109, 112, 111, 114, 116]⟩), key := Value.str (Str.mk ⟨[119, 97, 116, 99, 104, 101, 100, 46, 105, 109, 112, 111, 114, 116]⟩) 206, val := Value.ref 18 }, { hash := PyData.keyHash P (Str.mk ⟨[99, 108, 97, 115, 115, 46, 95, 102, 114, 111, 122, 101, 110, 95, 105, 109, 112, 111, 114, 116, 108, 105, 98, 46, 77, 111, 100, 117, 108, 101, 83, 112, 101, 99]⟩), key := Value.str (Str.mk ⟨[99, 108, 97, 115, 115, 46, 95, 102, 114, 111, 122, 101, 110, 95, 105, 109, 112, 111, 114, 116, 108, 105, 98, 46, 77, 111, 100, 117, 108, 101, 83, 112, 101, 99]⟩) 216, val := Value.ref 22 }, { hash := PyData.keyHash P (Str.ofString "sys.modules.booked-epoch"), key := Value.str (Str.ofString "sys.modules.booked-epoch") 245, val := Value.int 3 0 }, { hash := PyData.keyHash P (Str.mk ⟨[105, 109, 112, 111, 114, 116, 46, 108, 97, 116, 101, 114, 45, 108, 97, 105, 100, 46, 95, 115, 114, 101]⟩), key := Value.str (Str.mk ⟨[105, 109, 112, 111, 114, 116, 46, 108, 97, 116, 101, 114, 45, 108, 97, 105, 100, 46, 95, 115, 114, 101]⟩) 270, val := Value.bool Bool.true }, { hash := PyData.keyHash P (Str.ofString "watched.library"), key := Value.str (Str.ofString "watched.library") 272, val := Value.ref 27 }, { hash := PyData.keyHash P (Str.ofString "watched.library-objects"), key := Value.str (Str.ofString "watched.library-objects") 0, val := Value.str (Str.ofString "\x0c") 0 }, { hash := PyData.keyHash P (Str.mk ⟨[119, 97, 116, 99, 104, 101, 100, 46, 108, 105, 98, 114, 97, 114, 121, 45, 100, 101, 101, 112, 46, 95, 115, 114, 101]⟩), key := Value.str (Str.mk ⟨[119, 97, 116, 99, 104, 101, 100, 46, 108, 105, 98, 114, 97, 114, 121, 45, 100, 101, 101, 112, 46, 95, 115, 114, 101]⟩) 273, val := Value.str (Str.ofString "\x04\x00\x00\x0b\x04\x00\x00\x0b\x04\x00\x00\x03\x04\x00\x00\x0b\x08\x04dict\x02") 0 }] 9 }
noncomputable def ob2 : Params → Obj := fun P => { cls := Value.type "dict", data := Data.dict #[{ hash := PyData.keyHash P (Str.ofString "__name__"), key := Value.str (Str.ofString "__name__") 165, val := Value.str (Str.ofString "__main__") 164 }, { hash := PyData.keyHash P (Str.ofString "__doc__"), key := Value.str (Str.ofString "__doc__") 166, val := Value.none }, { hash := PyData.keyHash P (Str.ofString "__package__"), key := Value.str (Str.ofString "__package__") 167, val := Value.none }, { hash := PyData.keyHash P (Str.ofString "__loader__"), key := Value.str (Str.ofString "__loader__") 168, val := Value.builtin "__main__.__loader__#opaque" }, { hash := PyData.keyHash P (Str.ofString "__spec__"), key := Value.str (Str.ofString "__spec__") 169, val := Value.none }, { hash := PyData.keyHash P (Str.ofString "__annotations__"), key := Value.str (Str.ofString "__annotations__") 170, val := Value.ref 6 }, { hash := PyData.keyHash P (Str.ofString "__builtins__"), key := Value.str (Str.ofString "__builtins__") 171, val := Value.ref 4 }, { hash := PyData.keyHash P (Str.ofString "__file__"), key := Value.str (Str.ofString "__file__") 173, val := Value.str (Str.ofString "/claim/cut.py") 172 }, { hash := PyData.keyHash P (Str.ofString "__cached__"), key := Value.str (Str.ofString "__cached__") 174, val := Value.none }, { hash := PyData.keyHash P (Str.ofString "_sre"), key := Value.str (Str.ofString "_sre") 275, val := Value.ref 12 }] 10 }
noncomputable def ob3 : Params → Obj := fun P => { cls := Value.type "dict", data := Data.dict #[{ hash := PyData.keyHash P (Str.ofString "__name__"), key := Value.str (Str.ofString "__name__") 247, val := Value.str (Str.ofString "_sre") 246 }, { hash := PyData.keyHash P (Str.ofString "__doc__"), key := Value.str (Str.ofString "__doc__") 248, val := Value.none }, { hash := PyData.keyHash P (Str.ofString "__package__"), key := Value.str (Str.ofString "__package__") 250, val := Value.str (Str.ofString "") 249 }, { hash := PyData.keyHash P (Str.ofString "__loader__"), key := Value.str (Str.ofString "__loader__") 251, val := Value.builtin "off-the-table:_sre.__loader__:shared#opaque" }, { hash := PyData.keyHash P (Str.ofString "__spec__"), key := Value.str (Str.ofString "__spec__") 252, val := Value.builtin "off-the-table:_sre.__spec__:shared#opaque" }, { hash := PyData.keyHash P (Str.ofString "compile"), key := Value.str (Str.ofString "compile") 253, val := Value.builtin "_sre.compile" }, { hash := PyData.keyHash P (Str.ofString "template"), key := Value.str (Str.ofString "template") 254, val := Value.builtin "off-the-table:_sre.template:shared#opaque" }, { hash := PyData.keyHash P (Str.ofString "getcodesize"), key := Value.str (Str.ofString "getcodesize") 255, val := Value.builtin "off-the-table:_sre.getcodesize:shared#opaque" }, { hash := PyData.keyHash P (Str.ofString "ascii_iscased"), key := Value.str (Str.ofString "ascii_iscased") 256, val := Value.builtin "off-the-table:_sre.ascii_iscased:shared#opaque" }, { hash := PyData.keyHash P (Str.ofString "unicode_iscased"), key := Value.str (Str.ofString "unicode_iscased") 257, val := Value.builtin "off-the-table:_sre.unicode_iscased:shared#opaque" }, { hash := PyData.keyHash P (Str.ofString "ascii_tolower"), key := Value.str (Str.ofString "ascii_tolower") 258, val := Value.builtin "off-the-table:_sre.ascii_tolower:shared#opaque" }, { hash := PyData.keyHash P (Str.ofString "unicode_tolower"), key := Value.str (Str.ofString "unicode_tolower") 259, val := Value.builtin "off-the-table:_sre.unicode_tolower:shared#opaque" }, { hash := PyData.keyHash P (Str.ofString "MAGIC"), key := Value.str (Str.ofString "MAGIC") 261, val := Value.int 20230612 260 }, { hash := PyData.keyHash P (Str.ofString "CODESIZE"), key := Value.str (Str.ofString "CODESIZE") 263, val := Value.int 4 262 }, { hash := PyData.keyHash P (Str.ofString "MAXREPEAT"), key := Value.str (Str.ofString "MAXREPEAT") 265, val := Value.int 4294967295 264 }, { hash := PyData.keyHash P (Str.ofString "MAXGROUPS"), key := Value.str (Str.ofString "MAXGROUPS") 267, val := Value.int 1073741823 266 }, { hash := PyData.keyHash P (Str.ofString "copyright"), key := Value.str (Str.ofString "copyright") 269, val := Value.str (Str.mk ⟨[32, 83, 82, 69, 32, 50, 46, 50, 46, 50, 32, 67, 111, 112, 121, 114, 105, 103, 104, 116, 32, 40, 99, 41, 32, 49, 57, 57, 55, 45, 50, 48, 48, 50, 32, 98, 121, 32, 83, 101, 99, 114, 101, 116, 32, 76, 97, 98, 115, 32, 65, 66, 32]⟩) 268 }] 17 }
noncomputable def ob4 : Params → Obj := fun _ => { cls := Value.type "module", dict := Option.some 11 }
noncomputable def ob5 : Params → Obj := fun P => { cls := Value.type "dict", data := Data.dict #[{ hash := PyData.keyHash P (Str.ofString "__module__"), key := Value.str (Str.ofString "__module__") 189, val := Value.str (Str.ofString "_frozen_importlib") 186 }, { hash := PyData.keyHash P (Str.ofString "__firstlineno__"), key := Value.str (Str.ofString "__firstlineno__") 190, val := Value.int 971 187 }, { hash := PyData.keyHash P (Str.ofString "__doc__"), key := Value.str (Str.ofString "__doc__") 191, val := Value.builtin "_frozen_importlib.BuiltinImporter.__doc__:str#opaque" }, { hash := PyData.keyHash P (Str.ofString "_ORIGIN"), key := Value.str (Str.ofString "_ORIGIN") 192, val := Value.str (Str.ofString "built-in") 188 }, { hash := PyData.keyHash P (Str.ofString "find_spec"), key := Value.str (Str.ofString "find_spec") 193, val := Value.builtin "_frozen_importlib.BuiltinImporter.find_spec#opaque" }, { hash := PyData.keyHash P (Str.ofString "create_module"), key := Value.str (Str.ofString "create_module") 194, val := Value.builtin "_frozen_importlib.BuiltinImporter.create_module#opaque" }, { hash := PyData.keyHash P (Str.ofString "exec_module"), key := Value.str (Str.ofString "exec_module") 195, val := Value.builtin "_frozen_importlib.BuiltinImporter.exec_module#opaque" }, { hash := PyData.keyHash P (Str.ofString "get_code"), key := Value.str (Str.ofString "get_code") 196, val := Value.builtin "_frozen_importlib.BuiltinImporter.get_code#opaque" }, { hash := PyData.keyHash P (Str.ofString "get_source"), key := Value.str (Str.ofString "get_source") 197, val := Value.builtin "_frozen_importlib.BuiltinImporter.get_source#opaque" }, { hash := PyData.keyHash P (Str.ofString "is_package"), key := Value.str (Str.ofString "is_package") 198, val := Value.builtin "_frozen_importlib.BuiltinImporter.is_package#opaque" }, { hash := PyData.keyHash P (Str.ofString "load_module"), key := Value.str (Str.ofString "load_module") 199, val := Value.builtin "_frozen_importlib.BuiltinImporter.load_module#opaque" }, { hash := PyData.keyHash P (Str.ofString "__static_attributes__"), key := Value.str (Str.ofString "__static_attributes__") 200, val := Value.ref 15 }, { hash := PyData.keyHash P (Str.ofString "__dict__"), key := Value.str (Str.ofString "__dict__") 202, val := Value.ref 16 }, { hash := PyData.keyHash P (Str.ofString "__weakref__"), key := Value.str (Str.ofString "__weakref__") 204, val := Value.ref 17 }] 14 }
noncomputable def ob6 : Params → Obj := fun _ => { cls := Value.type "type", data := Data.cls { name := Str.ofString "BuiltinImporter", bases := [Value.type "object"], mro := [Value.ref 14, Value.type "object"], ns := 13, qualname := Str.ofString "BuiltinImporter" } }
noncomputable def ob7 : Params → Obj := fun _ => { cls := Value.type "getset_descriptor", data := Data.fields #[Value.str (Str.ofString "__dict__") 201, Value.ref 14, Value.builtin "function.__dict__", Value.builtin "function.__dict__#set"] }
noncomputable def ob8 : Params → Obj := fun _ => { cls := Value.type "getset_descriptor", data := Data.fields #[Value.str (Str.ofString "__weakref__") 203, Value.ref 14, Value.builtin "ExceptionGroup.__weakref__", Value.none] }
noncomputable def ob9 : Params → Obj := fun _ => { cls := Value.none, data := Data.seq #[Value.int 13 0, Value.str (Str.mk ⟨[6, 189, 10, 95, 95, 109, 111, 100, 117, 108, 101, 95, 95, 6, 186, 17, 95, 102, 114, 111, 122, 101, 110, 95, 105, 109, 112, 111, 114, 116, 108, 105, 98, 6, 190, 15, 95, 95, 102, 105, 114, 115, 116, 108, 105, 110, 101, 110, 111, 95, 95, 4, 187, 0, 971, 6, 191, 7, 95, 95, 100, 111, 99, 95, 95, 9, 52, 95, 102, 114, 111, 122, 101, 110, 95, 105, 109, 112, 111, 114, 116, 108, 105, 98, 46, 66, 117, 105, 108, 116, 105, 110, 73, 109, 112, 111, 114, 116, 101, 114, 46, 95, 95, 100, 111, 99, 95, 95, 58, 115, 116, 114, 35, 111, 112, 97, 113, 117, 101, 6, 192, 7, 95, 79, 82, 73, 71, 73, 78, 6, 188, 8, 98, 117, 105, 108, 116, 45, 105, 110, 6, 193, 9, 102, 105, 110, 100, 95, 115, 112, 101, 99, 9, 50, 95, 102, 114, 111, 122, 101, 110, 95, 105, 109, 112, 111, 114, 116, 108, 105, 98, 46, 66, 117, 105, 108, 116, 105, 110, 73, 109, 112, 111, 114, 116, 101, 114, 46, 102, 105, 110, 100, 95, 115, 112, 101, 99, 35, 111, 112, 97, 113, 117, 101, 6, 194, 13, 99, 114, 101, 97, 116, 101, 95, 109, 111, 100, 117, 108, 101, 9, 54, 95, 102, 114, 111, 122, 101, 110, 95, 105, 109, 112, 111, 114, 116, 108, 105, 98, 46, 66, 117, 105, 108, 116, 105, 110, 73, 109, 112, 111, 114, 116, 101, 114, 46, 99, 114, 101, 97, 116, 101, 95, 109, 111, 100, 117, 108, 101, 35, 111, 112, 97, 113, 117, 101, 6, 195, 11, 101, 120, 101, 99, 95, 109, 111, 100, 117, 108, 101, 9, 52, 95, 102, 114, 111, 122, 101, 110, 95, 105, 109, 112, 111, 114, 116, 108, 105, 98, 46, 66, 117, 105, 108, 116, 105, 110, 73, 109, 112, 111, 114, 116, 101, 114, 46, 101, 120, 101, 99, 95, 109, 111, 100, 117, 108, 101, 35, 111, 112, 97, 113, 117, 101, 6, 196, 8, 103, 101, 116, 95, 99, 111, 100, 101, 9, 49, 95, 102, 114, 111, 122, 101, 110, 95, 105, 109, 112, 111, 114, 116, 108, 105, 98, 46, 66, 117, 105, 108, 116, 105, 110, 73, 109, 112, 111, 114, 116, 101, 114, 46, 103, 101, 116, 95, 99, 111, 100, 101, 35, 111, 112, 97, 113, 117, 101, 6, 197, 10, 103, 101, 116, 95, 115, 111, 117, 114, 99, 101, 9, 51, 95, 102, 114, 111, 122, 101, 110, 95, 105, 109, 112, 111, 114, 116, 108, 105, 98, 46, 66, 117, 105, 108, 116, 105, 110, 73, 109, 112, 111, 114, 116, 101, 114, 46, 103, 101, 116, 95, 115, 111, 117, 114, 99, 101, 35, 111, 112, 97, 113, 117, 101, 6, 198, 10, 105, 115, 95, 112, 97, 99, 107, 97, 103, 101, 9, 51, 95, 102, 114, 111, 122, 101, 110, 95, 105, 109, 112, 111, 114, 116, 108, 105, 98, 46, 66, 117, 105, 108, 116, 105, 110, 73, 109, 112, 111, 114, 116, 101, 114, 46, 105, 115, 95, 112, 97, 99, 107, 97, 103, 101, 35, 111, 112, 97, 113, 117, 101, 6, 199, 11, 108, 111, 97, 100, 95, 109, 111, 100, 117, 108, 101, 9, 52, 95, 102, 114, 111, 122, 101, 110, 95, 105, 109, 112, 111, 114, 116, 108, 105, 98, 46, 66, 117, 105, 108, 116, 105, 110, 73, 109, 112, 111, 114, 116, 101, 114, 46, 108, 111, 97, 100, 95, 109, 111, 100, 117, 108, 101, 35, 111, 112, 97, 113, 117, 101, 6, 200, 21, 95, 95, 115, 116, 97, 116, 105, 99, 95, 97, 116, 116, 114, 105, 98, 117, 116, 101, 115, 95, 95, 4, 0, 0, 15, 6, 202, 8, 95, 95, 100, 105, 99, 116, 95, 95, 4, 0, 0, 16, 6, 204, 11, 95, 95, 119, 101, 97, 107, 114, 101, 102, 95, 95, 4, 0, 0, 17]⟩) 0, Value.bool Bool.true, Value.bool Bool.true, Value.str (Str.ofString "") 205, Value.int 21 0, Value.str (Str.mk ⟨[6, 227, 10, 95, 95, 109, 111, 100, 117, 108, 101, 95, 95, 6, 217, 17, 95, 102, 114, 111, 122, 101, 110, 95, 105, 109, 112, 111, 114, 116, 108, 105, 98, 6, 228, 15, 95, 95, 102, 105, 114, 115, 116, 108, 105, 110, 101, 110, 111, 95, 95, 4, 218, 0, 562, 6, 229, 7, 95, 95, 100, 111, 99, 95, 95, 9, 47, 95, 102, 114, 111, 122, 101, 110, 95, 105, 109, 112, 111, 114, 116, 108, 105, 98, 46, 77, 111, 100, 117, 108, 101, 83, 112, 101, 99, 46, 95, 95, 100, 111, 99, 95, 95, 58, 115, 116, 114, 35, 111, 112, 97, 113, 117, 101, 6, 230, 8, 95, 95, 105, 110, 105, 116, 95, 95, 9, 44, 95, 102, 114, 111, 122, 101, 110, 95, 105, 109, 112, 111, 114, 116, 108, 105, 98, 46, 77, 111, 100, 117, 108, 101, 83, 112, 101, 99, 46, 95, 95, 105, 110, 105, 116, 95, 95, 35, 111, 112, 97, 113, 117, 101, 6, 231, 8, 95, 95, 114, 101, 112, 114, 95, 95, 9, 44, 95, 102, 114, 111, 122, 101, 110, 95, 105, 109, 112, 111, 114, 116, 108, 105, 98, 46, 77, 111, 100, 117, 108, 101, 83, 112, 101, 99, 46, 95, 95, 114, 101, 112, 114, 95, 95, 35, 111, 112, 97, 113, 117, 101, 6, 232, 6, 95, 95, 101, 113, 95, 95, 9, 42, 95, 102, 114, 111, 122, 101, 110, 95, 105, 109, 112, 111, 114, 116, 108, 105, 98, 46, 77, 111, 100, 117, 108, 101, 83, 112, 101, 99, 46, 95, 95, 101, 113, 95, 95, 35, 111, 112, 97, 113, 117, 101, 6, 233, 6, 99, 97, 99, 104, 101, 100, 9, 42, 95, 102, 114, 111, 122, 101, 110, 95, 105, 109, 112, 111, 114, 116, 108, 105, 98, 46, 77, 111, 100, 117, 108, 101, 83, 112, 101, 99, 46, 99, 97, 99, 104, 101, 100, 35, 111, 112, 97, 113, 117, 101, 6, 234, 6, 112, 97, 114, 101, 110, 116, 9, 42, 95, 102, 114, 111, 122, 101, 110, 95, 105, 109, 112, 111, 114, 116, 108, 105, 98, 46, 77, 111, 100, 117, 108, 101, 83, 112, 101, 99, 46, 112, 97, 114, 101, 110, 116, 35, 111, 112, 97, 113, 117, 101, 6, 235, 12, 104, 97, 115, 95, 108, 111, 99, 97, 116, 105, 111, 110, 9, 48, 95, 102, 114, 111, 122, 101, 110, 95, 105, 109, 112, 111, 114, 116, 108, 105, 98, 46, 77, 111, 100, 117, 108, 101, 83, 112, 101, 99, 46, 104, 97, 115, 95, 108, 111, 99, 97, 116, 105, 111, 110, 35, 111, 112, 97, 113, 117, 101, 6, 236, 21, 95, 95, 115, 116, 97, 116, 105, 99, 95, 97, 116, 116, 114, 105, 98, 117, 116, 101, 115, 95, 95, 4, 0, 0, 23, 6, 238, 8, 95, 95, 100, 105, 99, 116, 95, 95, 4, 0, 0, 24, 6, 240, 11, 95, 95, 119, 101, 97, 107, 114, 101, 102, 95, 95, 4, 0, 0, 25, 6, 241, 8, 95, 95, 104, 97, 115, 104, 95, 95, 0]⟩) 0, Value.bool Bool.true, Value.bool Bool.true, Value.str (Str.ofString "") 242] 1 }
noncomputable def ob10 : Params → Obj := fun _ => { cls := Value.type "list", data := Data.seq #[] }
noncomputable def ob11 : Params → Obj := fun P => { cls := Value.type "dict", data := Data.dict #[{ hash := PyData.keyHash P (Str.ofString "name"), key := Value.str (Str.ofString "name") 208, val := Value.str (Str.ofString "_sre") 207 }, { hash := PyData.keyHash P (Str.ofString "loader"), key := Value.str (Str.ofString "loader") 209, val := Value.ref 14 }, { hash := PyData.keyHash P (Str.ofString "origin"), key := Value.str (Str.ofString "origin") 210, val := Value.str (Str.ofString "built-in") 184 }, { hash := PyData.keyHash P (Str.ofString "loader_state"), key := Value.str (Str.ofString "loader_state") 211, val := Value.none }, { hash := PyData.keyHash P (Str.mk ⟨[115, 117, 98, 109, 111, 100, 117, 108, 101, 95, 115, 101, 97, 114, 99, 104, 95, 108, 111, 99, 97, 116, 105, 111, 110, 115]⟩), key := Value.str (Str.mk ⟨[115, 117, 98, 109, 111, 100, 117, 108, 101, 95, 115, 101, 97, 114, 99, 104, 95, 108, 111, 99, 97, 116, 105, 111, 110, 115]⟩) 212, val := Value.none }, { hash := PyData.keyHash P (Str.mk ⟨[95, 117, 110, 105, 110, 105, 116, 105, 97, 108, 105, 122, 101, 100, 95, 115, 117, 98, 109, 111, 100, 117, 108, 101, 115]⟩), key := Value.str (Str.mk ⟨[95, 117, 110, 105, 110, 105, 116, 105, 97, 108, 105, 122, 101, 100, 95, 115, 117, 98, 109, 111, 100, 117, 108, 101, 115]⟩) 213, val := Value.ref 19 }, { hash := PyData.keyHash P (Str.ofString "_set_fileattr"), key := Value.str (Str.ofString "_set_fileattr") 214, val := Value.bool Bool.false }, { hash := PyData.keyHash P (Str.ofString "_cached"), key := Value.str (Str.ofString "_cached") 215, val := Value.none }, { hash := PyData.keyHash P (Str.ofString "_initializing"), key := Value.str (Str.ofString "_initializing") 243, val := Value.bool Bool.false }] 9 }
noncomputable def ob12 : Params → Obj := fun P => { cls := Value.type "dict", data := Data.dict #[{ hash := PyData.keyHash P (Str.ofString "__module__"), key := Value.str (Str.ofString "__module__") 227, val := Value.str (Str.ofString "_frozen_importlib") 217 }, { hash := PyData.keyHash P (Str.ofString "__firstlineno__"), key := Value.str (Str.ofString "__firstlineno__") 228, val := Value.int 562 218 }, { hash := PyData.keyHash P (Str.ofString "__doc__"), key := Value.str (Str.ofString "__doc__") 229, val := Value.builtin "_frozen_importlib.ModuleSpec.__doc__:str#opaque" }, { hash := PyData.keyHash P (Str.ofString "__init__"), key := Value.str (Str.ofString "__init__") 230, val := Value.builtin "_frozen_importlib.ModuleSpec.__init__#opaque" }, { hash := PyData.keyHash P (Str.ofString "__repr__"), key := Value.str (Str.ofString "__repr__") 231, val := Value.builtin "_frozen_importlib.ModuleSpec.__repr__#opaque" }, { hash := PyData.keyHash P (Str.ofString "__eq__"), key := Value.str (Str.ofString "__eq__") 232, val := Value.builtin "_frozen_importlib.ModuleSpec.__eq__#opaque" }, { hash := PyData.keyHash P (Str.ofString "cached"), key := Value.str (Str.ofString "cached") 233, val := Value.builtin "_frozen_importlib.ModuleSpec.cached#opaque" }, { hash := PyData.keyHash P (Str.ofString "parent"), key := Value.str (Str.ofString "parent") 234, val := Value.builtin "_frozen_importlib.ModuleSpec.parent#opaque" }, { hash := PyData.keyHash P (Str.ofString "has_location"), key := Value.str (Str.ofString "has_location") 235, val := Value.builtin "_frozen_importlib.ModuleSpec.has_location#opaque" }, { hash := PyData.keyHash P (Str.ofString "__static_attributes__"), key := Value.str (Str.ofString "__static_attributes__") 236, val := Value.ref 23 }, { hash := PyData.keyHash P (Str.ofString "__dict__"), key := Value.str (Str.ofString "__dict__") 238, val := Value.ref 24 }, { hash := PyData.keyHash P (Str.ofString "__weakref__"), key := Value.str (Str.ofString "__weakref__") 240, val := Value.ref 25 }, { hash := PyData.keyHash P (Str.ofString "__hash__"), key := Value.str (Str.ofString "__hash__") 241, val := Value.none }] 13 }
noncomputable def ob13 : Params → Obj := fun _ => { cls := Value.type "type", data := Data.cls { name := Str.ofString "ModuleSpec", bases := [Value.type "object"], mro := [Value.ref 22, Value.type "object"], ns := 21, qualname := Str.ofString "ModuleSpec" } }
noncomputable def ob14 : Params → Obj := fun _ => { cls := Value.type "tuple", data := Data.seq #[Value.str (Str.ofString "_cached") 219, Value.str (Str.ofString "_set_fileattr") 220, Value.str (Str.mk ⟨[95, 117, 110, 105, 110, 105, 116, 105, 97, 108, 105, 122, 101, 100, 95, 115, 117, 98, 109, 111, 100, 117, 108, 101, 115]⟩) 221, Value.str (Str.ofString "loader") 222, Value.str (Str.ofString "loader_state") 223, Value.str (Str.ofString "name") 224, Value.str (Str.ofString "origin") 225, Value.str (Str.mk ⟨[115, 117, 98, 109, 111, 100, 117, 108, 101, 95, 115, 101, 97, 114, 99, 104, 95, 108, 111, 99, 97, 116, 105, 111, 110, 115]⟩) 226] }
noncomputable def ob15 : Params → Obj := fun _ => { cls := Value.type "getset_descriptor", data := Data.fields #[Value.str (Str.ofString "__dict__") 237, Value.ref 22, Value.builtin "function.__dict__", Value.builtin "function.__dict__#set"] }
noncomputable def ob16 : Params → Obj := fun _ => { cls := Value.type "getset_descriptor", data := Data.fields #[Value.str (Str.ofString "__weakref__") 239, Value.ref 22, Value.builtin "ExceptionGroup.__weakref__", Value.none] }
noncomputable def ob17 : Params → Obj := fun _ => { cls := Value.ref 22, dict := Option.some 20 }
noncomputable def ob18 : Params → Obj := fun _ => { cls := Value.none, data := Data.seq #[Value.int 11 0, Value.str { cps := #[6, 247, 8, 95, 95, 110, 97, 109, 101, 95, 95, 6, 246, 4, 95, 115, 114, 101, 6, 248, 7, 95, 95, 100, 111, 99, 95, 95, 0, 6, 250, 11, 95, 95, 112, 97, 99, 107, 97, 103, 101, 95, 95, 6, 249, 0, 6, 251, 10, 95, 95, 108, 111, 97, 100, 101, 114, 95, 95, 4, 0, 0, 14, 6, 252, 8, 95, 95, 115, 112, 101, 99, 95, 95, 4, 0, 0, 26, 6, 253, 7, 99, 111, 109, 112, 105, 108, 101, 9, 12, 95, 115, 114, 101, 46, 99, 111, 109, 112, 105, 108, 101, 6, 254, 8, 116, 101, 109, 112, 108, 97, 116, 101, 9, 13, 95, 115, 114, 101, 46, 116, 101, 109, 112, 108, 97, 116, 101, 6, 255, 11, 103, 101, 116, 99, 111, 100, 101, 115, 105, 122, 101, 9, 16, 95, 115, 114, 101, 46, 103, 101, 116, 99, 111, 100, 101, 115, 105, 122, 101, 6, 256, 13, 97, 115, 99, 105, 105, 95, 105, 115, 99, 97, 115, 101, 100, 9, 18, 95, 115, 114, 101, 46, 97, 115, 99, 105, 105, 95, 105, 115, 99, 97, 115, 101, 100, 6, 257, 15, 117, 110, 105, 99, 111, 100, 101, 95, 105, 115, 99, 97, 115, 101, 100, 9, 20, 95, 115, 114, 101, 46, 117, 110, 105, 99, 111, 100, 101, 95, 105, 115, 99, 97, 115, 101, 100, 6, 258, 13, 97, 115, 99, 105, 105, 95, 116, 111, 108, 111, 119, 101, 114, 9, 18, 95, 115, 114, 101, 46, 97, 115, 99, 105, 105, 95, 116, 111, 108, 111, 119, 101, 114, 6, 259, 15, 117, 110, 105, 99, 111, 100, 101, 95, 116, 111, 108, 111, 119, 101, 114, 9, 20, 95, 115, 114, 101, 46, 117, 110, 105, 99, 111, 100, 101, 95, 116, 111, 108, 111, 119, 101, 114, 6, 261, 5, 77, 65, 71, 73, 67, 4, 260, 0, 20230612, 6, 263, 8, 67, 79, 68, 69, 83, 73, 90, 69, 4, 262, 0, 4, 6, 265, 9, 77, 65, 88, 82, 69, 80, 69, 65, 84, 4, 264, 0, 4294967295, 6, 267, 9, 77, 65, 88, 71, 82, 79, 85, 80, 83, 4, 266, 0, 1073741823, 6, 269, 9, 99, 111, 112, 121, 114, 105, 103, 104, 116, 6, 268, 53, 32, 83, 82, 69, 32, 50, 46, 50, 46, 50, 32, 67, 111, 112, 121, 114, 105, 103, 104, 116, 32, 40, 99, 41, 32, 49, 57, 57, 55, 45, 50, 48, 48, 50, 32, 98, 121, 32, 83, 101, 99, 114, 101, 116, 32, 76, 97, 98, 115, 32, 65, 66, 32] } 0, Value.bool Bool.true, Value.bool Bool.false, Value.str (Str.ofString "_sre") 271] }
noncomputable def ob19 : Params → Obj := fun _ => { cls := Value.type "code", data := Data.fields #[Value.str (Str.ofString "<module>") 277, Value.str (Str.ofString "<module>") 278, Value.str (Str.ofString "/claim/cut.py") 279, Value.int 1 0, Value.int 0 0, Value.int 0 0, Value.int 0 0, Value.int 0 0, Value.ref 28, Value.bool Bool.false, Value.int 276 0, Value.ref 29, Value.none, Value.none, Value.none, Value.none, Value.int 280 0, Value.int 1 0, Value.str (Str.ofString "/claim/cut.py") 281] }
noncomputable def ob20 : Params → Obj := fun _ => { cls := Value.type "frame", slots := #[Option.some (Value.ref 30), Option.some (Value.ref 3), Option.some (Value.ref 3), Option.none, Option.some (Value.str (Str.ofString "__main__") 164), Option.none, Option.some (Value.ref 0)] }
noncomputable def ob21 : Params → Obj := fun P => { cls := Value.type "dict", data := Data.dict #[{ hash := PyData.keyHash P (Str.ofString "__name__"), key := Value.str (Str.ofString "__name__") 165, val := Value.str (Str.ofString "re") 344 }, { hash := PyData.keyHash P (Str.ofString "__doc__"), key := Value.str (Str.ofString "__doc__") 166, val := Value.none }, { hash := PyData.keyHash P (Str.ofString "__package__"), key := Value.str (Str.ofString "__package__") 167, val := Value.none }, { hash := PyData.keyHash P (Str.ofString "__loader__"), key := Value.str (Str.ofString "__loader__") 168, val := Value.builtin "__main__.__loader__#opaque" }, { hash := PyData.keyHash P (Str.ofString "__spec__"), key := Value.str (Str.ofString "__spec__") 169, val := Value.none }, { hash := PyData.keyHash P (Str.ofString "__annotations__"), key := Value.str (Str.ofString "__annotations__") 170, val := Value.ref 6 }, { hash := PyData.keyHash P (Str.ofString "__builtins__"), key := Value.str (Str.ofString "__builtins__") 171, val := Value.ref 4 }, { hash := PyData.keyHash P (Str.ofString "__file__"), key := Value.str (Str.ofString "__file__") 173, val := Value.str (Str.ofString "/claim/cut.py") 172 }, { hash := PyData.keyHash P (Str.ofString "__cached__"), key := Value.str (Str.ofString "__cached__") 174, val := Value.none }, { hash := PyData.keyHash P (Str.ofString "_sre"), key := Value.str (Str.ofString "_sre") 275, val := Value.ref 12 }, { hash := PyData.keyHash P (Str.ofString "_split_list"), key := Value.str (Str.ofString "_split_list") 294, val := Value.ref 38 }, { hash := PyData.keyHash P (Str.ofString "_twin_re_1"), key := Value.str (Str.ofString "_twin_re_1") 334, val := Value.ref 43 }, { hash := PyData.keyHash P (Str.ofString "translate"), key := Value.str (Str.ofString "translate") 343, val := Value.ref 50 }] 13 }
noncomputable def ob22 : Params → Obj := fun _ => { cls := Value.none, data := Data.fields #[Value.int 3 0, Value.int 0 0, Value.ref 37, Value.int 14 0, Value.int 0 0, Value.ref 49] }
noncomputable def ob23 : Params → Obj := fun _ => { cls := Value.type "tuple", data := Data.seq #[Value.str (Str.ofString "s") 287, Value.str (Str.ofString "predicate") 288, Value.str (Str.ofString "yes") 289, Value.str (Str.ofString "no") 290, Value.str (Str.ofString "x") 291] }
noncomputable def ob24 : Params → Obj := fun _ => { cls := Value.none, data := Data.func { name := Str.ofString "_split_list", qualname := Str.ofString "_split_list", params := parN 2, body := bodN 2, scope := scoN 2, globals := 0, closure := [], defaults := Value.none, kwdefaults := Value.none } }
noncomputable def ob25 : Params → Obj := fun _ => { cls := Value.type "code", data := Data.fields #[Value.str (Str.ofString "_split_list") 284, Value.str (Str.ofString "_split_list") 285, Value.str (Str.ofString "/claim/cut.py") 286, Value.int 3 0, Value.int 2 0, Value.int 0 0, Value.int 0 0, Value.int 3 0, Value.ref 32, Value.bool Bool.true, Value.int 276 0, Value.ref 33, Value.none, Value.ref 34, Value.ref 35, Value.ref 36, Value.int 292 0, Value.int 3 0, Value.str (Str.ofString "/claim/cut.py") 293] }
noncomputable def ob26 : Params → Obj := fun _ => { cls := Value.type "function", data := Data.func { name := Str.ofString "_split_list", qualname := Str.ofString "_split_list", params := parN 2, body := bodN 2, scope := scoN 2, globals := 3, closure := [], defaults := Value.none, kwdefaults := Value.none, pyModule := Value.str (Str.ofString "cpy313.pydoc") 282, code := Value.ref 37 } }
noncomputable def ob27 : Params → Obj := fun _ => { cls := Value.type "list", data := Data.seq #[Value.int 14 300, Value.int 14 301, Value.int 4 302, Value.int 1 303, Value.int 1 304, Value.int 9 305, Value.int 0 306, Value.int 64 307, Value.int 0 308, Value.int 1342177280 309, Value.int 0 310, Value.int 0 311, Value.int 0 312, Value.int 0 313, Value.int 0 314, Value.int 17 315, Value.int 0 316, Value.int 13 317, Value.int 11 318, Value.int 9 319, Value.int 0 320, Value.int 64 321, Value.int 0 322, Value.int 1342177280 323, Value.int 0 324, Value.int 0 325, Value.int 0 326, Value.int 0 327, Value.int 0 328, Value.int 17 329, Value.int 1 330, Value.int 1 331] }
noncomputable def ob28 : Params → Obj := fun _ => { cls := Value.type "tuple", data := Data.seq #[Value.none, Value.none] }
noncomputable def ob29 : Params → Obj := fun _ => { cls := Value.type "tuple", data := Data.seq #[Value.int 14 0, Value.int 14 0, Value.int 4 0, Value.int 1 0, Value.int 1 0, Value.int 9 0, Value.int 0 0, Value.int 64 0, Value.int 0 0, Value.int 1342177280 0, Value.int 0 0, Value.int 0 0, Value.int 0 0, Value.int 0 0, Value.int 0 0, Value.int 17 0, Value.int 0 0, Value.int 13 0, Value.int 11 0, Value.int 9 0, Value.int 0 0, Value.int 64 0, Value.int 0 0, Value.int 1342177280 0, Value.int 0 0, Value.int 0 0, Value.int 0 0, Value.int 0 0, Value.int 0 0, Value.int 17 0, Value.int 1 0, Value.int 1 0] }
noncomputable def ob30 : Params → Obj := fun _ => { cls := Value.type "re.Pattern", data := Data.fields #[Value.str (Str.ofString "([&~|])") 298, Value.int 32 333, Value.int 1 0, Value.none, Value.none, Value.ref 42, Value.int 0 0] }
noncomputable def ob31 : Params → Obj := fun _ => { cls := Value.type "tuple", data := Data.seq #[Value.str (Str.ofString "pat") 338, Value.str (Str.ofString "STAR") 339, Value.str (Str.ofString "parts") 340] }
noncomputable def ob32 : Params → Obj := fun _ => { cls := Value.none, data := Data.func { name := Str.ofString "translate", qualname := Str.ofString "translate", params := parN 5, body := bodN 5, scope := scoN 5, globals := 0, closure := [], defaults := Value.none, kwdefaults := Value.none } }
noncomputable def ob33 : Params → Obj := fun _ => { cls := Value.type "code", data := Data.fields #[Value.str (Str.ofString "translate") 335, Value.str (Str.ofString "translate") 336, Value.str (Str.ofString "/claim/cut.py") 337, Value.int 14 0, Value.int 1 0, Value.int 0 0, Value.int 0 0, Value.int 3 0, Value.ref 44, Value.bool Bool.true, Value.int 276 0, Value.ref 45, Value.none, Value.ref 46, Value.ref 47, Value.ref 48, Value.int 341 0, Value.int 14 0, Value.str (Str.ofString "/claim/cut.py") 342] }
noncomputable def ob34 : Params → Obj := fun _ => { cls := Value.type "function", data := Data.func { name := Str.ofString "translate", qualname := Str.ofString "translate", params := parN 5, body := bodN 5, scope := scoN 5, globals := 3, closure := [], defaults := Value.none, kwdefaults := Value.none, pyModule := Value.str (Str.ofString "cpy313.fnmatch") 295, code := Value.ref 49 } }
noncomputable def ob35 : Params → Obj := fun P => { cls := Value.type "dict", data := Data.dict #[{ hash := PyData.keyHash P (Str.ofString "__name__"), key := Value.str (Str.ofString "__name__") 165, val := Value.str (Str.ofString "re") 344 }, { hash := PyData.keyHash P (Str.ofString "__doc__"), key := Value.str (Str.ofString "__doc__") 166, val := Value.none }, { hash := PyData.keyHash P (Str.ofString "__package__"), key := Value.str (Str.ofString "__package__") 167, val := Value.none }, { hash := PyData.keyHash P (Str.ofString "__loader__"), key := Value.str (Str.ofString "__loader__") 168, val := Value.builtin "__main__.__loader__#opaque" }, { hash := PyData.keyHash P (Str.ofString "__spec__"), key := Value.str (Str.ofString "__spec__") 169, val := Value.none }, { hash := PyData.keyHash P (Str.ofString "__annotations__"), key := Value.str (Str.ofString "__annotations__") 170, val := Value.ref 6 }, { hash := PyData.keyHash P (Str.ofString "__builtins__"), key := Value.str (Str.ofString "__builtins__") 171, val := Value.ref 4 }, { hash := PyData.keyHash P (Str.ofString "__file__"), key := Value.str (Str.ofString "__file__") 173, val := Value.str (Str.ofString "/claim/cut.py") 172 }, { hash := PyData.keyHash P (Str.ofString "__cached__"), key := Value.str (Str.ofString "__cached__") 174, val := Value.none }, { hash := PyData.keyHash P (Str.ofString "_sre"), key := Value.str (Str.ofString "_sre") 275, val := Value.ref 12 }, { hash := PyData.keyHash P (Str.ofString "_split_list"), key := Value.str (Str.ofString "_split_list") 294, val := Value.ref 38 }, { hash := PyData.keyHash P (Str.ofString "_twin_re_1"), key := Value.str (Str.ofString "_twin_re_1") 334, val := Value.ref 43 }, { hash := PyData.keyHash P (Str.ofString "translate"), key := Value.str (Str.ofString "translate") 343, val := Value.ref 50 }, { hash := PyData.keyHash P (Str.ofString "_special_chars_map"), key := Value.str (Str.ofString "_special_chars_map") 491, val := Value.ref 52 }] 14 }
noncomputable def ob36 : Params → Obj := fun _ => { cls := Value.type "bytes_iterator", data := Data.fields #[Value.none, Value.int 24 0] }
noncomputable def ob37 : Params → Obj := fun _ => { cls := Value.type "dict", data := Data.dict #[{ hash := 40, key := Value.int 40 347, val := Value.str (Str.ofString "\\(") 351 }, { hash := 41, key := Value.int 41 353, val := Value.str (Str.ofString "\\)") 357 }, { hash := 91, key := Value.int 91 359, val := Value.str (Str.ofString "\\[") 363 }, { hash := 93, key := Value.int 93 365, val := Value.str (Str.ofString "\\]") 369 }, { hash := 123, key := Value.int 123 371, val := Value.str (Str.ofString "\\{") 375 }, { hash := 125, key := Value.int 125 377, val := Value.str (Str.ofString "\\}") 381 }, { hash := 63, key := Value.int 63 383, val := Value.str (Str.ofString "\\?") 387 }, { hash := 42, key := Value.int 42 389, val := Value.str (Str.ofString "\\*") 393 }, { hash := 43, key := Value.int 43 395, val := Value.str (Str.ofString "\\+") 399 }, { hash := 45, key := Value.int 45 401, val := Value.str (Str.ofString "\\-") 405 }, { hash := 124, key := Value.int 124 407, val := Value.str (Str.ofString "\\|") 411 }, { hash := 94, key := Value.int 94 413, val := Value.str (Str.ofString "\\^") 417 }, { hash := 36, key := Value.int 36 419, val := Value.str (Str.ofString "\\$") 423 }, { hash := 92, key := Value.int 92 425, val := Value.str (Str.ofString "\\\\") 429 }, { hash := 46, key := Value.int 46 431, val := Value.str (Str.ofString "\\.") 435 }, { hash := 38, key := Value.int 38 437, val := Value.str (Str.ofString "\\&") 441 }, { hash := 126, key := Value.int 126 443, val := Value.str (Str.ofString "\\~") 447 }, { hash := 35, key := Value.int 35 449, val := Value.str (Str.ofString "\\#") 453 }, { hash := 32, key := Value.int 32 455, val := Value.str (Str.ofString "\\ ") 459 }, { hash := 9, key := Value.int 9 461, val := Value.str (Str.ofString "\\\t") 465 }, { hash := 10, key := Value.int 10 467, val := Value.str (Str.ofString "\\\n") 471 }, { hash := 13, key := Value.int 13 473, val := Value.str (Str.ofString "\\\x0d") 477 }, { hash := 11, key := Value.int 11 479, val := Value.str (Str.ofString "\\\x0b") 483 }, { hash := 12, key := Value.int 12 485, val := Value.str (Str.ofString "\\\x0c") 489 }] 24 }
noncomputable def ob38 : Params → Obj := fun _ => { cls := Value.type "dict", data := Data.dict #[] 2 }
noncomputable def ob39 : Params → Obj := fun _ => { cls := Value.type "StopIteration", data := Data.fields #[Value.ref 54, Value.none, Value.none, Value.none, Value.bool Bool.false, Value.none] }
noncomputable def ob40 : Params → Obj := fun P => { cls := Value.type "dict", data := Data.dict #[{ hash := PyData.keyHash P (Str.ofString "__name__"), key := Value.str (Str.ofString "__name__") 165, val := Value.str (Str.ofString "law_ij0090_01") 533 }, { hash := PyData.keyHash P (Str.ofString "__doc__"), key := Value.str (Str.ofString "__doc__") 166, val := Value.none }, { hash := PyData.keyHash P (Str.ofString "__package__"), key := Value.str (Str.ofString "__package__") 167, val := Value.none }, { hash := PyData.keyHash P (Str.ofString "__loader__"), key := Value.str (Str.ofString "__loader__") 168, val := Value.builtin "__main__.__loader__#opaque" }, { hash := PyData.keyHash P (Str.ofString "__spec__"), key := Value.str (Str.ofString "__spec__") 169, val := Value.none }, { hash := PyData.keyHash P (Str.ofString "__annotations__"), key := Value.str (Str.ofString "__annotations__") 170, val := Value.ref 6 }, { hash := PyData.keyHash P (Str.ofString "__builtins__"), key := Value.str (Str.ofString "__builtins__") 171, val := Value.ref 4 }, { hash := PyData.keyHash P (Str.ofString "__file__"), key := Value.str (Str.ofString "__file__") 173, val := Value.str (Str.ofString "/claim/cut.py") 172 }, { hash := PyData.keyHash P (Str.ofString "__cached__"), key := Value.str (Str.ofString "__cached__") 174, val := Value.none }, { hash := PyData.keyHash P (Str.ofString "_sre"), key := Value.str (Str.ofString "_sre") 275, val := Value.ref 12 }, { hash := PyData.keyHash P (Str.ofString "_split_list"), key := Value.str (Str.ofString "_split_list") 294, val := Value.ref 38 }, { hash := PyData.keyHash P (Str.ofString "_twin_re_1"), key := Value.str (Str.ofString "_twin_re_1") 334, val := Value.ref 43 }, { hash := PyData.keyHash P (Str.ofString "translate"), key := Value.str (Str.ofString "translate") 343, val := Value.ref 50 }, { hash := PyData.keyHash P (Str.ofString "_special_chars_map"), key := Value.str (Str.ofString "_special_chars_map") 491, val := Value.ref 52 }, { hash := PyData.keyHash P (Str.ofString "escape"), key := Value.str (Str.ofString "escape") 498, val := Value.ref 62 }, { hash := PyData.keyHash P (Str.ofString "_translate"), key := Value.str (Str.ofString "_translate") 519, val := Value.ref 69 }, { hash := PyData.keyHash P (Str.ofString "_join_translated_parts"), key := Value.str (Str.ofString "_join_translated_parts") 532, val := Value.ref 76 }, { hash := PyData.keyHash P (Str.ofString "_law_bracket"), key := Value.str (Str.ofString "_law_bracket") 540, val := Value.ref 81 }, { hash := PyData.keyHash P (Str.ofString "_law_set"), key := Value.str (Str.ofString "_law_set") 554, val := Value.ref 88 }, { hash := PyData.keyHash P (Str.ofString "law"), key := Value.str (Str.ofString "law") 560, val := Value.ref 93 }] 20 }
noncomputable def ob41 : Params → Obj := fun _ => { cls := Value.none, data := Data.fields #[Value.int 3 0, Value.int 0 0, Value.ref 37, Value.int 14 0, Value.int 0 0, Value.ref 49, Value.int 20 0, Value.int 0 0, Value.ref 61, Value.int 27 0, Value.int 0 0, Value.ref 68, Value.int 89 0, Value.int 0 0, Value.ref 75, Value.int 117 0, Value.int 0 0, Value.ref 80, Value.int 123 0, Value.int 0 0, Value.ref 87, Value.int 138 0, Value.int 0 0, Value.ref 92] }
noncomputable def ob42 : Params → Obj := fun _ => { cls := Value.type "tuple", data := Data.seq #[Value.str (Str.ofString "pattern") 495] }
noncomputable def ob43 : Params → Obj := fun _ => { cls := Value.none, data := Data.func { name := Str.ofString "escape", qualname := Str.ofString "escape", params := parN 8, body := bodN 8, scope := scoN 8, globals := 0, closure := [], defaults := Value.none, kwdefaults := Value.none } }
noncomputable def ob44 : Params → Obj := fun _ => { cls := Value.type "code", data := Data.fields #[Value.str (Str.ofString "escape") 492, Value.str (Str.ofString "escape") 493, Value.str (Str.ofString "/claim/cut.py") 494, Value.int 20 0, Value.int 1 0, Value.int 0 0, Value.int 0 0, Value.int 3 0, Value.ref 56, Value.bool Bool.true, Value.int 276 0, Value.ref 57, Value.none, Value.ref 58, Value.ref 59, Value.ref 60, Value.int 496 0, Value.int 20 0, Value.str (Str.ofString "/claim/cut.py") 497] }
noncomputable def ob45 : Params → Obj := fun _ => { cls := Value.type "function", data := Data.func { name := Str.ofString "escape", qualname := Str.ofString "escape", params := parN 8, body := bodN 8, scope := scoN 8, globals := 3, closure := [], defaults := Value.none, kwdefaults := Value.none, pyModule := Value.str (Str.ofString "re") 344, code := Value.ref 61 } }
noncomputable def ob46 : Params → Obj := fun _ => { cls := Value.type "tuple", data := Data.seq #[Value.str (Str.ofString "pat") 504, Value.str (Str.ofString "STAR") 505, Value.str (Str.ofString "QUESTION_MARK") 506, Value.str (Str.ofString "res") 507, Value.str (Str.ofString "add") 508, Value.str (Str.ofString "i") 509, Value.str (Str.ofString "n") 510, Value.str (Str.ofString "c") 511, Value.str (Str.ofString "j") 512, Value.str (Str.ofString "stuff") 513, Value.str (Str.ofString "chunks") 514, Value.str (Str.ofString "k") 515, Value.str (Str.ofString "chunk") 516] }
noncomputable def ob47 : Params → Obj := fun _ => { cls := Value.none, data := Data.func { name := Str.ofString "_translate", qualname := Str.ofString "_translate", params := parN 10, body := bodN 10, scope := scoN 10, globals := 0, closure := [], defaults := Value.none, kwdefaults := Value.none } }
noncomputable def ob48 : Params → Obj := fun _ => { cls := Value.type "code", data := Data.fields #[Value.str (Str.ofString "_translate") 501, Value.str (Str.ofString "_translate") 502, Value.str (Str.ofString "/claim/cut.py") 503, Value.int 27 0, Value.int 3 0, Value.int 0 0, Value.int 0 0, Value.int 3 0, Value.ref 63, Value.bool Bool.true, Value.int 276 0, Value.ref 64, Value.none, Value.ref 65, Value.ref 66, Value.ref 67, Value.int 517 0, Value.int 27 0, Value.str (Str.ofString "/claim/cut.py") 518] }
noncomputable def ob49 : Params → Obj := fun _ => { cls := Value.type "function", data := Data.func { name := Str.ofString "_translate", qualname := Str.ofString "_translate", params := parN 10, body := bodN 10, scope := scoN 10, globals := 3, closure := [], defaults := Value.none, kwdefaults := Value.none, pyModule := Value.str (Str.ofString "cpy313.fnmatch") 499, code := Value.ref 68 } }
noncomputable def ob50 : Params → Obj := fun _ => { cls := Value.type "tuple", data := Data.seq #[Value.str (Str.ofString "inp") 523, Value.str (Str.ofString "STAR") 524, Value.str (Str.ofString "res") 525, Value.str (Str.ofString "add") 526, Value.str (Str.ofString "i") 527, Value.str (Str.ofString "n") 528, Value.str (Str.ofString "fixed") 529] }
noncomputable def ob51 : Params → Obj := fun _ => { cls := Value.none, data := Data.func { name := Str.ofString "_join_translated_parts", qualname := Str.ofString "_join_translated_parts", params := parN 11, body := bodN 11, scope := scoN 11, globals := 0, closure := [], defaults := Value.none, kwdefaults := Value.none } }
noncomputable def ob52 : Params → Obj := fun _ => { cls := Value.type "code", data := Data.fields #[Value.str (Str.ofString "_join_translated_parts") 520, Value.str (Str.ofString "_join_translated_parts") 521, Value.str (Str.ofString "/claim/cut.py") 522, Value.int 89 0, Value.int 2 0, Value.int 0 0, Value.int 0 0, Value.int 3 0, Value.ref 70, Value.bool Bool.true, Value.int 276 0, Value.ref 71, Value.none, Value.ref 72, Value.ref 73, Value.ref 74, Value.int 530 0, Value.int 89 0, Value.str (Str.ofString "/claim/cut.py") 531] }
noncomputable def ob53 : Params → Obj := fun _ => { cls := Value.type "function", data := Data.func { name := Str.ofString "_join_translated_parts", qualname := Str.ofString "_join_translated_parts", params := parN 11, body := bodN 11, scope := scoN 11, globals := 3, closure := [], defaults := Value.none, kwdefaults := Value.none, pyModule := Value.str (Str.ofString "cpy313.fnmatch") 499, code := Value.ref 75 } }
noncomputable def ob54 : Params → Obj := fun _ => { cls := Value.none, data := Data.func { name := Str.ofString "_law_bracket", qualname := Str.ofString "_law_bracket", params := parN 13, body := bodN 13, scope := scoN 13, globals := 0, closure := [], defaults := Value.none, kwdefaults := Value.none } }
noncomputable def ob55 : Params → Obj := fun _ => { cls := Value.type "code", data := Data.fields #[Value.str (Str.ofString "_law_bracket") 535, Value.str (Str.ofString "_law_bracket") 536, Value.str (Str.ofString "/claim/cut.py") 537, Value.int 117 0, Value.int 3 0, Value.int 0 0, Value.int 0 0, Value.int 3 0, Value.ref 77, Value.bool Bool.true, Value.int 276 0, Value.ref 78, Value.none, Value.none, Value.none, Value.ref 79, Value.int 538 0, Value.int 117 0, Value.str (Str.ofString "/claim/cut.py") 539] }
noncomputable def ob56 : Params → Obj := fun _ => { cls := Value.type "function", data := Data.func { name := Str.ofString "_law_bracket", qualname := Str.ofString "_law_bracket", params := parN 13, body := bodN 13, scope := scoN 13, globals := 3, closure := [], defaults := Value.none, kwdefaults := Value.none, pyModule := Value.str (Str.ofString "law_ij0090_01") 533, code := Value.ref 80 } }
noncomputable def ob57 : Params → Obj := fun _ => { cls := Value.type "tuple", data := Data.seq #[Value.str (Str.ofString "text") 544, Value.str (Str.ofString "k") 545, Value.str (Str.ofString "turned") 546, Value.str (Str.ofString "signs") 547, Value.str (Str.ofString "slash") 548, Value.str (Str.ofString "ranges") 549, Value.str (Str.ofString "at") 550, Value.str (Str.ofString "wide") 551] }
noncomputable def ob58 : Params → Obj := fun _ => { cls := Value.none, data := Data.func { name := Str.ofString "_law_set", qualname := Str.ofString "_law_set", params := parN 14, body := bodN 14, scope := scoN 14, globals := 0, closure := [], defaults := Value.none, kwdefaults := Value.none } }
noncomputable def ob59 : Params → Obj := fun _ => { cls := Value.type "code", data := Data.fields #[Value.str (Str.ofString "_law_set") 541, Value.str (Str.ofString "_law_set") 542, Value.str (Str.ofString "/claim/cut.py") 543, Value.int 123 0, Value.int 2 0, Value.int 0 0, Value.int 0 0, Value.int 3 0, Value.ref 82, Value.bool Bool.true, Value.int 276 0, Value.ref 83, Value.none, Value.ref 84, Value.ref 85, Value.ref 86, Value.int 552 0, Value.int 123 0, Value.str (Str.ofString "/claim/cut.py") 553] }
noncomputable def ob60 : Params → Obj := fun _ => { cls := Value.type "function", data := Data.func { name := Str.ofString "_law_set", qualname := Str.ofString "_law_set", params := parN 14, body := bodN 14, scope := scoN 14, globals := 3, closure := [], defaults := Value.none, kwdefaults := Value.none, pyModule := Value.str (Str.ofString "law_ij0090_01") 533, code := Value.ref 87 } }
noncomputable def ob61 : Params → Obj := fun _ => { cls := Value.none, data := Data.func { name := Str.ofString "law", qualname := Str.ofString "law", params := parN 15, body := bodN 15, scope := scoN 15, globals := 0, closure := [], defaults := Value.none, kwdefaults := Value.none } }
noncomputable def ob62 : Params → Obj := fun _ => { cls := Value.type "code", data := Data.fields #[Value.str (Str.ofString "law") 555, Value.str (Str.ofString "law") 556, Value.str (Str.ofString "/claim/cut.py") 557, Value.int 138 0, Value.int 1 0, Value.int 0 0, Value.int 0 0, Value.int 3 0, Value.ref 89, Value.bool Bool.true, Value.int 276 0, Value.ref 90, Value.none, Value.none, Value.none, Value.ref 91, Value.int 558 0, Value.int 138 0, Value.str (Str.ofString "/claim/cut.py") 559] }
noncomputable def ob63 : Params → Obj := fun _ => { cls := Value.type "function", data := Data.func { name := Str.ofString "law", qualname := Str.ofString "law", params := parN 15, body := bodN 15, scope := scoN 15, globals := 3, closure := [], defaults := Value.none, kwdefaults := Value.none, pyModule := Value.str (Str.ofString "law_ij0090_01") 533, code := Value.ref 92 } }
noncomputable def hp0 : Params → Heap := fun P => ⟨⟨[boot_o_0 P, ob0 P, ob1 P, ob2 P, boot_o_4 P, boot_o_5 P, boot_o_6 P, boot_o_7 P, boot_o_8 P, boot_o_9 P, boot_o_10 P, ob3 P, ob4 P, ob5 P, ob6 P, boot_o_7 P, ob7 P, ob8 P, ob9 P, ob10 P, ob11 P, ob12 P, ob13 P, ob14 P, ob15 P, ob16 P, ob17 P, ob18 P]⟩, {}⟩
noncomputable def hpP : Params → Heap := fun P => ⟨⟨[boot_o_0 P, ob0 P, ob1 P, ob2 P, boot_o_4 P, boot_o_5 P, boot_o_6 P, boot_o_7 P, boot_o_8 P, boot_o_9 P, boot_o_10 P, ob3 P, ob4 P, ob5 P, ob6 P, boot_o_7 P, ob7 P, ob8 P, ob9 P, ob10 P, ob11 P, ob12 P, ob13 P, ob14 P, ob15 P, ob16 P, ob17 P, ob18 P, boot_o_7 P, boot_o_8 P, ob19 P, ob20 P]⟩, {}⟩
noncomputable def hpA : Params → Heap := fun P => ⟨⟨[boot_o_0 P, ob0 P, ob1 P, ob21 P, boot_o_4 P, boot_o_5 P, boot_o_6 P, boot_o_7 P, boot_o_8 P, boot_o_9 P, boot_o_10 P, ob3 P, ob4 P, ob5 P, ob6 P, boot_o_7 P, ob7 P, ob8 P, ob9 P, ob10 P, ob11 P, ob12 P, ob13 P, ob14 P, ob15 P, ob16 P, ob17 P, ob18 P, boot_o_7 P, ob22 P, ob19 P, ob20 P, boot_o_7 P, boot_o_8 P, ob23 P, boot_o_7 P, ob24 P, ob25 P, ob26 P, ob27 P, boot_o_6 P, ob28 P, ob29 P, ob30 P, boot_o_7 P, boot_o_8 P, ob31 P, boot_o_7 P, ob32 P, ob33 P, ob34 P]⟩, {}⟩
noncomputable def hpB : Params → Heap := fun P => ⟨⟨[boot_o_0 P, ob0 P, ob1 P, ob35 P, boot_o_4 P, boot_o_5 P, boot_o_6 P, boot_o_7 P, boot_o_8 P, boot_o_9 P, boot_o_10 P, ob3 P, ob4 P, ob5 P, ob6 P, boot_o_7 P, ob7 P, ob8 P, ob9 P, ob10 P, ob11 P, ob12 P, ob13 P, ob14 P, ob15 P, ob16 P, ob17 P, ob18 P, boot_o_7 P, ob22 P, ob19 P, ob20 P, boot_o_7 P, boot_o_8 P, ob23 P, boot_o_7 P, ob24 P, ob25 P, ob26 P, ob27 P, boot_o_6 P, ob28 P, ob29 P, ob30 P, boot_o_7 P, boot_o_8 P, ob31 P, boot_o_7 P, ob32 P, ob33 P, ob34 P, ob36 P, ob37 P, ob38 P, boot_o_7 P, ob39 P]⟩, {}⟩
noncomputable def hp1 : Params → Heap := fun P => ⟨⟨[boot_o_0 P, ob0 P, ob1 P, ob40 P, boot_o_4 P, boot_o_5 P, boot_o_6 P, boot_o_7 P, boot_o_8 P, boot_o_9 P, boot_o_10 P, ob3 P, ob4 P, ob5 P, ob6 P, boot_o_7 P, ob7 P, ob8 P, ob9 P, ob10 P, ob11 P, ob12 P, ob13 P, ob14 P, ob15 P, ob16 P, ob17 P, ob18 P, boot_o_7 P, ob41 P, ob19 P, ob20 P, boot_o_7 P, boot_o_8 P, ob23 P, boot_o_7 P, ob24 P, ob25 P, ob26 P, ob27 P, boot_o_6 P, ob28 P, ob29 P, ob30 P, boot_o_7 P, boot_o_8 P, ob31 P, boot_o_7 P, ob32 P, ob33 P, ob34 P, ob36 P, ob37 P, ob38 P, boot_o_7 P, ob39 P, boot_o_7 P, boot_o_8 P, ob42 P, boot_o_7 P, ob43 P, ob44 P, ob45 P, boot_o_7 P, boot_o_8 P, ob46 P, boot_o_7 P, ob47 P, ob48 P, ob49 P, boot_o_7 P, boot_o_8 P, ob50 P, boot_o_7 P, ob51 P, ob52 P, ob53 P, boot_o_7 P, boot_o_8 P, ob54 P, ob55 P, ob56 P, boot_o_7 P, boot_o_8 P, ob57 P, boot_o_7 P, ob58 P, ob59 P, ob60 P, boot_o_7 P, boot_o_8 P, ob61 P, ob62 P, ob63 P]⟩, {}⟩
noncomputable abbrev hdP : Program := PySem.Challenge.pw_ij0090_01
noncomputable def hdB : List Stmt := behindTheImports hdP
noncomputable def hdE : Env := { scope := hdP.main.scope, locals := mainNs, globals := mainNs, cells := [], code := .ref 30, frame := some 31 }
noncomputable abbrev hdC : Code := .body hdB hdE
noncomputable abbrev hdF : List Frame := [topFrame ⟨0, 0, 0, 0⟩]
noncomputable abbrev hs (h : Params → Heap) (k : Nat) (w : World) (os : OsState) : Shared := ⟨h w.params, ⟨[]⟩, {}, k, os⟩
noncomputable abbrev hdA : Option Value := some (.ref 6)
theorem hd_open : ∀ w : World, (fencedOpening treeTable hdP w 3396).map (fun s => (s.heap, s.gens, s.drawn, s.toks)) = some (hp0 w.params, ⟨[]⟩, {}, 276) := fun _ => by kernel_rfl
theorem hd_size : ∀ w : World, ((hp0 w.params).isNs mainGlobals && (⟨[]⟩ : Array GenState).size == 0, (hp0 w.params).objs.size, (hp0 w.params).nsMap mainGlobals "__annotations__") = (true, 28, hdA) := fun _ => by kernel_rfl
theorem hd_pre : ∀ (w : World) (os : OsState), topGo treeTable hdP w 28 hdA 12 (hs hp0 276 w os) (topStub hdP) = some (hs hpP 282 w os, ⟨denote treeTable hdC, hdC, ⟨0, 0, 0, 0⟩, hdF⟩) := fun _ _ => by kernel_rfl
theorem hd_block : ∀ (w : World) (os : OsState), segRun treeTable hdP w 28 hdA 1 1 (hs hpP 282 w os) (blockOf hdB hdE hdC ⟨0, 0, 0, 0⟩ hdF) = some (.next, hs hpP 282 w os, hdC, ⟨0, 0, 0, 0⟩) := fun _ _ => by kernel_rfl
theorem hd_a : ∀ (w : World) (os : OsState), segRun treeTable hdP w 28 hdA 1 173 (hs hpP 282 w os) (piecesOf (hdB.take 6) hdE hdC ⟨0, 0, 0, 0⟩ hdF) = some (.next, hs hpA 346 w os, hdC, ⟨18, 0, 18, 8⟩) := fun _ _ => by kernel_rfl
noncomputable def HdBok (w : World) : Prop := (fun os => segRun treeTable hdP w 28 hdA 1 1253 (hs hpA 346 w os) (piecesOf ((hdB.drop 6).take 1) hdE hdC ⟨18, 0, 18, 8⟩ hdF)) = fun os => some (.next, hs hpB 492 w os, hdC, ⟨19, 0, 19, 18⟩)
theorem hd_bff : ∀ w : World, HdBok ((w.withFollow "special-get-raises" false).withFollow "comprehension-iter-twice" false) := fun _ => by
  unfold HdBok
  kernel_rfl
theorem hd_bft : ∀ w : World, HdBok ((w.withFollow "special-get-raises" false).withFollow "comprehension-iter-twice" true) := fun _ => by
  unfold HdBok
  kernel_rfl
theorem hd_btf : ∀ w : World, HdBok ((w.withFollow "special-get-raises" true).withFollow "comprehension-iter-twice" false) := fun _ => by
  unfold HdBok
  kernel_rfl
theorem hd_btt : ∀ w : World, HdBok ((w.withFollow "special-get-raises" true).withFollow "comprehension-iter-twice" true) := fun _ => by
  unfold HdBok
  kernel_rfl
theorem hd_b : ∀ w : World, HdBok w :=
  byRow2 (P := HdBok) "comprehension-iter-twice" (byRow2 (P := fun w => HdBok (w.withFollow "comprehension-iter-twice" false)) "special-get-raises" hd_bff hd_btf)
    (byRow2 (P := fun w => HdBok (w.withFollow "comprehension-iter-twice" true)) "special-get-raises" hd_bft hd_btt)
theorem hd_c : ∀ (w : World) (os : OsState), segRun treeTable hdP w 28 hdA 1 212 (hs hpB 492 w os) (piecesOf ((hdB.drop 6).drop 1) hdE hdC ⟨19, 0, 19, 18⟩ hdF) = some (.next, hs hp1 561 w os, hdC, ⟨138, 0, 168, 22⟩) := fun _ _ => by kernel_rfl
theorem hd_fin : ∀ (w : World) (os : OsState), topRun treeTable hdP w 28 hdA 2 (hs hp1 561 w os) ⟨doneF .next, hdC, ⟨138, 0, 168, 22⟩, hdF⟩ = some (hs hp1 561 w os) := fun _ _ => by kernel_rfl
theorem hd_looks : ∀ w : World, (fun os => ((staticsOk (importedModules hdP.main.body) (hp0 w.params) (hp1 w.params) && namesBound hdP (hp1 w.params) && gensDone (hs hp1 561 w os) && laidKept (hp0 w.params) (hp1 w.params)),
    openSeen headQ headLoose (importedModules hdP.main.body) (fun s => xlAt headQ [] s && recOk [] s) true (hs hp1 561 w os), Hook.obs headHook (hs hp1 561 w os))) = fun _ => (true, openGood headQ headLoose, Hook.val headHook w) := fun _ => by kernel_rfl
theorem hd_run (w : World) (os : OsState) : topRun treeTable hdP w 28 hdA (12 + (1 + (173 + (1253 + (212 + 2))))) (hs hp0 276 w os) (topStub hdP) = some (hs hp1 561 w os) := by
  refine go_top (hd_pre w os) (piece_block (hd_block w os) ?_)
  rw [← List.take_append_drop 6 hdB]
  refine piece_app (hd_a w os) ?_
  rw [← List.take_append_drop 1 (hdB.drop 6)]
  refine piece_app (congrFun (hd_b w) os) ?_
  rw [← List.append_nil ((hdB.drop 6).drop 1)]
  exact piece_app (hd_c w os) (piece_nil (hd_fin w os))
theorem head_left : LeftO PySem.Challenge.pw_ij0090_01 headQ headLoose (fun s => xlAt headQ [] s && recOk [] s) (Hook.obs headHook) (Hook.val headHook) 3396 :=
  LeftO.of_pieces hd_open hd_size hd_run (by decide +kernel) hd_looks
end Mine
end

section
set_option Elab.async false
namespace Mine
noncomputable def nv : Value → Value
  | .int i _ => .int i 0
  | .str s _ => .str s 0
  | .float b _ => .float b 0
  | .bytes b _ => .bytes b 0
  | v => v
noncomputable def nf : Flow → Flow
  | .ret v => .ret (nv v)
  | f => f
noncomputable abbrev In (i : Int) : Value := .int i 0
noncomputable abbrev St (l : List Nat) : Value := .str ⟨l.toArray⟩ 0

theorem nv_ref {v : Value} {a : Addr} (h : nv v = .ref a) : v = .ref a := by cases v <;> simp_all [nv]
theorem nv_int {v : Value} {i : Int} (h : nv v = In i) : ∃ t, v = .int i t := by cases v <;> simp_all [nv]
theorem nv_str {v : Value} {x : Str} (h : nv v = .str x 0) : ∃ t, v = .str x t := by cases v <;> simp_all [nv]
theorem nv_bool {v : Value} {b : Bool} (h : nv v = .bool b) : v = .bool b := by cases v <;> simp_all [nv]
theorem nv_none {v : Value} (h : nv v = .none) : v = .none := by cases v <;> simp_all [nv]
theorem nv_builtin {v : Value} {b : String} (h : nv v = .builtin b) : v = .builtin b := by cases v <;> simp_all [nv]
theorem nv_type {v : Value} {b : String} (h : nv v = .type b) : v = .type b := by cases v <;> simp_all [nv]

noncomputable abbrev Ext (h h' : Heap) : Prop := ∀ b o, h.get? b = some o → h'.get? b = some o
inductive Up {α β : Type} : List (α × β) → α → β → β → List (α × β) → Prop where
  | head {a : α} {b b' : β} {r : List (α × β)} : Up ((a, b) :: r) a b b' ((a, b') :: r)
  | tail {a : α} {b b' : β} {p : α × β} {r r' : List (α × β)} : Up r a b b' r' → Up (p :: r) a b b' (p :: r')
section
variable {α β : Type} {l l' : List (α × β)} {a : α} {b b' : β}
theorem Up.keys (u : Up l a b b' l') : l'.map (·.1) = l.map (·.1) := by
  induction u with
  | head => rfl
  | tail _ ih => simp [ih]
theorem Up.old (u : Up l a b b' l') : (a, b) ∈ l := by
  induction u with
  | head => exact .head _
  | tail _ ih => exact .tail _ ih
theorem Up.new (u : Up l a b b' l') : (a, b') ∈ l' := by
  induction u with
  | head => exact .head _
  | tail _ ih => exact .tail _ ih
theorem Up.mem (u : Up l a b b' l') (hn : (l.map (·.1)).Nodup) : ∀ p ∈ l', p = (a, b') ∨ (p ∈ l ∧ p.1 ≠ a) := by
  induction u with
  | head =>
    intro p hp
    rw [List.map_cons, List.nodup_cons] at hn
    rcases List.mem_cons.mp hp with rfl | hp
    · exact .inl rfl
    · exact .inr ⟨.tail _ hp, fun e => hn.1 (e ▸ List.mem_map_of_mem (f := (·.1)) hp)⟩
  | tail u ih =>
    intro p hp
    rw [List.map_cons, List.nodup_cons] at hn
    rcases List.mem_cons.mp hp with rfl | hp
    · exact .inr ⟨.head _, fun e => hn.1 (e ▸ List.mem_map_of_mem (f := (·.1)) u.old)⟩
    · rcases ih hn.2 p hp with h | h
      · exact .inl h
      · exact .inr ⟨.tail _ h.1, h.2⟩
end
inductive ItK where
  | list (l : Addr) (i : Nat)
  | tuple (l : Addr) (i : Nat)
  | range (x left step : Int)
  | str (x : Str) (i : Nat)
noncomputable def ItK.At (h : Heap) (a : Addr) : ItK → Prop
  | .list l i => h.IsListIter a l i
  | .tuple l i => h.IsTupleIter a l i
  | .range x left step => IsRangeIter h a x left step
  | .str x i => ∃ t, h.IsStrIter a "str_ascii_iterator" x t i
theorem ItK.there {h : Heap} {a : Addr} {k : ItK} (x : k.At h a) : ∃ o, h.get? a = some o ∧ o.cls ≠ .type "code" ∧ ∃ vs, o.data = .fields vs ∧ ∀ q t, vs[1]? ≠ some (.str q t) := by
  cases k with
  | list => obtain ⟨o, e, c, d⟩ := x; exact ⟨o, e, by rw [c]; decide, _, d, by simp⟩
  | tuple => obtain ⟨o, e, c, d⟩ := x; exact ⟨o, e, by rw [c]; decide, _, d, by simp⟩
  | range => exact ⟨_, x, by simp, _, rfl, by simp [rawInt]⟩
  | str => obtain ⟨t, o, e, c, d⟩ := x; exact ⟨o, e, by rw [c]; decide, _, d, by simp⟩
theorem ItK.local {h h' : Heap} {a : Addr} {k : ItK} (x : k.At h a) (e : h'.get? a = h.get? a) : k.At h' a := by
  cases k with
  | list => obtain ⟨o, q, r⟩ := x; exact ⟨o, e.trans q, r⟩
  | tuple => obtain ⟨o, q, r⟩ := x; exact ⟨o, e.trans q, r⟩
  | range => exact e.trans x
  | str => obtain ⟨t, o, q, r⟩ := x; exact ⟨t, o, e.trans q, r⟩
inductive CO where
  | list (vs : List Value)
  | tuple (vs : List Value)
  | cell (v : Option Value)
  | ns (m : List (Str × Option Value))
  | iter (k : ItK)
  | rng (a b c : Int)
  | raw (o : Obj)
  | tab (c : Addr) (qs : List (Pos × Str))
  | fn (mk : Value → Value → Value → FuncData)
noncomputable def TabOk (h : Heap) (c P : Addr) (qs : List (Pos × Str)) : Prop :=
  CodeHd h c P ∧ ∃ ps, h.get? P = some (tabObj ps) ∧ TriplesOk ps.toList ∧ ∀ x ∈ qs, ∀ cv, codeAmong x.1 ps.toList = some cv → h.CodeRec cv x.2
theorem codeRec_ext {h h' : Heap} {cd : Value} {q : Str} (x : h.CodeRec cd q) (k : Ext h h') : h'.CodeRec cd q :=
  let ⟨c, o, vs, t, e, g, d, v⟩ := x; ⟨c, o, vs, t, e, k _ _ g, d, v⟩

noncomputable def ORel (h : Heap) (a : Addr) : CO → Prop
  | .list vs => ∃ xs n, h.get? a = some (seqObj "list" xs n) ∧ xs.toList.map nv = vs
  | .tuple vs => ∃ xs n, h.get? a = some (seqObj "tuple" xs n) ∧ xs.toList.map nv = vs
  | .cell v => ∃ v', h.IsCell a v' ∧ v'.map nv = v
  | .ns m => (m.map (·.1)).Nodup ∧ ∃ m', h.Ns a m' ∧ ∀ p ∈ m, (m' p.1).map nv = p.2
  | .iter k => k.At h a
  | .rng a' b c => ∃ t u v, IsRange h a a' b c t u v
  | .raw o => h.get? a = some o
  | .tab c qs => TabOk h c a qs
  | .fn mk => ∃ o pm cv ctv, h.get? a = some o ∧ o.cls = .type "function" ∧ o.data = .func (mk pm cv ctv) ∧ h.CodeRec (mk pm cv ctv).code (mk pm cv ctv).qualname

theorem ORel.there {h : Heap} {a : Addr} {co : CO} (x : ORel h a co) : ∃ o, h.get? a = some o := by
  cases co with
  | list => obtain ⟨_, _, e, _⟩ := x; exact ⟨_, e⟩
  | tuple => obtain ⟨_, _, e, _⟩ := x; exact ⟨_, e⟩
  | cell => obtain ⟨_, ⟨o, e, _⟩, _⟩ := x; exact ⟨o, e⟩
  | ns => obtain ⟨_, _, ⟨o, _, _, e, _⟩, _⟩ := x; exact ⟨o, e⟩
  | iter => obtain ⟨o, e, _⟩ := ItK.there x; exact ⟨o, e⟩
  | rng => obtain ⟨_, _, _, e⟩ := x; exact ⟨_, e⟩
  | raw => exact ⟨_, x⟩
  | tab => obtain ⟨_, _, e, _⟩ := x; exact ⟨_, e⟩
  | fn => obtain ⟨o, _, _, _, e, _⟩ := x; exact ⟨o, e⟩

noncomputable def CO.isTab : CO → Bool
  | .tab _ _ => true
  | .fn _ => true
  | _ => false
theorem ORel.local {h h' : Heap} {a : Addr} {co : CO} (hc : co.isTab = false) (x : ORel h a co) (e : h'.get? a = h.get? a) : ORel h' a co := by
  cases co with
  | list => obtain ⟨xs, n, q, r⟩ := x; exact ⟨xs, n, e.trans q, r⟩
  | tuple => obtain ⟨xs, n, q, r⟩ := x; exact ⟨xs, n, e.trans q, r⟩
  | cell => obtain ⟨v', ⟨o, q, r⟩, z⟩ := x; exact ⟨v', ⟨o, e.trans q, r⟩, z⟩
  | ns => obtain ⟨hn, m', ⟨o, es, ep, q, r⟩, z⟩ := x; exact ⟨hn, m', ⟨o, es, ep, e.trans q, r⟩, z⟩
  | iter => exact ItK.local x e
  | rng => obtain ⟨t, u, v, q⟩ := x; exact ⟨t, u, v, e.trans q⟩
  | raw => exact e.trans x
  | tab => cases hc
  | fn => cases hc
structure Fz where
  p : Heap → Prop
  mono : ∀ {h h' : Heap}, Ext h h' → p h → p h'

structure CS where
  S : List (Addr × CO)
  F : Fz

structure Cx where
  prog : Program
  w : World
  os : OsState

structure Rep (cx : Cx) (σ : CS) (s : Shared) : Prop where
  os : s.os = cx.os
  gens : AllBare s.gens
  pos : 0 < s.toks
  nodup : (σ.S.map (·.1)).Nodup
  fz : ∃ B : Heap, σ.F.p B ∧ Ext B s.heap ∧ ∀ p ∈ σ.S, B.get? p.1 = none
  at_ : ∀ p ∈ σ.S, ORel s.heap p.1 p.2

theorem ORel.ext {h h' : Heap} {a : Addr} {co : CO} (x : ORel h a co) (k : Ext h h') : ORel h' a co := by
  cases co with
  | tab c qs =>
    obtain ⟨hd, ps, e, t, r⟩ := x
    exact ⟨hd.keeps k, ps, k _ _ e, t, fun x hx cv hcv => codeRec_ext (r x hx cv hcv) k⟩
  | fn mk =>
    obtain ⟨o, pm, cv, ctv, e, c, d, r⟩ := x
    exact ⟨o, pm, cv, ctv, k _ _ e, c, d, codeRec_ext r k⟩
  | _ =>
    obtain ⟨o, e⟩ := x.there
    exact x.local rfl ((k _ _ e).trans e.symm)

section
variable {cx : Cx} {σ : CS} {s : Shared}

theorem Rep.tok (r : Rep cx σ s) (t : Tok) (ht : 0 < t) : Rep cx σ { s with toks := t } := ⟨r.os, r.gens, ht, r.nodup, r.fz, r.at_⟩
theorem Rep.grow {h' : Heap} (r : Rep cx σ s) (k : Ext s.heap h') (t : Tok) (ht : 0 < t) : Rep cx σ { s with heap := h', toks := t } :=
  ⟨r.os, r.gens, ht, r.nodup, let ⟨B, f, e, n⟩ := r.fz; ⟨B, f, fun b o q => k _ _ (e b o q), n⟩, fun p hp => (r.at_ p hp).ext k⟩
theorem Rep.alloc {S : List (Addr × CO)} {F : Fz} {h' : Heap} {a : Addr} {co : CO} (r : Rep cx ⟨S, F⟩ s) (k : Ext s.heap h') (hn : s.heap.get? a = none) (ho : ORel h' a co) (t : Tok) (ht : 0 < t) :
    Rep cx ⟨(a, co) :: S, F⟩ { s with heap := h', toks := t } := by
  refine ⟨r.os, r.gens, ht, ?_, ?_, ?_⟩
  · refine List.nodup_cons.mpr ⟨fun hm => ?_, r.nodup⟩
    obtain ⟨p, hp, e⟩ := List.mem_map.mp hm
    obtain ⟨o, q⟩ := (r.at_ p hp).there
    rw [e, hn] at q; cases q
  · obtain ⟨B, f, e, n⟩ := r.fz
    refine ⟨B, f, fun b o q => k _ _ (e b o q), fun p hp => ?_⟩
    rcases List.mem_cons.mp hp with rfl | hp
    · cases q : B.get? a with
      | none => rfl
      | some o => have := e _ _ q; rw [hn] at this; cases this
    · exact n p hp
  · intro p hp
    rcases List.mem_cons.mp hp with rfl | hp
    · exact ho
    · exact (r.at_ p hp).ext k
theorem Rep.push {S : List (Addr × CO)} {F : Fz} {o : Obj} {co : CO} (r : Rep cx ⟨S, F⟩ s) (ho : ORel (s.heap.push o) s.heap.objs.size co) (t : Tok) (ht : 0 < t) :
    Rep cx ⟨(s.heap.objs.size, co) :: S, F⟩ { s with heap := s.heap.push o, toks := t } :=
  r.alloc (fun _ _ e => Heap.get?_push_of_some _ e) (Heap.get?_none_of_le (Nat.le_refl _)) ho t ht
theorem Rep.up {S S' : List (Addr × CO)} {F : Fz} {h' : Heap} {a : Addr} {co co' : CO} (r : Rep cx ⟨S, F⟩ s) (u : Up S a co co' S') (k : Heap.ExtBut a s.heap h') (ho : ORel h' a co')
    (ht : ∀ p ∈ S, p.2.isTab = true → p.1 ≠ a → ORel h' p.1 p.2) (t : Tok) (htk : 0 < t) : Rep cx ⟨S', F⟩ { s with heap := h', toks := t } := by
  refine ⟨r.os, r.gens, htk, by show (S'.map _).Nodup; rw [u.keys]; exact r.nodup, ?_, ?_⟩
  · obtain ⟨B, f, e, n⟩ := r.fz
    have ha : B.get? a = none := n _ u.old
    refine ⟨B, f, fun b o q => k b o (fun z => by subst z; rw [ha] at q; cases q) (e b o q), fun p hp => ?_⟩
    rcases u.mem r.nodup p hp with rfl | ⟨hp, _⟩
    · exact ha
    · exact n p hp
  · intro p hp
    rcases u.mem r.nodup p hp with rfl | ⟨hp, hne⟩
    · exact ho
    · cases hc : p.2.isTab with
      | true => exact ht p hp hc hne
      | false =>
        obtain ⟨o, e⟩ := (r.at_ p hp).there
        exact (r.at_ p hp).local hc ((k _ _ hne e).trans e.symm)
end

noncomputable def CO.mut : CO → Bool
  | .list _ | .cell _ | .ns _ | .iter _ => true
  | _ => false
theorem ORel.notCode {h : Heap} {a : Addr} {co : CO} (x : ORel h a co) (hm : co.mut = true) {o : Obj} (e : h.get? a = some o) : o.cls ≠ .type "code" ∨ ∃ v, o.data = .cell v ∨ ∃ es ep, o.data = .dict es ep := by
  cases co with
  | list => obtain ⟨_, _, q, _⟩ := x; rw [e] at q; cases q; exact .inl (by simp)
  | cell => obtain ⟨_, ⟨o', q, d⟩, _⟩ := x; rw [e] at q; cases q; exact .inr ⟨_, .inl d⟩
  | ns => obtain ⟨_, _, ⟨o', es, ep, q, d, _⟩, _⟩ := x; rw [e] at q; cases q; exact .inr ⟨none, .inr ⟨_, _, d⟩⟩
  | iter => obtain ⟨o', q, c, _⟩ := ItK.there x; rw [e] at q; cases q; exact .inl c
  | _ => cases hm
theorem ORel.notRec {h : Heap} {a : Addr} {co : CO} (x : ORel h a co) (hm : co.mut = true) {o : Obj} (e : h.get? a = some o) {vs : Array Value} (d : o.data = .fields vs) {q : Str} {t : Tok} : vs[1]? ≠ some (.str q t) := by
  cases co with
  | list => obtain ⟨_, _, q, _⟩ := x; rw [e] at q; cases q; cases d
  | cell => obtain ⟨_, ⟨o', q, d'⟩, _⟩ := x; rw [e] at q; cases q; rw [d] at d'; cases d'
  | ns => obtain ⟨_, _, ⟨o', es, ep, q, d', _⟩, _⟩ := x; rw [e] at q; cases q; rw [d] at d'; cases d'
  | iter => obtain ⟨o', q, c, _, d', n⟩ := ItK.there x; rw [e] at q; cases q; rw [d] at d'; cases d'; exact n _ _
  | _ => cases hm
theorem TabOk.but {h h' : Heap} {c P a : Addr} {qs : List (Pos × Str)} {co : CO} (t : TabOk h c P qs) (x : ORel h a co) (hm : co.mut = true) (hP : P ≠ a) (k : Heap.ExtBut a h h') : TabOk h' c P qs := by
  obtain ⟨⟨o, vs, f, tf, fl, tg, b, n, tt, e1, e2, e3, r⟩, ps, g, t, w⟩ := t
  have hc : c ≠ a := fun z => by
    subst z
    rcases ORel.notCode x hm e1 with q | ⟨v, q | ⟨es, ep, q⟩⟩
    · exact q e2
    · rw [e3] at q; cases q
    · rw [e3] at q; cases q
  refine ⟨⟨o, vs, f, tf, fl, tg, b, n, tt, k _ _ hc e1, e2, e3, r⟩, ps, k _ _ hP g, t, fun y hy cv hcv => ?_⟩
  obtain ⟨d, o, vs, t, q1, q2, q3, q4⟩ := w y hy cv hcv
  exact ⟨d, o, vs, t, q1, k _ _ (fun z => by subst z; exact ORel.notRec x hm q2 q3 q4) q2, q3, q4⟩

theorem codeRec_but {h h' : Heap} {a : Addr} {co : CO} {cd : Value} {q : Str} (r : h.CodeRec cd q) (x : ORel h a co) (hm : co.mut = true) (k : Heap.ExtBut a h h') : h'.CodeRec cd q := by
  obtain ⟨d, o, vs, t, q1, q2, q3, q4⟩ := r
  exact ⟨d, o, vs, t, q1, k _ _ (fun z => by subst z; exact ORel.notRec x hm q2 q3 q4) q2, q3, q4⟩
theorem Rep.upm {cx : Cx} {s : Shared} {S S' : List (Addr × CO)} {F : Fz} {h' : Heap} {a : Addr} {co co' : CO} (r : Rep cx ⟨S, F⟩ s) (u : Up S a co co' S') (hm : co.mut = true) (k : Heap.ExtBut a s.heap h') (ho : ORel h' a co') (t : Tok) (htk : 0 < t) :
    Rep cx ⟨S', F⟩ { s with heap := h', toks := t } := r.up u k ho (fun p hp hc hne => by
  obtain ⟨b, c⟩ := p
  cases c with
  | tab c qs => exact TabOk.but (r.at_ _ hp) (r.at_ _ u.old) hm hne k
  | fn mk =>
    obtain ⟨o, pm, cv, ctv, e, c, d, q⟩ := r.at_ _ hp
    exact ⟨o, pm, cv, ctv, k _ _ hne e, c, d, codeRec_but q (r.at_ _ u.old) hm k⟩
  | _ => cases hc) t htk
inductive Del {α : Type} : List α → α → List α → Prop where
  | head {a : α} {r : List α} : Del (a :: r) a r
  | tail {a p : α} {r r' : List α} : Del r a r' → Del (p :: r) a (p :: r')
inductive Pick {α : Type} : List α → List α → Prop where
  | nil {l : List α} : Pick l []
  | cons {a : α} {l l' r : List α} : Del l a l' → Pick l' r → Pick l (a :: r)
theorem Del.perm {α : Type} {l l' : List α} {a : α} (d : Del l a l') : l.Perm (a :: l') := by
  induction d with
  | head => exact .refl _
  | tail _ ih => exact (List.Perm.cons _ ih).trans (List.Perm.swap ..)
theorem Pick.subperm {α : Type} {l r : List α} (p : Pick l r) : ∃ z, l.Perm (r ++ z) := by
  induction p with
  | nil => exact ⟨_, .refl _⟩
  | cons d _ ih =>
    obtain ⟨z, hz⟩ := ih
    exact ⟨z, d.perm.trans (List.Perm.cons _ hz)⟩
theorem Pick.skip {α : Type} {l r : List α} {p : α} (h : Pick l r) : Pick (p :: l) r := by
  induction h generalizing p with
  | nil => exact .nil
  | cons d _ ih => exact .cons (.tail d) ih
theorem Del.pick {α : Type} {l r : List α} {a : α} (d : Del l a r) : Pick l r := by
  induction d with
  | @head a r => exact .skip (by
      induction r with
      | nil => exact .nil
      | cons _ _ ih => exact .cons .head ih)
  | tail _ ih => exact .cons .head ih
theorem Pick.refl {α : Type} : ∀ (l : List α), Pick l l
  | [] => .nil
  | _ :: r => .cons .head (Pick.refl r)
theorem Rep.weak {cx : Cx} {S S' : List (Addr × CO)} {F F' : Fz} {s : Shared} (r : Rep cx ⟨S, F⟩ s) (h : Pick S S') (hf : ∀ h, F.p h → F'.p h) : Rep cx ⟨S', F'⟩ s := by
  obtain ⟨z, hz⟩ := h.subperm
  have hm : ∀ p ∈ S', p ∈ S := fun p hp => hz.mem_iff.mpr (List.mem_append_left _ hp)
  refine ⟨r.os, r.gens, r.pos, ?_, ?_, fun p hp => r.at_ p (hm p hp)⟩
  · have h1 := (hz.map (·.1)).nodup_iff.mp r.nodup
    rw [List.map_append] at h1
    exact (List.nodup_append.mp h1).1
  · obtain ⟨B, f, e, n⟩ := r.fz
    exact ⟨B, hf _ f, e, fun p hp => n p (hm p hp)⟩

noncomputable def Fz.true : Fz := ⟨fun _ => True, fun _ _ => trivial⟩
noncomputable def Fz.and (F G : Fz) : Fz := ⟨fun h => F.p h ∧ G.p h, fun k x => ⟨F.mono k x.1, G.mono k x.2⟩⟩
noncomputable def Fz.obj (a : Addr) (co : CO) : Fz := ⟨fun h => ORel h a co, fun k x => x.ext k⟩
theorem Rep.freeze {cx : Cx} {S S' : List (Addr × CO)} {F : Fz} {a : Addr} {co : CO} {s : Shared} (r : Rep cx ⟨S, F⟩ s) (d : Del S (a, co) S') (hc : co.isTab = false) : Rep cx ⟨S', F.and (.obj a co)⟩ s := by
  have hn := (d.perm.map (·.1)).nodup_iff.mp r.nodup
  rw [List.map_cons, List.nodup_cons] at hn
  have hm : ∀ p ∈ S', p ∈ S := fun p hp => d.perm.mem_iff.mpr (.tail _ hp)
  have ha : (a, co) ∈ S := d.perm.mem_iff.mpr (.head _)
  refine ⟨r.os, r.gens, r.pos, hn.2, ?_, fun p hp => r.at_ p (hm p hp)⟩
  obtain ⟨B, f, e, n⟩ := r.fz
  have keep : ∀ b o, s.heap.get? b = some o → b ∉ S'.map (·.1) → (hideAll s.heap (S'.map (·.1))).get? b = some o := fun b o => hideAll_get _
  refine ⟨hideAll s.heap (S'.map (·.1)), ⟨F.mono (fun b o q => keep b o (e b o q) fun hb => ?_) f, ?_⟩, fun b o q => of_hideAll _ q, fun p hp => hideAll_none _ (List.mem_map_of_mem hp)⟩
  · obtain ⟨p, hp, rfl⟩ := List.mem_map.mp hb
    rw [n p (hm p hp)] at q; cases q
  · obtain ⟨o, q⟩ := (r.at_ _ ha).there
    exact (r.at_ _ ha).local hc ((keep a o q hn.1).trans q.symm)
noncomputable def CW (cx : Cx) (A : Around) {α : Type} (t : Sem α) (Q : α → CS → Prop) (σ : CS) : Prop :=
  ∀ s, Rep cx σ s → wpAny (model cx.prog cx.w) A t (fun v s' => ∃ σ', Rep cx σ' s' ∧ Q v σ') (fun _ _ => False) s
noncomputable def CV (cx : Cx) (A : Around) (t : Sem Value) (Q : Value → CS → Prop) (σ : CS) : Prop := CW cx A t (fun v σ' => Q (nv v) σ') σ
noncomputable def CF (cx : Cx) (A : Around) (t : Sem Flow) (Q : Flow → CS → Prop) (σ : CS) : Prop := CW cx A t (fun f σ' => Q (nf f) σ') σ
noncomputable def CB (cx : Cx) (A : Around) (t : Sem Bool) (Q : Bool → CS → Prop) (σ : CS) : Prop := CW cx A t Q σ
noncomputable def CU (cx : Cx) (A : Around) (t : Sem Unit) (Q : CS → Prop) (σ : CS) : Prop := CW cx A t (fun _ => Q) σ
noncomputable def CL (cx : Cx) (A : Around) (t : Sem (List Value)) (Q : List Value → CS → Prop) (σ : CS) : Prop := CW cx A t (fun vs σ' => Q (vs.map nv) σ') σ

section
variable {cx : Cx} {A : Around} {α β : Type} {σ : CS}
theorem CW.mono {t : Sem α} {Q Q' : α → CS → Prop} (h : CW cx A t Q σ) (k : ∀ a σ', Q a σ' → Q' a σ') : CW cx A t Q' σ :=
  fun s r => wpAny_mono (h s r) (fun v _ ⟨σ', r', q⟩ => ⟨σ', r', k v σ' q⟩) fun _ _ x => x
theorem CW.weak {t : Sem α} {Q : α → CS → Prop} {S S' : List (Addr × CO)} {F F' : Fz} (h : CW cx A t Q ⟨S', F'⟩) (p : Pick S S') (hf : ∀ h, F.p h → F'.p h) : CW cx A t Q ⟨S, F⟩ :=
  fun s r => h s (r.weak p hf)
theorem CW.freeze {t : Sem α} {Q : α → CS → Prop} {S S' : List (Addr × CO)} {F : Fz} {a : Addr} {co : CO} (h : CW cx A t Q ⟨S', F.and (.obj a co)⟩) (d : Del S (a, co) S') (hc : co.isTab = false) : CW cx A t Q ⟨S, F⟩ :=
  fun s r => h s (r.freeze d hc)
end

theorem leaf {cx : Cx} {A : Around} {α : Type} {t : Sem α} {P : α → Shared → Prop} {s : Shared} (hp : 0 < s.toks)
    (h : wpAny (model cx.prog cx.w) A t (fun v s' => 0 < s'.toks → P v s') (fun _ _ => False) s) : wpAny (model cx.prog cx.w) A t P (fun _ _ => False) s :=
  wpAny_with_toks (n := 1) hp (wpAny_mono h (fun _ _ x => x) fun _ _ x => x.elim)
inductive Sees (σ : CS) (a : Addr) (co : CO) : Prop where
  | own : (a, co) ∈ σ.S → Sees σ a co
  | frozen : (∀ h, σ.F.p h → ORel h a co) → Sees σ a co
theorem Sees.get {cx : Cx} {σ : CS} {a : Addr} {co : CO} {s : Shared} (x : Sees σ a co) (r : Rep cx σ s) : ORel s.heap a co := by
  cases x with
  | own h => exact r.at_ _ h
  | frozen h => obtain ⟨B, f, e, _⟩ := r.fz; exact (h B f).ext e
structure Room (A : Around) (n : Nat) : Prop where
  d : A.depth + n < 900
  u : A.units + 100 * n < 9000
  hh : A.handled = none
theorem Room.mono {A : Around} {n k : Nat} (r : Room A n) (h : k ≤ n) : Room A k := ⟨by have := r.d; omega, by have := r.u; omega, r.hh⟩
theorem Room.deeper {A : Around} {n : Nat} {env : Env} (r : Room A (n + 1)) : Room (A.deeper env) n :=
  ⟨by have := r.d; show A.depth + 1 + n < 900; omega, by have := r.u; show A.units + 3 + 100 * n < 9000; omega, r.hh⟩
theorem Room.in1 {A : Around} {n : Nat} (r : Room A (n + 1)) : Room A.in1 n :=
  ⟨by have := r.d; show A.depth + n < 900; omega, by have := r.u; show A.units + 1 + 100 * n < 9000; omega, r.hh⟩
end Mine
end

section
set_option Elab.async false
namespace Mine

section
variable {cx : Cx} {A : Around} {σ : CS} {env : Env}

noncomputable def Op2 (cx : Cx) (A : Around) (f : Value → Value → Sem Value) (a b : Value) (Q : Value → CS → Prop) (σ : CS) : Prop :=
  ∀ v w, nv v = a → nv w = b → CV cx A (f v w) Q σ
noncomputable def Op1 (cx : Cx) (A : Around) (f : Value → Sem Value) (a : Value) (Q : Value → CS → Prop) (σ : CS) : Prop := ∀ v, nv v = a → CV cx A (f v) Q σ
noncomputable def Tr1 (cx : Cx) (A : Around) (a : Value) (Q : Bool → CS → Prop) (σ : CS) : Prop := ∀ v, nv v = a → CB cx A (truthy v) Q σ

theorem cv_int {i : Int} {k : Nat} {pos : Pos} {Q : Value → CS → Prop} (h : Q (In i) σ) : CV cx A (eval (.Constant (.int i) k pos) env) Q σ :=
  fun _ r => wpAny_Constant_int ⟨σ, r.tok _ (Nat.succ_pos _), h⟩
theorem cv_str {x : Str} {k : Nat} {pos : Pos} {Q : Value → CS → Prop} (h : Q (.str x 0) σ) : CV cx A (eval (.Constant (.str x) k pos) env) Q σ :=
  fun _ r => Calls.Constant_str ⟨σ, r.tok _ (Nat.succ_pos _), h⟩
theorem cv_bool {b : Bool} {k : Nat} {pos : Pos} {Q : Value → CS → Prop} (h : Q (.bool b) σ) : CV cx A (eval (.Constant (.bool b) k pos) env) Q σ :=
  fun _ r => wpAny_Constant_bool ⟨σ, r, h⟩
theorem cv_local {x : Str} {pos : Pos} {L : Addr} {m : List (Str × Option Value)} {v : Value} {Q : Value → CS → Prop} (h : Q v σ)
    (hL : (L, CO.ns m) ∈ σ.S) (hx : (x, some v) ∈ m) (hl : env.locals = L) (hk : env.scope.kind = .function) (ho : env.kindOf x = some .local) (hd : (x == ("__debug__" : Str)) = false) :
    CV cx A (eval (.Name x pos) env) Q σ := fun s r => by
  obtain ⟨_, m', hn, hm⟩ := r.at_ _ hL
  have e := hm _ hx
  obtain ⟨v', e1, e2⟩ := Option.map_eq_some_iff.mp e
  exact wpAny_Name (wpAny_loadName_local hk ho (hl ▸ hn) e1 ⟨σ, r, by subst e2; exact h⟩) hd
theorem cv_cell {x : Str} {pos : Pos} {c : Addr} {v : Value} {Q : Value → CS → Prop} (h : Q v σ)
    (hc : Sees σ c (.cell (some v))) (hx : env.cells.lookup x = some c) (hk : env.scope.kind = .function) (ho : env.kindOf x = some .cell) (hd : (x == ("__debug__" : Str)) = false) :
    CV cx A (eval (.Name x pos) env) Q σ := fun s r => by
  obtain ⟨v', hn, hm⟩ := hc.get r
  obtain ⟨v₁, e1, e2⟩ := Option.map_eq_some_iff.mp hm
  subst e1
  exact wpAny_Name (wpAny_loadName_cell hk ho hx hn ⟨σ, r, by subst e2; exact h⟩) hd
theorem cv_free {x : Str} {pos : Pos} {c : Addr} {v : Value} {Q : Value → CS → Prop} (h : Q v σ)
    (hc : Sees σ c (.cell (some v))) (hx : env.cells.lookup x = some c) (hk : env.scope.kind = .function) (ho : env.kindOf x = some .free) (hd : (x == ("__debug__" : Str)) = false) (hq : (x == ("__classdict__" : Str)) = false) :
    CV cx A (eval (.Name x pos) env) Q σ := fun s r => by
  obtain ⟨v', hn, hm⟩ := hc.get r
  obtain ⟨v₁, e1, e2⟩ := Option.map_eq_some_iff.mp hm
  subst e1
  exact wpAny_Name (wpAny_loadName_free hk ho hx hn ⟨σ, r, by subst e2; exact h⟩ hq) hd
noncomputable def Fz.top (p : Program) (loose : List Str) (K : Frag) : Fz :=
  ⟨fun h => K.In h ∧ ∃ mg mb, TopRead p loose mg mb h, fun k x => ⟨x.1.keeps k, let ⟨mg, mb, t⟩ := x.2; ⟨mg, mb, t.keeps k⟩⟩⟩
noncomputable abbrev Fz.Le (F G : Fz) : Prop := ∀ h, F.p h → G.p h
theorem Fz.le_and {F G H : Fz} (x : Fz.Le F H) : Fz.Le (F.and G) H := fun h y => x h y.1
theorem Fz.le_and2 {F G H : Fz} (x : Fz.Le G H) : Fz.Le (F.and G) H := fun h y => x h y.2
theorem top_at {p : Program} {loose : List Str} {K : Frag} {s : Shared} (hF : Fz.Le σ.F (Fz.top p loose K)) (r : Rep cx σ s) : K.In s.heap ∧ ∃ mg mb, TopRead p loose mg mb s.heap := by
  obtain ⟨B, f, e, _⟩ := r.fz
  exact (Fz.top p loose K).mono e (hF B f)

theorem cv_global {x : Str} {pos : Pos} {p : Program} {loose : List Str} {K : Frag} {v : Value} {Q : Value → CS → Prop} (h : Q (nv v) σ)
    (hF : Fz.Le σ.F (Fz.top p loose K)) (e : nsIn K mainGlobals x = some (some v)) (hg : env.globals = mainGlobals) (hk : env.scope.kind = .function) (ho : env.kindOf x = some .globalImplicit) (hd : (x == ("__debug__" : Str)) = false) :
    CV cx A (eval (.Name x pos) env) Q σ := fun s r => by
  obtain ⟨X, mg, mb, T⟩ := top_at hF r
  exact Calls.Name_function_global hk ho (Calls.loadGlobal_global (hg ▸ T.g) (mg_of X T.g e) ⟨σ, r, h⟩) hd
theorem cv_builtin {x : Str} {pos : Pos} {p : Program} {loose : List Str} {K : Frag} {v : Value} {Q : Value → CS → Prop} (h : Q (nv v) σ)
    (hF : Fz.Le σ.F (Fz.top p loose K)) (e : nsIn K mainGlobals x = some none) (hv : bootBuiltins x = some v) (hn : x ≠ "__name__")
    (hg : env.globals = mainGlobals) (hb : env.builtins = builtinsNs) (hk : env.scope.kind = .function) (ho : env.kindOf x = some .globalImplicit) (hd : (x == ("__debug__" : Str)) = false) :
    CV cx A (eval (.Name x pos) env) Q σ := fun s r => by
  obtain ⟨X, mg, mb, T⟩ := top_at hF r
  exact Calls.Name_function_global hk ho (Calls.loadGlobal_builtin (hg ▸ T.g) (mg_none_of X T.g e) (hb ▸ T.b) ((T.builtins x hn).trans hv) ⟨σ, r, h⟩) hd

theorem cv_binop {l r : Expr} {op : Operator} {pos : Pos} {Q : Value → CS → Prop}
    (h : CV cx A (eval l env) (fun a σ₁ => CV cx A (eval r env) (fun b σ₂ => Op2 cx A (binaryOp op) a b Q σ₂) σ₁) σ) : CV cx A (eval (.BinOp l op r pos) env) Q σ := fun s R =>
  wpAny_BinOp (wpAny_mono (h s R) (fun a _ ⟨_, R₁, h₁⟩ => wpAny_mono (h₁ _ R₁) (fun b _ ⟨_, R₂, h₂⟩ => h₂ a b rfl rfl _ R₂) fun _ _ x => x) fun _ _ x => x)
theorem cv_unary {x : Expr} {op : UnaryOp} {pos : Pos} {Q : Value → CS → Prop}
    (h : CV cx A (eval x env) (fun a σ₁ => Op1 cx A (unaryOp op) a Q σ₁) σ) : CV cx A (eval (.UnaryOp op x pos) env) Q σ := fun s R =>
  wpAny_UnaryOp (wpAny_mono (h s R) (fun a _ ⟨_, R₁, h₁⟩ => h₁ a rfl _ R₁) fun _ _ x => x)
theorem cv_compare {l r : Expr} {op : CmpOp} {pos : Pos} {Q : Value → CS → Prop}
    (h : CV cx A (eval l env) (fun a σ₁ => CV cx A (eval r env) (fun b σ₂ => Op2 cx A (compareOp op) a b Q σ₂) σ₁) σ) (hm : behindInMarks op r = false) :
    CV cx A (eval (.Compare l [op] [r] pos) env) Q σ := fun s R =>
  wpAny_Compare1 (wpAny_mono (h s R) (fun a _ ⟨_, R₁, h₁⟩ => wpAny_mono (h₁ _ R₁) (fun b _ ⟨_, R₂, h₂⟩ => h₂ a b rfl rfl _ R₂) fun _ _ x => x) fun _ _ x => x) hm
theorem cb_compare {l r : Expr} {op : CmpOp} {pos : Pos} {whole : Sem Value} {Q : Bool → CS → Prop}
    (h : CV cx A (eval l env) (fun a σ₁ => CV cx A (eval r env) (fun b σ₂ => Op2 cx A (compareOp op) a b (fun c σ₃ => Tr1 cx A c Q σ₃) σ₂) σ₁) σ) (hm : behindInMarks op r = false) :
    CB cx A (isTrue (.Compare l [op] [r] pos) env whole) Q σ := fun s R =>
  wpAny_isTrue_Compare1 (wpAny_mono (h s R) (fun a _ ⟨_, R₁, h₁⟩ => wpAny_mono (h₁ _ R₁) (fun b _ ⟨_, R₂, h₂⟩ => wpAny_mono (h₂ a b rfl rfl _ R₂) (fun c _ ⟨_, R₃, h₃⟩ => h₃ c rfl _ R₃) fun _ _ x => x)
    fun _ _ x => x) fun _ _ x => x) hm
theorem cb_not {x : Expr} {pos : Pos} {whole : Sem Value} {Q : Bool → CS → Prop} (h : CB cx A (isTrue x env (eval x env)) (fun b => Q (!b)) σ) :
    CB cx A (isTrue (.UnaryOp .Not x pos) env whole) Q σ := fun s R => wpAny_isTrue_Not (h s R)
noncomputable def AllT (cx : Cx) (A : Around) (env : Env) (op : BoolOp) (es : List Expr) (Q : Bool → CS → Prop) (σ : CS) : Prop := CB cx A (allTrue op es env) Q σ
theorem cb_boolop {op : BoolOp} {values : List Expr} {pos : Pos} {whole : Sem Value} {Q : Bool → CS → Prop} (h : AllT cx A env op values Q σ) :
    CB cx A (isTrue (.BoolOp op values pos) env whole) Q σ := fun s R => wpAny_isTrue_BoolOp (h s R)
theorem allT_or_cons {x : Expr} {rest : List Expr} {Q : Bool → CS → Prop} (h : CB cx A (isTrue x env (eval x env)) (fun b σ₁ => if b then Q true σ₁ else AllT cx A env .Or rest Q σ₁) σ) :
    AllT cx A env .Or (x :: rest) Q σ := fun s R => wpAny_allTrue_Or_cons (wpAny_mono (h s R) (fun b s₁ ⟨σ₁, R₁, h₁⟩ => by
      cases b with
      | true => exact ⟨σ₁, R₁, h₁⟩
      | false => exact h₁ _ R₁) fun _ _ x => x)
theorem allT_or_nil {Q : Bool → CS → Prop} (h : Q false σ) : AllT cx A env .Or [] Q σ := fun _ R => wpAny_allTrue_Or_nil ⟨σ, R, h⟩
theorem allT_and_cons {x : Expr} {rest : List Expr} {Q : Bool → CS → Prop} (h : CB cx A (isTrue x env (eval x env)) (fun b σ₁ => if b then AllT cx A env .And rest Q σ₁ else Q false σ₁) σ) :
    AllT cx A env .And (x :: rest) Q σ := fun s R => wpAny_allTrue_And_cons (wpAny_mono (h s R) (fun b s₁ ⟨σ₁, R₁, h₁⟩ => by
      cases b with
      | true => exact h₁ _ R₁
      | false => exact ⟨σ₁, R₁, h₁⟩) fun _ _ x => x)
theorem allT_and_nil {Q : Bool → CS → Prop} (h : Q true σ) : AllT cx A env .And [] Q σ := fun _ R => wpAny_allTrue_And_nil ⟨σ, R, h⟩
theorem cb_plain {e : Expr} {whole : Sem Value} {Q : Bool → CS → Prop} (h : CV cx A whole (fun v σ₁ => Tr1 cx A v Q σ₁) σ)
    (he : isTrue e env whole = (do let v ← whole; standAt e.pos; holding [v] (truthy v))) : CB cx A (isTrue e env whole) Q σ := fun s R =>
  wpAny_isTrue_value (wpAny_mono (h s R) (fun v _ ⟨_, R₁, h₁⟩ => h₁ v rfl _ R₁) fun _ _ x => x) he
theorem cv_ifexp {test body orelse : Expr} {pos : Pos} {Q : Value → CS → Prop}
    (h : CB cx A (isTrue test env (eval test env)) (fun b σ₁ => if b then CV cx A (eval body env) Q σ₁ else CV cx A (eval orelse env) Q σ₁) σ) :
    CV cx A (eval (.IfExp test body orelse pos) env) Q σ := fun s R => wpAny_IfExp (wpAny_mono (h s R) (fun b _ ⟨_, R₁, h₁⟩ => by
      cases b with
      | true => exact h₁ _ R₁
      | false => exact h₁ _ R₁) fun _ _ x => x)
theorem cv_or2 {x y : Expr} {pos : Pos} {Q : Value → CS → Prop}
    (h : CV cx A (eval x env) (fun v σ₁ => Tr1 cx A v (fun t σ₂ => if t then Q v σ₂ else CV cx A (eval y env) Q σ₂) σ₁) σ) :
    CV cx A (eval (.BoolOp .Or [x, y] pos) env) Q σ := fun s R => wpAny_Or2 (wpAny_mono (h s R) (fun v _ ⟨_, R₁, h₁⟩ => wpAny_mono (h₁ v rfl _ R₁) (fun t _ ⟨σ₂, R₂, h₂⟩ => by
      cases t with
      | true => exact ⟨σ₂, R₂, h₂⟩
      | false => exact h₂ _ R₂) fun _ _ x => x) fun _ _ x => x)
theorem cb_ite {b : Bool} {Q R : Prop} (h1 : b = true → Q) (h2 : b = false → R) : if b then Q else R := by cases b with | true => exact h1 rfl | false => exact h2 rfl

-- statements
noncomputable def Then (cx : Cx) (A : Around) (rest : List Stmt) (env : Env) (Q : Flow → CS → Prop) (f : Flow) (σ : CS) : Prop := match f with
  | .next => CF cx A (execs rest env) Q σ
  | f => Q f σ
theorem then_next {rest : List Stmt} {Q : Flow → CS → Prop} (h : CF cx A (execs rest env) Q σ) : Then cx A rest env Q .next σ := h
theorem then_ret {rest : List Stmt} {Q : Flow → CS → Prop} {v : Value} (h : Q (.ret v) σ) : Then cx A rest env Q (.ret v) σ := h
theorem then_brk {rest : List Stmt} {Q : Flow → CS → Prop} (h : Q .brk σ) : Then cx A rest env Q .brk σ := h
theorem cf_nil {Q : Flow → CS → Prop} (h : Q .next σ) : CF cx A (execs [] env) Q σ := fun _ R => wpAny_execs_nil ⟨σ, R, h⟩
theorem cf_cons {st : Stmt} {rest : List Stmt} {Q : Flow → CS → Prop} (h : CF cx A (exec st env) (Then cx A rest env Q) σ) : CF cx A (execs (st :: rest) env) Q σ := fun s R =>
  wpAny_execs_cons (wpAny_mono (h s R) (fun f _ ⟨σ₁, R₁, h₁⟩ => by
    cases f with
    | next => exact h₁ _ R₁
    | _ => exact ⟨σ₁, R₁, h₁⟩) fun _ _ x => x)
noncomputable def Store (cx : Cx) (A : Around) (env : Env) (x : Str) (v : Value) (Q : CS → Prop) (σ : CS) : Prop := ∀ v', nv v' = v → CU cx A (storeName env x v') Q σ
theorem cf_assign {x : Str} {pos' pos : Pos} {value : Expr} {Q : Flow → CS → Prop} (h : CV cx A (eval value env) (fun v σ₁ => Store cx A env x v (fun σ₂ => Q .next σ₂) σ₁) σ)
    (hs : swapsWith value (some (.Name x pos')) pos.line env = pure false) : CF cx A (exec (.Assign [.Name x pos'] value pos) env) Q σ := fun s R =>
  wpAny_Assign_Name (wpAny_mono (h s R) (fun v _ ⟨_, R₁, h₁⟩ => wpAny_mono (h₁ v rfl _ R₁) (fun _ _ ⟨σ₂, R₂, h₂⟩ => ⟨σ₂, R₂, h₂⟩) fun _ _ x => x) fun _ _ x => x) hs
theorem store_local {x : Str} {v : Value} {L : Addr} {m m' : List (Str × Option Value)} {o : Option Value} {S S' : List (Addr × CO)} {F : Fz} {Q : CS → Prop} (h : Q ⟨S', F⟩)
    (hm : Up m x o (some v) m') (hS : Up S L (.ns m) (.ns m') S') (hl : env.locals = L) (hk : env.scope.kind = .function) (ho : env.kindOf x = some .local) :
    Store cx A env x v Q ⟨S, F⟩ := fun v' hv s R => by
  obtain ⟨hn, m₁, hns, hmm⟩ := R.at_ _ hS.old
  refine wpAny_storeName_local ho (hl ▸ hns) (fun h' hns' hsb => ?_) (by rw [hk]; rfl)
  subst hl
  refine ⟨⟨S', F⟩, R.upm hS rfl hsb.extBut ⟨by rw [hm.keys]; exact hn, _, hns', fun p hp => ?_⟩ _ (Nat.succ_pos _), h⟩
  rcases hm.mem hn p hp with rfl | ⟨hp, hne⟩
  · simp [hv]
  · rw [if_neg hne]; exact hmm p hp
theorem store_cell {x : Str} {v : Value} {c : Addr} {o : Option Value} {S S' : List (Addr × CO)} {F : Fz} {Q : CS → Prop} (h : Q ⟨S', F⟩)
    (hS : Up S c (.cell o) (.cell (some v)) S') (hx : env.cells.lookup x = some c) (hk : env.scope.kind = .function) (ho : env.kindOf x = some .cell) :
    Store cx A env x v Q ⟨S, F⟩ := fun v' hv s R => by
  obtain ⟨v₀, hc, _⟩ := R.at_ _ hS.old
  exact wpAny_storeName_cell hk ho hx hc fun h' hc' hsb => ⟨⟨S', F⟩, R.upm hS rfl hsb.extBut ⟨_, hc', by simp [hv]⟩ s.toks R.pos, h⟩
end
end Mine
end

section
set_option Elab.async false
namespace Mine

section
variable {cx : Cx} {A : Around} {σ : CS} {env : Env}

theorem op_add_int {a b : Int} {Q : Value → CS → Prop} (h : Q (In (a + b)) σ) : Op2 cx A (binaryOp .Add) (In a) (In b) Q σ := fun v w hv hw s R => by
  obtain ⟨t, rfl⟩ := nv_int hv; obtain ⟨u, rfl⟩ := nv_int hw
  exact PyProof.Rows.add_int ⟨σ, R.tok _ (Nat.succ_pos _), h⟩
theorem op_sub_int {a b : Int} {Q : Value → CS → Prop} (h : Q (In (a - b)) σ) : Op2 cx A (binaryOp .Sub) (In a) (In b) Q σ := fun v w hv hw s R => by
  obtain ⟨t, rfl⟩ := nv_int hv; obtain ⟨u, rfl⟩ := nv_int hw
  exact PyProof.Rows.sub_int ⟨σ, R.tok _ (Nat.succ_pos _), h⟩
theorem op_mod_int {a b : Int} {Q : Value → CS → Prop} (hb : 0 < b) (h : Q (In (a % b)) σ) : Op2 cx A (binaryOp .Mod) (In a) (In b) Q σ := fun v w hv hw s R => by
  obtain ⟨t, rfl⟩ := nv_int hv; obtain ⟨u, rfl⟩ := nv_int hw
  refine PyProof.Rows.mod_int (by omega) ⟨σ, R.tok _ (Nat.succ_pos _), ?_⟩
  rw [Int.fmod_eq_emod_of_nonneg _ (Int.le_of_lt hb)]; exact h
theorem smallDiv {a b : Int} (hb : 0 < b) (h : b < 1000000) : Builtin.divisionGoesByPylong a b = false := by
  unfold Builtin.divisionGoesByPylong
  have hl : b.natAbs.log2 < 20 := (Nat.log2_lt (by omega)).mpr (by omega)
  have hne : (b == 0) = false := by rw [beq_eq_false_iff_ne]; omega
  simp only [hne, Bool.false_eq_true, if_false, Bool.and_eq_false_iff, decide_eq_false_iff_not]
  left; omega
theorem op_div_int {a b : Int} {Q : Value → CS → Prop} (hb : 0 < b) (hb2 : b < 1000000) (h : Q (In (a / b)) σ) : Op2 cx A (binaryOp .FloorDiv) (In a) (In b) Q σ := fun v w hv hw s R => by
  obtain ⟨t, rfl⟩ := nv_int hv; obtain ⟨u, rfl⟩ := nv_int hw
  refine PyProof.Rows.floordiv_int (by omega) ⟨σ, R.tok _ (Nat.succ_pos _), ?_⟩ (.inl (smallDiv hb hb2))
  rw [Int.fdiv_eq_ediv_of_nonneg _ (Int.le_of_lt hb)]; exact h
theorem op_pow_int {a n : Int} {Q : Value → CS → Prop} (hn : 0 ≤ n) (hsz : (Builtin.Int.intBits a : Int) * n ≤ 2 ^ 27) (h : Q (In (a ^ n.toNat)) σ) : Op2 cx A (binaryOp .Pow) (In a) (In n) Q σ := fun v w hv hw s R => by
  obtain ⟨t, rfl⟩ := nv_int hv; obtain ⟨u, rfl⟩ := nv_int hw
  exact PyProof.Rows.pow_int hn hsz ⟨σ, R.tok _ (Nat.succ_pos _), h⟩

theorem str_append (x y : List Nat) : (⟨x.toArray⟩ : Str) ++ (⟨y.toArray⟩ : Str) = ⟨(x ++ y).toArray⟩ := by
  show Str.append _ _ = _
  simp [Str.append]
theorem op_add_str {x y : List Nat} {Q : Value → CS → Prop} (hs : x.length + y.length ≤ 16777216) (h : Q (St (x ++ y)) σ) : Op2 cx A (binaryOp .Add) (St x) (St y) Q σ := fun v w hv hw s R => by
  obtain ⟨t, rfl⟩ := nv_str hv; obtain ⟨u, rfl⟩ := nv_str hw
  refine leaf R.pos (PyProof.Rows.add_str (fun t' tk hp => ⟨σ, R.tok _ hp, ?_⟩) (by simpa [Str.length, sizeLine] using hs))
  rw [str_append]; exact h
theorem iop_add_str {x y : List Nat} {Q : Value → CS → Prop} (hs : x.length + y.length ≤ 16777216) (h : Q (St (x ++ y)) σ) : Op2 cx A (inplaceOp .Add) (St x) (St y) Q σ := fun v w hv hw s R => by
  obtain ⟨t, rfl⟩ := nv_str hv; obtain ⟨u, rfl⟩ := nv_str hw
  refine leaf R.pos (PyProof.Rows.iadd_str (fun t' tk hp => ⟨σ, R.tok _ hp, ?_⟩) (by simpa [Str.length, sizeLine] using hs))
  rw [str_append]; exact h
theorem iop_add_int {a b : Int} {Q : Value → CS → Prop} (h : Q (In (a + b)) σ) : Op2 cx A (inplaceOp .Add) (In a) (In b) Q σ := fun v w hv hw s R => by
  obtain ⟨t, rfl⟩ := nv_int hv; obtain ⟨u, rfl⟩ := nv_int hw
  exact wpAny_iadd_int ⟨σ, R.tok _ (Nat.succ_pos _), h⟩

theorem op_eq_int {a b : Int} {Q : Value → CS → Prop} (h : Q (.bool (decide (a = b))) σ) : Op2 cx A (compareOp .Eq) (In a) (In b) Q σ := fun v w hv hw s R => by
  obtain ⟨t, rfl⟩ := nv_int hv; obtain ⟨u, rfl⟩ := nv_int hw
  exact PyProof.Rows.eq_int ⟨σ, R, h⟩
theorem op_lt_int {a b : Int} {Q : Value → CS → Prop} (h : Q (.bool (decide (a < b))) σ) : Op2 cx A (compareOp .Lt) (In a) (In b) Q σ := fun v w hv hw s R => by
  obtain ⟨t, rfl⟩ := nv_int hv; obtain ⟨u, rfl⟩ := nv_int hw
  exact PyProof.Rows.lt_int ⟨σ, R, h⟩
theorem op_gt_int {a b : Int} {Q : Value → CS → Prop} (h : Q (.bool (decide (b < a))) σ) : Op2 cx A (compareOp .Gt) (In a) (In b) Q σ := fun v w hv hw s R => by
  obtain ⟨t, rfl⟩ := nv_int hv; obtain ⟨u, rfl⟩ := nv_int hw
  exact PyProof.Rows.gt_int ⟨σ, R, h⟩
theorem op_ge_int {a b : Int} {Q : Value → CS → Prop} (h : Q (.bool (decide (b ≤ a))) σ) : Op2 cx A (compareOp .GtE) (In a) (In b) Q σ := fun v w hv hw s R => by
  obtain ⟨t, rfl⟩ := nv_int hv; obtain ⟨u, rfl⟩ := nv_int hw
  exact PyProof.Rows.ge_int ⟨σ, R, h⟩
theorem op_eq_str {x y : List Nat} {Q : Value → CS → Prop} (h : Q (.bool (decide (x = y))) σ) : Op2 cx A (compareOp .Eq) (St x) (St y) Q σ := fun v w hv hw s R => by
  obtain ⟨t, rfl⟩ := nv_str hv; obtain ⟨u, rfl⟩ := nv_str hw
  refine PyProof.Rows.eq_str ⟨σ, R, ?_⟩
  rw [← toList_beq]
  have e : (x == y) = decide (x = y) := by by_cases q : x = y <;> simp [q]
  show Q (.bool (x == y)) σ
  rw [e]; exact h
theorem op_ne_str {x y : List Nat} {Q : Value → CS → Prop} (h : Q (.bool (decide (x ≠ y))) σ) : Op2 cx A (compareOp .NotEq) (St x) (St y) Q σ := fun v w hv hw s R => by
  obtain ⟨t, rfl⟩ := nv_str hv; obtain ⟨u, rfl⟩ := nv_str hw
  refine PyProof.Rows.ne_str ⟨σ, R, ?_⟩
  rw [← toList_bne]
  have e : (x != y) = decide (x ≠ y) := by by_cases q : x = y <;> simp [q]
  show Q (.bool (x != y)) σ
  rw [e]; exact h
theorem op_gt_str {x y : List Nat} {Q : Value → CS → Prop} (h : Q (.bool (decide (y < x))) σ) : Op2 cx A (compareOp .Gt) (St x) (St y) Q σ := fun v w hv hw s R => by
  obtain ⟨t, rfl⟩ := nv_str hv; obtain ⟨u, rfl⟩ := nv_str hw
  exact P.gt_str ⟨σ, R, h⟩
theorem op_le_str {x y : List Nat} {Q : Value → CS → Prop} (h : Q (.bool (!decide (y < x))) σ) : Op2 cx A (compareOp .LtE) (St x) (St y) Q σ := fun v w hv hw s R => by
  obtain ⟨t, rfl⟩ := nv_str hv; obtain ⟨u, rfl⟩ := nv_str hw
  exact P.le_str ⟨σ, R, h⟩
theorem op_eq_bool {a b : Bool} {Q : Value → CS → Prop} (h : Q (.bool (a == b)) σ) : Op2 cx A (compareOp .Eq) (.bool a) (.bool b) Q σ := fun v w hv hw s R => by
  obtain rfl := nv_bool hv; obtain rfl := nv_bool hw
  exact PyProof.Rows.eq_bool ⟨σ, R, h⟩
theorem op_ne_bool {a b : Bool} {Q : Value → CS → Prop} (h : Q (.bool (a != b)) σ) : Op2 cx A (compareOp .NotEq) (.bool a) (.bool b) Q σ := fun v w hv hw s R => by
  obtain rfl := nv_bool hv; obtain rfl := nv_bool hw
  exact PyProof.Rows.ne_bool ⟨σ, R, h⟩

-- truth
theorem tr_bool {b : Bool} {Q : Bool → CS → Prop} (h : Q b σ) : Tr1 cx A (.bool b) Q σ := fun v hv s R => by
  obtain rfl := nv_bool hv; exact wpAny_truthy_bool ⟨σ, R, h⟩
theorem tr_str {x : List Nat} {Q : Bool → CS → Prop} (hs : x.length ≤ 16777216) (h : Q (decide (x ≠ [])) σ) : Tr1 cx A (St x) Q σ := fun v hv s R => by
  obtain ⟨t, rfl⟩ := nv_str hv
  refine P.truthy_str (by simp [Str.length]; omega) ⟨σ, R.tok _ (Nat.succ_pos _), ?_⟩
  have e : (((⟨x.toArray⟩ : Str).length : Int) != 0) = decide (x ≠ []) := by cases x <;> simp [Str.length]; omega
  rw [e]; exact h
theorem ORel.plain {h : Heap} {a : Addr} {vs : List Value} (x : ORel h a (.list vs)) : ∃ (xs : List Value) (n : Nat), h.get? a = some (seqObj "list" xs.toArray n) ∧ xs.map nv = vs := by
  obtain ⟨xs, n, e, m⟩ := x
  exact ⟨xs.toList, n, by simpa using e, m⟩
theorem ORel.plainT {h : Heap} {a : Addr} {vs : List Value} (x : ORel h a (.tuple vs)) : ∃ (xs : List Value) (n : Nat), h.get? a = some (seqObj "tuple" xs.toArray n) ∧ xs.map nv = vs := by
  obtain ⟨xs, n, e, m⟩ := x
  exact ⟨xs.toList, n, by simpa using e, m⟩
theorem ORel.isList {h : Heap} {a : Addr} {vs : List Value} (x : ORel h a (.list vs)) : ∃ xs : List Value, h.IsList a xs.toArray ∧ xs.map nv = vs := by
  obtain ⟨xs, n, e, m⟩ := x.plain
  exact ⟨xs, ⟨_, e, rfl, n, rfl⟩, m⟩
theorem ORel.isTuple {h : Heap} {a : Addr} {vs : List Value} (x : ORel h a (.tuple vs)) : ∃ xs : List Value, h.IsTuple a xs.toArray ∧ xs.map nv = vs := by
  obtain ⟨xs, n, e, m⟩ := x.plainT
  exact ⟨xs, ⟨_, e, rfl, n, rfl⟩, m⟩
theorem tr_list {a : Addr} {vs : List Value} {Q : Bool → CS → Prop} (ha : Sees σ a (.list vs)) (hs : vs.length ≤ 16777216) (h : Q (decide (vs ≠ [])) σ) : Tr1 cx A (.ref a) Q σ := fun v hv s R => by
  obtain rfl := nv_ref hv
  obtain ⟨xs, hl, rfl⟩ := (ha.get R).isList
  refine wpAny_truthy_list hl (by simp at hs ⊢; omega) ⟨σ, R.tok _ (Nat.succ_pos _), ?_⟩
  have e : (!xs.toArray.isEmpty) = decide (xs.map nv ≠ []) := by cases xs <;> simp
  rw [e]; exact h
end
end Mine
end

section
set_option Elab.async false
namespace Mine

section
variable {cx : Cx} {A : Around} {σ : CS} {env : Env}

noncomputable def Args (cx : Cx) (A : Around) (env : Env) (pos : Pos) (es : List Expr) (Q : List Value → CS → Prop) (σ : CS) : Prop := CL cx A (spliced (backTo pos (starEach es env))) Q σ
theorem args_nil {pos : Pos} {Q : List Value → CS → Prop} (h : Q [] σ) : Args cx A env pos [] Q σ := fun _ R => Calls.spliced_nil ⟨σ, R, h⟩
theorem args_cons {pos : Pos} {e : Expr} {es : List Expr} {Q : List Value → CS → Prop} (h : CV cx A (eval e env) (fun v σ₁ => Args cx A env pos es (fun vs σ₂ => Q (v :: vs) σ₂) σ₁) σ)
    (he : starEach (e :: es) env = (false, eval e env) :: starEach es env) : Args cx A env pos (e :: es) Q σ := fun s R => by
  unfold backTo
  rw [he, List.map_cons]
  exact Calls.spliced_cons (wpAny_mono (h s R) (fun v _ ⟨_, R₁, h₁⟩ => wpAny_mono (h₁ _ R₁) (fun vs _ ⟨σ₂, R₂, h₂⟩ => ⟨σ₂, R₂, h₂⟩) fun _ _ x => x) fun _ _ x => x)

noncomputable def Cal (cx : Cx) (A : Around) (f : Value) (vs : List Value) (Q : Value → CS → Prop) (σ : CS) : Prop := ∀ vs', vs'.map nv = vs → CV cx A (call f vs') Q σ
noncomputable def CWith (cx : Cx) (A : Around) (env : Env) (pos : Pos) (f : Value) (first : List Value) (args : List Expr) (Q : Value → CS → Prop) (σ : CS) : Prop :=
  ∀ f' first', nv f' = f → first'.map nv = first → CV cx A (callWith pos f' first' (backTo pos (starEach args env)) []) Q σ
theorem cv_call {id : Str} {p pos : Pos} {args : List Expr} {Q : Value → CS → Prop} (h : CV cx A (eval (.Name id p) env) (fun f σ₁ => CWith cx A env pos f [] args Q σ₁) σ) :
    CV cx A (eval (.Call (.Name id p) args [] pos) env) Q σ := fun s R =>
  wpAny_Call_NameR (wpAny_mono (h s R) (fun f _ ⟨_, R₁, h₁⟩ => h₁ f [] rfl rfl _ R₁) fun _ _ x => x)

theorem evalArgs_any {M : Model} {E : Value → Shared → Prop} {s : Shared} {f : Value} {pos : Pos} {args : List Expr} {Q : PySem.Args → Shared → Prop} (hp : (starEach args env).all (fun x => !x.1) = true)
    (h : wpAny M A (spliced (backTo pos (starEach args env))) (fun vs s' => Q ⟨vs, []⟩ s') E s) : wpAny M A (evalArgs f true (backTo pos (starEach args env)) []) Q E s := by
  cases e : backTo pos (starEach args env) with
  | nil =>
    rw [e] at h
    unfold evalArgs
    show wpAny M A (spliced [] >>= _) Q E s
    refine wpAny_bind (wpAny_mono h (fun vs s' h' => ?_) fun _ _ x => x)
    refine wpAny_holding ?_
    exact wpAny_bind (wpAny_pure (wpAny_bind (wpAny_pure (wpAny_pure h'))))
  | cons x r =>
    obtain ⟨b, x⟩ := x
    have hb : b = false := by
      cases q : starEach args env with
      | nil => rw [q] at e; cases e
      | cons y z =>
        rw [q] at e hp
        unfold backTo at e
        rw [List.map_cons] at e
        rw [List.all_cons, Bool.and_eq_true] at hp
        have := (List.cons.inj e).1
        rw [← (Prod.mk.inj this).1]
        simpa using hp.1
    subst hb
    rw [e] at h
    exact Calls.evalArgs_plain h
theorem any_of_all {pos : Pos} {args : List Expr} (hp : (starEach args env).all (fun x => !x.1) = true) : (backTo pos (starEach args env)).any (·.1) = false := by
  unfold backTo
  rw [List.any_map, List.any_eq_false]
  intro x hx
  have := List.all_eq_true.mp hp x hx
  simpa using this
theorem cwith_plain {pos : Pos} {f : Value} {first : List Value} {args : List Expr} {Q : Value → CS → Prop} (h : Args cx A env pos args (fun vs σ₂ => Cal cx A f (first ++ vs) Q σ₂) σ)
    (hf : f.isRef = false) (hn : ∀ f', nv f' = f → f' = f) (hp : (starEach args env).all (fun x => !x.1) = true) : CWith cx A env pos f first args Q σ := fun f' first' hf' hfirst s R => by
  obtain rfl := hn f' hf'
  unfold callWith
  refine wpAny_bind (wpAny_holding (evalArgs_any hp (wpAny_mono (h s R) (fun vs s₁ ⟨σ₁, R₁, h₁⟩ => wpAny_bind (wpAny_standAt ?_)) fun _ _ x => x)))
  simp only [any_of_all hp, List.any_nil, Bool.or_false]
  have hk : keeperOf f' = pure .machine := by cases f' <;> first | rfl | cases hf
  rw [hk]
  refine wpAny_bind (wpAny_pure ?_)
  exact wpAny_bind (wpAny_mono (h₁ (first' ++ vs) (by simp [hfirst]) s₁ R₁) (fun r s₂ hr => wpAny_bind (wpAny_holding (wpAny_point (wpAny_pure hr)))) fun _ _ x => x)
theorem cwith_builtin {pos : Pos} {id : String} {first : List Value} {args : List Expr} {Q : Value → CS → Prop} (h : Args cx A env pos args (fun vs σ₂ => Cal cx A (.builtin id) (first ++ vs) Q σ₂) σ)
    (hp : (starEach args env).all (fun x => !x.1) = true) : CWith cx A env pos (.builtin id) first args Q σ := cwith_plain h rfl (fun _ => nv_builtin) hp
theorem cwith_type {pos : Pos} {id : String} {first : List Value} {args : List Expr} {Q : Value → CS → Prop} (h : Args cx A env pos args (fun vs σ₂ => Cal cx A (.type id) (first ++ vs) Q σ₂) σ)
    (hp : (starEach args env).all (fun x => !x.1) = true) : CWith cx A env pos (.type id) first args Q σ := cwith_plain h rfl (fun _ => nv_type) hp
noncomputable def FnAt (cx : Cx) (σ : CS) (a : Addr) : Prop := ∀ s, Rep cx σ s → ∃ o fd, s.heap.get? a = some o ∧ o.data = .func fd
theorem cwith_def {pos : Pos} {a : Addr} {args : List Expr} {Q : Value → CS → Prop} (h : Args cx A env pos args (fun vs σ₂ => FnAt cx σ₂ a ∧ Cal cx A (.ref a) vs Q σ₂) σ)
    (hp : (starEach args env).all (fun x => !x.1) = true) : CWith cx A env pos (.ref a) [] args Q σ := fun f' first' hf' hfirst s R => by
  obtain rfl := nv_ref hf'
  obtain rfl : first' = [] := by simpa using hfirst
  unfold callWith
  refine wpAny_bind (wpAny_holding (evalArgs_any hp (wpAny_mono (h s R) (fun vs s₁ ⟨σ₁, R₁, h₁⟩ => wpAny_bind (wpAny_standAt ?_)) fun _ _ x => x)))
  obtain ⟨o, fd, ho, hd⟩ := h₁.1 s₁ R₁
  simp only [any_of_all hp, List.any_nil, Bool.or_false]
  have tail : ∀ {t : Sem Value}, wpAny (model cx.prog cx.w) A t (fun v s' => ∃ σ', Rep cx σ' s' ∧ Q (nv v) σ') (fun _ _ => False) s₁ →
      wpAny (model cx.prog cx.w) A (t >>= fun r => holding [r] point >>= fun _ => pure r) (fun v s' => ∃ σ', Rep cx σ' s' ∧ Q (nv v) σ') (fun _ _ => False) s₁ :=
    fun ht => wpAny_bind (wpAny_mono ht (fun r s₂ hr => wpAny_bind (wpAny_holding (wpAny_point (wpAny_pure hr)))) fun _ _ x => x)
  have hc := h₁.2 vs rfl s₁ R₁
  refine wpAny_bind (m := keeperOf (.ref a)) ?_
  unfold keeperOf
  refine wpAny_bind (wpAny_load ho ?_)
  rw [hd]
  refine wpAny_pure ?_
  dsimp only
  split
  · exact tail hc
  · exact tail (by unfold callMarked; exact Calls.wpAny_keep hc)
end
end Mine
end

section
set_option Elab.async false
namespace Mine

section
variable {cx : Cx} {A : Around} {σ : CS} {env : Env}

noncomputable def Meth (cx : Cx) (A : Around) (env : Env) (pos : Pos) (name : Str) (ov : Value) (args : List Expr) (Q : Value → CS → Prop) (σ : CS) : Prop :=
  ∀ v s, nv v = ov → Rep cx σ s → MethodOn cx.prog cx.w A name pos v (backTo pos (starEach args env)) (fun v s' => ∃ σ', Rep cx σ' s' ∧ Q (nv v) σ') (fun _ _ => False) s
theorem cv_method {o : Expr} {name : Str} {apos pos : Pos} {args : List Expr} {Q : Value → CS → Prop} (h : CV cx A (eval o env) (fun ov σ₁ => Meth cx A env pos name ov args Q σ₁) σ)
    (hbase : attributeBase o name env (eval o env) = eval o env)
    (hfew : ((backTo pos (starEach args env)).all (fun x => !x.1) && (backToKw pos (keywordEach [] env)).all (fun x => x.1.isSome)
      && decide (args.length + ([] : List Keyword).length + (if ([] : List Keyword).isEmpty then 0 else 1) < 30)) = true)
    (hline : (apos.endLine == pos.line) = true) : CV cx A (eval (.Call (.Attribute o name apos) args [] pos) env) Q σ := fun s R =>
  wpAny_Call_method_late hbase hfew hline rfl (wpAny_mono (h s R) (fun ov s₁ ⟨_, R₁, h₁⟩ => h₁ ov s₁ rfl R₁) fun _ _ x => x)
theorem meth_list {a : Addr} {vs : List Value} {name : Str} {id : String} {pos : Pos} {args : List Expr} {Q : Value → CS → Prop} (h : CWith cx A env pos (.builtin id) [.ref a] args Q σ)
    (ha : Sees σ a (.list vs)) (slot : Slot "list" name id) (hty : typeOf (.builtin id) = pure (.type "method_descriptor")) : Meth cx A env pos name (.ref a) args Q σ := fun v s hv R => by
  obtain rfl := nv_ref hv
  obtain ⟨xs, n, e, _⟩ := (ha.get R).plain
  exact ⟨"list", id, PySem.F.plainAttrs_list, slot, hty, ⟨_, e, rfl⟩, fun a' q => by cases q; exact ⟨_, e, rfl⟩, h _ _ rfl rfl s R⟩
theorem meth_str {x : Str} {name : Str} {id : String} {pos : Pos} {args : List Expr} {Q : Value → CS → Prop} (h : CWith cx A env pos (.builtin id) [.str x 0] args Q σ)
    (slot : Slot "str" name id) (hty : typeOf (.builtin id) = pure (.type "method_descriptor")) : Meth cx A env pos name (.str x 0) args Q σ := fun v s hv R => by
  obtain ⟨t, rfl⟩ := nv_str hv
  exact ⟨"str", id, PySem.F.plainAttrs_str, slot, hty, typeIs_str _ _ _, fun a' q => (by cases q), h _ _ rfl rfl s R⟩

theorem map1 {vs : List Value} {a : Value} (h : vs.map nv = [a]) : ∃ x, vs = [x] ∧ nv x = a := by
  cases vs with
  | nil => cases h
  | cons x r => cases r with
    | nil => simp at h; exact ⟨x, rfl, h⟩
    | cons => simp at h
theorem map2 {vs : List Value} {a b : Value} (h : vs.map nv = [a, b]) : ∃ x y, vs = [x, y] ∧ nv x = a ∧ nv y = b := by
  cases vs with
  | nil => cases h
  | cons x r =>
    rw [List.map_cons] at h
    obtain ⟨h1, h2⟩ := List.cons.inj h
    obtain ⟨y, rfl, e⟩ := map1 h2
    exact ⟨x, y, rfl, h1, e⟩
theorem map3 {vs : List Value} {a b c : Value} (h : vs.map nv = [a, b, c]) : ∃ x y z, vs = [x, y, z] ∧ nv x = a ∧ nv y = b ∧ nv z = c := by
  cases vs with
  | nil => cases h
  | cons x r =>
    rw [List.map_cons] at h
    obtain ⟨h1, h2⟩ := List.cons.inj h
    obtain ⟨y, z, rfl, e⟩ := map2 h2
    exact ⟨x, y, z, rfl, h1, e⟩
theorem map4 {vs : List Value} {a b c d : Value} (h : vs.map nv = [a, b, c, d]) : ∃ x y z w, vs = [x, y, z, w] ∧ nv x = a ∧ nv y = b ∧ nv z = c ∧ nv w = d := by
  cases vs with
  | nil => cases h
  | cons x r =>
    rw [List.map_cons] at h
    obtain ⟨h1, h2⟩ := List.cons.inj h
    obtain ⟨y, z, w, rfl, e⟩ := map3 h2
    exact ⟨x, y, z, w, rfl, h1, e⟩

theorem cal_append {a : Addr} {vs : List Value} {v : Value} {S S' : List (Addr × CO)} {F : Fz} {Q : Value → CS → Prop} (h : Q .none ⟨S', F⟩) (u : Up S a (.list vs) (.list (vs ++ [v])) S') (hs : vs.length ≤ 16777216) :
    Cal cx A (.builtin "list.append") [.ref a, v] Q ⟨S, F⟩ := fun vs' hv s R => by
  obtain ⟨x, y, rfl, e1, e2⟩ := map2 hv
  obtain rfl := nv_ref e1
  obtain ⟨xs, n, e, m⟩ := (R.at_ _ u.old : ORel _ _ _).plain
  refine wpAny_list_append_plain ⟨n, e⟩ (fun h' hp hs' => ⟨⟨S', F⟩, R.upm u rfl hs'.extBut ?_ s.toks R.pos, h⟩) (by rw [List.size_toArray, ← List.length_map (f := nv), m]; exact hs)
  obtain ⟨n', e'⟩ := hp
  exact ⟨_, n', e', by simp [m, e2]⟩
theorem seqIndex_at {i : Int} {n : Nat} (h0 : 0 ≤ i) (h1 : i < n) : seqIndex? i n = some i.toNat := by
  have e : ¬ i < 0 := by omega
  simp only [seqIndex?, if_neg e]
  rw [if_pos (by simp; omega)]
theorem upd_list {h : Heap} {a : Addr} {xs ys : Array Value} {n : Nat} {f : Array Value → Array Value} (e : h.get? a = some (seqObj "list" xs n)) (hf : f xs = ys) :
    ∃ n', (h.update a (Obj.mapSeq f)).get? a = some (seqObj "list" ys n') := by
  subst hf
  exact ⟨_, Heap.get?_update_self _ e rfl⟩
theorem map_eraseIdx {α β : Type} (f : α → β) : ∀ (l : List α) (i : Nat), (l.eraseIdx i).map f = (l.map f).eraseIdx i
  | [], _ => rfl
  | _ :: _, 0 => rfl
  | x :: l, i + 1 => by
    show f x :: (l.eraseIdx i).map f = _
    rw [map_eraseIdx f l i]; rfl
theorem cal_pop_at {a : Addr} {vs : List Value} {i : Int} {y : Value} {S S' : List (Addr × CO)} {F : Fz} {Q : Value → CS → Prop} (h : Q y ⟨S', F⟩) (u : Up S a (.list vs) (.list (vs.eraseIdx i.toNat)) S')
    (h0 : 0 ≤ i) (hy : vs[i.toNat]? = some y) (hs : vs.length ≤ 16777216) : Cal cx A (.builtin "list.pop") [.ref a, In i] Q ⟨S, F⟩ := fun vs' hv s R => by
  obtain ⟨x, z, rfl, e1, e2⟩ := map2 hv
  obtain rfl := nv_ref e1
  obtain ⟨t, rfl⟩ := nv_int e2
  obtain ⟨xs, n, e, m⟩ := (R.at_ _ u.old : ORel _ _ _).plain
  have hlen : xs.length = vs.length := by rw [← m, List.length_map]
  have hlt : i.toNat < vs.length := (List.getElem?_eq_some_iff.mp hy).1
  obtain ⟨y', hy', hny⟩ : ∃ y', xs[i.toNat]? = some y' ∧ nv y' = y := by
    rw [← m, List.getElem?_map] at hy
    exact Option.map_eq_some_iff.mp hy
  refine call_meets PySem.F.slot_list_pop ⟨_, e, rfl⟩ PySem.F.entry_list_pop (PySem.F.args_list_pop_2 _ _)
    (MeetsSeq.list_pop_at a xs.toArray n i t i.toNat y' (by simp [Builtin.List.listFitsIndex]; omega) (seqIndex_at h0 (by rw [List.size_toArray]; omega)) (by simpa using hy') (by rw [List.size_toArray, sizeLine_eq]; omega)) ⟨e, ?_⟩
  refine ⟨⟨S', F⟩, R.upm u rfl (Heap.SameBut.update ..).extBut ?_ s.toks R.pos, by subst hny; exact h⟩
  obtain ⟨n', e'⟩ := upd_list (f := fun xs => xs.eraseIdxIfInBounds i.toNat) (ys := (xs.eraseIdx i.toNat).toArray) e (by simp [Array.eraseIdxIfInBounds, hlen, hlt])
  exact ⟨_, n', e', by simp [← m, map_eraseIdx]⟩

theorem cal_len_str {x : List Nat} {Q : Value → CS → Prop} (hs : x.length ≤ 16777216) (h : Q (In x.length) σ) : Cal cx A (.builtin "len") [St x] Q σ := fun vs' hv s R => by
  obtain ⟨v, rfl, e⟩ := map1 hv
  obtain ⟨t, rfl⟩ := nv_str e
  refine PyProof.Rows.len_str (by simp [Str.length]; omega) ⟨σ, R.tok _ (Nat.succ_pos _), ?_⟩
  simpa [nv, Str.length] using h
theorem cal_len_list {a : Addr} {vs : List Value} {Q : Value → CS → Prop} (ha : Sees σ a (.list vs)) (hs : vs.length ≤ 16777216) (h : Q (In vs.length) σ) : Cal cx A (.builtin "len") [.ref a] Q σ := fun vs' hv s R => by
  obtain ⟨v, rfl, e⟩ := map1 hv
  obtain rfl := nv_ref e
  obtain ⟨xs, hl, rfl⟩ := (ha.get R).isList
  refine PyProof.Rows.len_list hl (by simp at hs ⊢; omega) ⟨σ, R.tok _ (Nat.succ_pos _), ?_⟩
  simpa [nv] using h
end
end Mine
end

section
set_option Elab.async false
set_option linter.unusedVariables false
set_option autoImplicit false
namespace Mine

section
variable {cx : Cx} {A : Around} {σ : CS} {env : Env}

noncomputable def Sub (cx : Cx) (A : Around) (value slice : Expr) (o i : Value) (Q : Value → CS → Prop) (σ : CS) : Prop := ∀ v w, nv v = o → nv w = i → CV cx A (subscriptTail value slice v w) Q σ
theorem cv_subscript {value slice : Expr} {pos : Pos} {Q : Value → CS → Prop} (h : CV cx A (eval value env) (fun o σ₁ => CV cx A (eval slice env) (fun i σ₂ => Sub cx A value slice o i Q σ₂) σ₁) σ) :
    CV cx A (eval (.Subscript value slice pos) env) Q σ := fun s R =>
  PyProof.Rows.Subscript_ (wpAny_mono (h s R) (fun a _ ⟨_, R₁, h₁⟩ => wpAny_mono (h₁ _ R₁) (fun b _ ⟨_, R₂, h₂⟩ => h₂ a b rfl rfl _ R₂) fun _ _ x => x) fun _ _ x => x)
noncomputable def Plainly (slice : Expr) : Prop := ∀ v w, subscripted slice false v w = operate [v, w] (getItem v w)
theorem sub_str {value slice : Expr} {x : List Nat} {i : Int} {k c : Nat} {Q : Value → CS → Prop} (h : Q (St [c]) σ) (hi : -1000000000 ≤ i ∧ i ≤ 1000000000) (hk : seqIndex? i x.length = some k) (hc : x[k]? = some c) (hs : Plainly slice) :
    Sub cx A value slice (St x) (In i) Q σ := fun v w hv hw s R => by
  obtain ⟨t, rfl⟩ := nv_str hv; obtain ⟨u, rfl⟩ := nv_int hw
  refine tail_any (typeIs_str _ _ _) PySem.F.slot_str_getitem.lookup (P.getItem_str (c := c) ?_ ?_ ⟨σ, R.tok _ (Nat.succ_pos _), h⟩) (hs _ _)
  · simp; omega
  · simp only [Str.length, List.size_toArray, hk, Option.bind_some, List.getElem?_toArray, hc]
theorem sub_list {value slice : Expr} {a : Addr} {vs : List Value} {i : Int} {y : Value} {Q : Value → CS → Prop} (h : Q y σ) (ha : Sees σ a (.list vs)) (h0 : 0 ≤ i) (h1 : i ≤ 1000000000) (hy : vs[i.toNat]? = some y) (hs : Plainly slice) :
    Sub cx A value slice (.ref a) (In i) Q σ := fun v w hv hw s R => by
  obtain rfl := nv_ref hv; obtain ⟨u, rfl⟩ := nv_int hw
  obtain ⟨xs, hl, rfl⟩ := (ha.get R).isList
  rw [List.getElem?_map] at hy
  obtain ⟨y', e1, e2⟩ := Option.map_eq_some_iff.mp hy
  subst e2
  exact tail_any hl.typeIs PySem.F.slot_list_getitem.lookup (wpAny_getItem_list hl h0 (by omega) (by simpa using e1) ⟨σ, R, h⟩) (hs _ _)
theorem sub_list_neg {value slice : Expr} {a : Addr} {vs : List Value} {i : Int} {y : Value} {Q : Value → CS → Prop} (h : Q y σ) (ha : Sees σ a (.list vs)) (h0 : i < 0) (h1 : -(vs.length : Int) ≤ i) (h2 : -1000000000 ≤ i) (hy : vs[(i + vs.length).toNat]? = some y) (hs : Plainly slice) :
    Sub cx A value slice (.ref a) (In i) Q σ := fun v w hv hw s R => by
  obtain rfl := nv_ref hv; obtain ⟨u, rfl⟩ := nv_int hw
  obtain ⟨xs, hl, rfl⟩ := (ha.get R).isList
  rw [List.getElem?_map] at hy
  obtain ⟨y', e1, e2⟩ := Option.map_eq_some_iff.mp hy
  subst e2
  rw [List.length_map] at e1 h1
  exact tail_any hl.typeIs PySem.F.slot_list_getitem.lookup (wpAny_getItem_list_neg hl h0 (by simpa using h1) (by omega) (by simpa using e1) ⟨σ, R, h⟩) (hs _ _)

noncomputable def slc {α : Type} (l : List α) (lo hi : Option Int) : List α := (l.drop (kms_lo lo l.length)).take (kms_hi hi l.length - kms_lo lo l.length)
inductive Part : Value → Option Int → Prop where
  | none : Part .none none
  | int (i : Int) : Part (In i) (some i)
noncomputable def EvPart (cx : Cx) (A : Around) (env : Env) (e : Option Expr) (Q : Value → CS → Prop) (σ : CS) : Prop := CV cx A (evalPart e env) Q σ
theorem part_none {Q : Value → CS → Prop} (h : Q .none σ) : EvPart cx A env none Q σ := fun _ R => wpAny_evalPart_none ⟨σ, R, h⟩
theorem part_some {e : Expr} {Q : Value → CS → Prop} (h : CV cx A (eval e env) Q σ) : EvPart cx A env (some e) Q σ := fun s R => wpAny_evalPart_some (h s R)
noncomputable def Cut (cx : Cx) (A : Around) (value : Expr) (o lo hi : Value) (Q : Value → CS → Prop) (σ : CS) : Prop :=
  ∀ v l u (s : Shared) (a : Addr) (le ue : Option Expr) (p : Pos), nv v = o → nv l = lo → nv u = hi → Rep cx σ s → s.heap.IsSliceOf a l u .none →
    wpAny (model cx.prog cx.w) A (subscriptTail value (.Slice le ue none p) v (.ref a)) (fun v s' => ∃ σ', Rep cx σ' s' ∧ Q (nv v) σ') (fun _ _ => False) s
theorem cv_slice {value : Expr} {le ue : Option Expr} {p pos : Pos} {Q : Value → CS → Prop}
    (h : CV cx A (eval value env) (fun o σ₁ => EvPart cx A env le (fun lo σ₂ => EvPart cx A env ue (fun hi σ₃ => Cut cx A value o lo hi Q σ₃) σ₂) σ₁) σ) :
    CV cx A (eval (.Subscript value (.Slice le ue none p) pos) env) Q σ := fun s R =>
  PyProof.Rows.Subscript_ (wpAny_mono (h s R) (fun o _ ⟨_, R₁, h₁⟩ => wpAny_Slice (wpAny_mono (h₁ _ R₁) (fun l _ ⟨_, R₂, h₂⟩ => wpAny_mono (h₂ _ R₂) (fun u s₃ ⟨σ₃, R₃, h₃⟩ => wpAny_evalPart_none
    (h₃ o l u _ s₃.heap.objs.size le ue p rfl rfl rfl (R₃.grow (fun _ _ e => Heap.get?_push_of_some _ e) _ R₃.pos) ⟨_, Heap.get?_push_size _ rfl, rfl, rfl⟩)) fun _ _ x => x) fun _ _ x => x)) fun _ _ x => x)
theorem strIndices_eq (lo hi : Option Int) (n : Nat) : Builtin.Str.strSliceIndices lo hi 1 n = (List.range (kms_hi hi n - kms_lo lo n)).map (kms_lo lo n + ·) := by
  have e : Builtin.Str.strSliceIndices lo hi 1 n = sliceRange (sliceBounds lo hi none n).1 (sliceBounds lo hi none n).2.1 1 := rfl
  rw [e, kms_bounds, sliceRange_one]
theorem kms_hi_le (hi : Option Int) (n : Nat) : kms_hi hi n ≤ n := by
  unfold kms_hi
  split
  · exact Nat.le_refl _
  · split <;> omega
theorem kms_lo_le (lo : Option Int) (n : Nat) : kms_lo lo n ≤ n := by
  unfold kms_lo
  split
  · exact Nat.zero_le _
  · split <;> omega
theorem picks_cut {α : Type} (l : List α) (a b : Nat) (hb : b ≤ l.length) (ha : a ≤ l.length) : ((List.range (b - a)).map (a + ·)).filterMap (l[·]?) = (l.drop a).take (b - a) := by
  by_cases h : a ≤ b
  · exact StrLaws.picks l (b - a) a (by omega)
  · have : b - a = 0 := by omega
    simp [this]
theorem part_opt {v w : Value} {o : Option Int} (p : Part v o) (h : nv w = v) : ∃ q : Option (Int × Tok), partValue q = w ∧ q.map (·.1) = o := by
  cases p with
  | none => obtain rfl := nv_none h; exact ⟨none, rfl, rfl⟩
  | int i => obtain ⟨t, rfl⟩ := nv_int h; exact ⟨some (i, t), rfl, rfl⟩
theorem part_is {v w : Value} {o : Option Int} (p : Part v o) (h : nv w = v) : IsPart w o := by
  cases p with
  | none => obtain rfl := nv_none h; exact .none
  | int i => obtain ⟨t, rfl⟩ := nv_int h; exact .int i t
theorem cut_str {value : Expr} {x : List Nat} {lo hi : Value} {lo' hi' : Option Int} {Q : Value → CS → Prop} (h : Q (St (slc x lo' hi')) σ) (pl : Part lo lo') (pu : Part hi hi') (hz : x.length ≤ 16777216) :
    Cut cx A value (St x) lo hi Q σ := fun v l u s a le ue p hv hl hu R hs => by
  obtain ⟨t, rfl⟩ := nv_str hv
  obtain ⟨ql, rfl, rfl⟩ := part_opt pl hl
  obtain ⟨qu, rfl, rfl⟩ := part_opt pu hu
  refine tail_any (typeIs_str _ _ _) PySem.F.slot_str_getitem.lookup (wpAny_getItem_str_slice (l := ql) (u := qu) (st := none) hs rfl ?_) rfl
  have hpk : slicePicked (⟨x.toArray⟩ : Str) ql qu none = (List.range (kms_hi (qu.map (·.1)) x.length - kms_lo (ql.map (·.1)) x.length)).map (kms_lo (ql.map (·.1)) x.length + ·) := strIndices_eq _ _ _
  have hpick : (slicePicked (⟨x.toArray⟩ : Str) ql qu none).filterMap (x.toArray[·]?) = slc x (ql.map (·.1)) (qu.map (·.1)) := by
    rw [hpk]
    have := picks_cut x (kms_lo (ql.map (·.1)) x.length) (kms_hi (qu.map (·.1)) x.length) (kms_hi_le _ _) (kms_lo_le _ _)
    simpa [slc] using this
  unfold sliceMade
  split
  · rename_i hc
    have hlen : (slicePicked (⟨x.toArray⟩ : Str) ql qu none).length = x.length := by simpa [Str.length] using hc
    rw [hpk, List.length_map, List.length_range] at hlen
    have h1 := kms_hi_le (qu.map (·.1)) x.length
    have e : slc x (ql.map (·.1)) (qu.map (·.1)) = x := by
      unfold slc
      have e1 : kms_lo (ql.map (·.1)) x.length = 0 ∨ x.length = 0 := by omega
      rcases e1 with e1 | e1
      · rw [e1, List.drop_zero, List.take_of_length_le]; omega
      · have : x = [] := List.eq_nil_of_length_eq_zero e1
        subst this; simp
    rw [e] at h
    exact ⟨σ, R, h⟩
  · refine ⟨?_, ⟨σ, R.tok _ (Nat.succ_pos _), ?_⟩⟩
    · rw [hpick]
      simp [Str.length, sizeLine, slc]
      omega
    · rw [hpick]; exact h
theorem cut_list {value : Expr} {b : Addr} {vs : List Value} {lo hi : Value} {lo' hi' : Option Int} {S : List (Addr × CO)} {F : Fz} {Q : Value → CS → Prop} (h : ∀ d, Q (.ref d) ⟨(d, .list (slc vs lo' hi')) :: S, F⟩)
    (hb : Sees ⟨S, F⟩ b (.list vs)) (pl : Part lo lo') (pu : Part hi hi') (hz : vs.length ≤ 16777216) :
    Cut cx A value (.ref b) lo hi Q ⟨S, F⟩ := fun v l u s a le ue p hv hl hu R hs => by
  obtain rfl := nv_ref hv
  obtain ⟨xs, hx, rfl⟩ := (hb.get R).isList
  refine tail_any hx.typeIs PySem.F.slot_list_getitem.lookup (wpAny_getItem_list_slice hx hs (part_is pl hl) (part_is pu hu) .none (by simp) ?_ (by simpa [sizeLine] using hz)) rfl
  refine ⟨_, R.push (co := .list (slc (xs.map nv) lo' hi')) ⟨_, 0, Heap.get?_push_size _ rfl, ?_⟩ s.toks R.pos, h _⟩
  rw [kms_pick_eq]
  simp [kms_pick, slc]
end
end Mine
end

section
set_option Elab.async false
set_option linter.unusedVariables false
set_option autoImplicit false
namespace Mine

section
variable {cx : Cx} {A : Around} {σ : CS} {env : Env}

noncomputable def New (co : CO) (Q : Value → CS → Prop) (σ : CS) : Prop := ∀ d, Q (.ref d) ⟨(d, co) :: σ.S, σ.F⟩
theorem new_intro {co : CO} {S : List (Addr × CO)} {F : Fz} {Q : Value → CS → Prop} (h : ∀ d, Q (.ref d) ⟨(d, co) :: S, F⟩) : New co Q ⟨S, F⟩ := h
theorem cv_list {elts : List Expr} {pos : Pos} {Q : Value → CS → Prop} (h : Args cx A env pos elts (fun vs σ₁ => vs.length ≤ 16777216 ∧ New (.list vs) Q σ₁) σ) : CV cx A (eval (.List elts pos) env) Q σ := fun s R =>
  wpAny_List (wpAny_mono (h s R) (fun vs s₁ ⟨σ₁, R₁, h₁⟩ => ⟨by simpa [sizeLine] using h₁.1, _, R₁.push (co := .list (vs.map nv)) ⟨vs.toArray, 0, Heap.get?_push_size _ rfl, by simp⟩ s₁.toks R₁.pos, h₁.2 _⟩) fun _ _ x => x)
theorem cv_tuple {elts : List Expr} {k : Nat} {pos : Pos} {Q : Value → CS → Prop} (h : Args cx A env pos elts (fun vs σ₁ => vs.length ≤ 16777216 ∧ New (.tuple vs) Q σ₁) σ) : CV cx A (eval (.Tuple elts k pos) env) Q σ := fun s R =>
  wpAny_Tuple (wpAny_mono (h s R) (fun vs s₁ ⟨σ₁, R₁, h₁⟩ => ⟨by simpa [sizeLine] using h₁.1, _, R₁.push (co := .tuple (vs.map nv)) ⟨vs.toArray, 0, Heap.get?_push_size _ rfl, by simp⟩ s₁.toks R₁.pos, h₁.2 _⟩) fun _ _ x => x)

theorem op_isNot_str_ref {x : List Nat} {a : Addr} {Q : Value → CS → Prop} (h : Q (.bool true) σ) : Op2 cx A (compareOp .IsNot) (St x) (.ref a) Q σ := fun v w hv hw s R => by
  obtain ⟨t, rfl⟩ := nv_str hv; obtain rfl := nv_ref hw
  exact wpAny_isNot_other rfl (by simp) ⟨σ, R, h⟩
theorem op_isNot_self {a : Addr} {Q : Value → CS → Prop} (h : Q (.bool false) σ) : Op2 cx A (compareOp .IsNot) (.ref a) (.ref a) Q σ := fun v w hv hw s R => by
  obtain rfl := nv_ref hv; obtain rfl := nv_ref hw
  exact wpAny_isNot_ref_self ⟨σ, R, h⟩
theorem op_is_self {a : Addr} {Q : Value → CS → Prop} (h : Q (.bool true) σ) : Op2 cx A (compareOp .Is) (.ref a) (.ref a) Q σ := fun v w hv hw s R => by
  obtain rfl := nv_ref hv; obtain rfl := nv_ref hw
  exact wpAny_is_ref_self ⟨σ, R, h⟩

theorem op_notIn_sign {c : Nat} {x : List Nat} {Q : Value → CS → Prop} (h : Q (.bool (decide (c ∉ x))) σ) : Op2 cx A (compareOp .NotIn) (St [c]) (St x) Q σ := fun v w hv hw s R => by
  obtain ⟨t, rfl⟩ := nv_str hv; obtain ⟨u, rfl⟩ := nv_str hw
  refine PyProof.Rows.notIn_str ⟨σ, R, ?_⟩
  have := StrLaws.found_one ⟨x.toArray⟩ c
  rw [show (⟨[c].toArray⟩ : Str) = ⟨#[c]⟩ from rfl, this]
  have e : (!decide (c ∈ x)) = decide (c ∉ x) := by simp
  show Q (.bool (!decide (c ∈ x))) σ
  rw [e]; exact h
noncomputable def isSt (x : List Nat) (v : Value) : Bool := match v with
  | .str y _ => y.cps.toList == x
  | _ => false
theorem isSt_nv (x : List Nat) (v : Value) : isSt x (nv v) = isSt x v := by cases v <;> rfl
theorem any_strs (xs : List Value) (ys : List (List Nat)) (x : List Nat) (h : xs.map nv = ys.map St) : xs.any (isSt x) = decide (x ∈ ys) := by
  induction ys generalizing xs with
  | nil => cases xs with | nil => rfl | cons => simp at h
  | cons y ys ih =>
    cases xs with
    | nil => simp at h
    | cons v xs =>
      simp only [List.map_cons, List.cons.injEq] at h
      rw [List.any_cons, ih xs h.2, ← isSt_nv, h.1]
      have : isSt x (St y) = decide (y = x) := by
        show (y.toArray.toList == x) = _
        by_cases q : y = x <;> simp [q]
      rw [this]
      by_cases q : y = x
      · simp [q]
      · have q' : ¬ x = y := fun e => q e.symm
        simp [q, q']
theorem eqG {x : List Nat} {t : Tok} {y : Value} (hy : ∃ z, nv y = St z) : MeetsSeq.EqGives y (.str ⟨x.toArray⟩ t) (isSt x y) := by
  obtain ⟨z, hz⟩ := hy
  obtain ⟨u, rfl⟩ := nv_str hz
  exact SeqRoads2.EqGives.str _ _ _ _
theorem all_strs {xs : List Value} {ys : List (List Nat)} (h : xs.map nv = ys.map St) : ∀ y ∈ xs, ∃ z, nv y = St z := fun y hy => by
  have : nv y ∈ xs.map nv := List.mem_map_of_mem hy
  rw [h] at this
  obtain ⟨z, _, e⟩ := List.mem_map.mp this
  exact ⟨z, e.symm⟩
theorem op_in_list {a : Addr} {x : List Nat} {ys : List (List Nat)} {Q : Value → CS → Prop} (h : Q (.bool (decide (x ∈ ys))) σ) (ha : Sees σ a (.list (ys.map St))) :
    Op2 cx A (compareOp .In) (St x) (.ref a) Q σ := fun v w hv hw s R => by
  obtain ⟨t, rfl⟩ := nv_str hv; obtain rfl := nv_ref hw
  obtain ⟨xs, n, e, m⟩ := (ha.get R).plain
  refine SeqRoads2.in_list (isSt x) (fun y hy => eqG (all_strs m y (by simpa using hy))) e ⟨σ, R, ?_⟩
  rw [List.any_toArray, any_strs xs ys x m]; exact h
theorem op_in_tuple {a : Addr} {x : List Nat} {ys : List (List Nat)} {Q : Value → CS → Prop} (h : Q (.bool (decide (x ∈ ys))) σ) (ha : Sees σ a (.tuple (ys.map St))) :
    Op2 cx A (compareOp .In) (St x) (.ref a) Q σ := fun v w hv hw s R => by
  obtain ⟨t, rfl⟩ := nv_str hv; obtain rfl := nv_ref hw
  obtain ⟨xs, n, e, m⟩ := (ha.get R).plainT
  refine SeqRoads2.in_tuple (isSt x) (fun y hy => eqG (all_strs m y (by simpa using hy))) e ⟨σ, R, ?_⟩
  rw [List.any_toArray, any_strs xs ys x m]; exact h

theorem op_add_list {a b : Addr} {vs ws : List Value} {S : List (Addr × CO)} {F : Fz} {Q : Value → CS → Prop} (h : ∀ d, Q (.ref d) ⟨(d, .list (vs ++ ws)) :: S, F⟩) (ha : Sees ⟨S, F⟩ a (.list vs)) (hb : Sees ⟨S, F⟩ b (.list ws))
    (hz : vs.length + ws.length ≤ 16777216) : Op2 cx A (binaryOp .Add) (.ref a) (.ref b) Q ⟨S, F⟩ := fun v w hv hw s R => by
  obtain rfl := nv_ref hv; obtain rfl := nv_ref hw
  obtain ⟨xs, n, e, m⟩ := (ha.get R).plain
  obtain ⟨ys, n', e', m'⟩ := (hb.get R).plain
  refine P.add_list e e' ⟨_, R.push (co := .list (vs ++ ws)) ⟨xs.toArray ++ ys.toArray, 0, Heap.get?_push_size _ rfl, by simp [m, m']⟩ s.toks R.pos, h _⟩ ?_
  rw [List.size_toArray, List.size_toArray, sizeLine_eq, ← List.length_map (f := nv) (as := xs), ← List.length_map (f := nv) (as := ys), m, m']; exact hz

theorem cal_list_str {x : List Nat} {S : List (Addr × CO)} {F : Fz} {Q : Value → CS → Prop} (h : ∀ d, Q (.ref d) ⟨(d, .list (x.map fun c => St [c])) :: S, F⟩) (hh : A.handled = none) (hz : x.length ≤ 16777216) :
    Cal cx A (.type "list") [St x] Q ⟨S, F⟩ := fun vs' hv s R => by
  obtain ⟨v, rfl, e⟩ := map1 hv
  obtain ⟨t, rfl⟩ := nv_str e
  refine leaf R.pos (call_list_str hh _ t (fun h' tk acc c' k hS hI hp => ⟨_, R.alloc k (Heap.get?_none_of_le (Nat.le_refl _)) (co := .list (x.map fun c => St [c])) ⟨acc, c', hS, ?_⟩ tk hp, h _⟩) (by simpa [sizeLine] using hz))
  refine List.ext_getElem? fun j => ?_
  rw [List.getElem?_map, List.getElem?_map, Array.getElem?_toList]
  have hsz : acc.size = x.length := by simpa using hI.1
  by_cases hj : j < x.length
  · obtain ⟨c, u, h1, h2⟩ := hI.2 j _ (Array.getElem?_eq_getElem (by omega : j < acc.size))
    rw [Array.getElem?_eq_getElem (by omega : j < acc.size), h2]
    have h1' : x[j]? = some c := by simpa using h1
    rw [h1']; rfl
  · rw [Array.getElem?_eq_none (by omega), List.getElem?_eq_none (by omega)]; rfl

theorem seqIndex_spec {i : Int} {n k : Nat} (h : seqIndex? i n = some k) : k < n ∧ ((0 ≤ i ∧ k = i.toNat) ∨ (i < 0 ∧ k = (i + n).toNat)) := by
  have h' : (if (decide (0 ≤ (if i < 0 then i + n else i)) && decide ((if i < 0 then i + n else i) < n)) = true then some (if i < 0 then i + (n : Int) else i).toNat else none) = some k := h
  by_cases hi : i < 0
  · simp only [if_pos hi] at h'
    split at h'
    · rename_i hq
      simp only [Bool.and_eq_true, decide_eq_true_eq] at hq
      have := Option.some.inj h'
      omega
    · exact absurd h' (by simp)
  · simp only [if_neg hi] at h'
    split at h'
    · rename_i hq
      simp only [Bool.and_eq_true, decide_eq_true_eq] at hq
      have := Option.some.inj h'
      omega
    · exact absurd h' (by simp)
noncomputable def SetI (cx : Cx) (A : Around) (o i v : Value) (Q : CS → Prop) (σ : CS) : Prop := ∀ o' i' v', nv o' = o → nv i' = i → nv v' = v → CU cx A (setItem o' i' v') Q σ
theorem setI_list {a : Addr} {vs : List Value} {i : Int} {k : Nat} {v : Value} {S S' : List (Addr × CO)} {F : Fz} {Q : CS → Prop} (h : Q ⟨S', F⟩) (u : Up S a (.list vs) (.list (vs.set k v)) S')
    (hi : -1000000000 ≤ i ∧ i ≤ 1000000000) (hk : seqIndex? i vs.length = some k) : SetI cx A (.ref a) (In i) v Q ⟨S, F⟩ := fun o' i' v' ho hi' hv s R => by
  obtain rfl := nv_ref ho
  obtain ⟨t, rfl⟩ := nv_int hi'
  obtain ⟨xs, n, e, m⟩ := (R.at_ _ u.old : ORel _ _ _).plain
  have hlen : vs.length = xs.length := by rw [← m, List.length_map]
  have hT : s.TypeIs (.ref a) "list" := ⟨_, e, rfl⟩
  have hkl : k < xs.length := hlen ▸ (seqIndex_spec hk).1
  obtain ⟨y, hy⟩ : ∃ y, xs[k]? = some y := ⟨xs[k], List.getElem?_eq_getElem hkl⟩
  have fin : ∃ σ', Rep cx σ' { s with heap := s.heap.update a (Obj.mapSeq (·.setIfInBounds k v')) } ∧ Q σ' := by
    obtain ⟨n', e'⟩ := upd_list (f := (·.setIfInBounds k v')) (ys := (xs.set k v').toArray) e (by simp)
    exact ⟨_, R.upm u rfl (Heap.SameBut.update ..).extBut ⟨_, n', e', by simp [m, hv, List.map_set]⟩ s.toks R.pos, h⟩
  unfold setItem
  try with_reducible refine wpAny_holding ?_
  first | refine wpAny_bind (wpAny_pure ?_) | skip
  refine wpAny_bind (wpAny_sequenceKey hT (by decide) ?_)
  refine wpAny_bind (wpAny_callSpecial?_slot (name := Str.ofString "__setitem__") hT slot_list_setitem
    (wpAny_call_entry slot_list_setitem hT entry_list_setitem ?_ (args_list_setitem _ _ _)))
  show wpAny _ _ (Builtin.List.listSubscript? (.int i t) >>= _) _ _ s
  refine wpAny_bind (wpAny_listSubscript_int (by simp [Builtin.List.listFitsIndex]; omega) ?_)
  have tail : wpAny (model cx.prog cx.w) A.in1 (setSeqItemAt a k v' >>= fun _ => (do return ← ret .none : Sem PySem.Fin)) (fun fin s' => ∃ v, fin = .done (.ret v) ∧ wpAny (model cx.prog cx.w) A (pure ()) (fun _ s' => ∃ σ', Rep cx σ' s' ∧ Q σ') (fun _ _ => False) s') (fun _ _ => False) s := by
    refine wpAny_bind (wpAny_setSeqItemAt e rfl ?_)
    first
      | exact wpAny_bind (wpAny_pure (wpAny_pure ⟨.none, rfl, wpAny_pure fin⟩))
      | exact wpAny_pure ⟨.none, rfl, wpAny_pure fin⟩
  rcases Int.lt_or_le i 0 with hneg | hpos
  · obtain ⟨j, rfl⟩ : ∃ j : Nat, i = Int.negSucc j := by
      cases i with
      | ofNat n => exact absurd hneg (Int.not_lt.mpr (Int.natCast_nonneg n))
      | negSucc n => exact ⟨n, rfl⟩
    show wpAny _ _ ((Builtin.List.listItems (.ref a) >>= fun xs => pure ((seqIndex? (Int.negSucc j) xs.size).bind fun i => xs[i]?.map (i, ·))) >>= _) _ _ s
    refine wpAny_bind (wpAny_bind ?_)
    show wpAny _ _ (seqItems? (.ref a) >>= _) _ _ s
    refine wpAny_bind (wpAny_seqItems e rfl (wpAny_pure (wpAny_pure ?_)))
    rw [List.size_toArray, ← hlen, hk]
    simp only [Option.bind_some, List.getElem?_toArray, hy, Option.map_some]
    exact tail
  · obtain ⟨j, rfl⟩ := Int.eq_ofNat_of_zero_le hpos
    have hj : j = k := by rcases (seqIndex_spec hk).2 with q | q <;> omega
    subst hj
    show wpAny _ _ ((seqItemAt a j >>= fun r => pure (r.map (j, ·))) >>= _) _ _ s
    refine wpAny_bind (wpAny_bind (wpAny_seqItemAt e rfl (wpAny_pure ?_)))
    rw [List.getElem?_toArray, hy]
    exact tail
end
end Mine
end

section
set_option Elab.async false
set_option linter.unusedVariables false
set_option autoImplicit false
namespace Mine
noncomputable def Finds (x : List Nat) (c lo hi : Nat) (r : Int) : Prop :=
  (r = -1 ∧ ∀ k, lo ≤ k → k < hi → x[k]? ≠ some c) ∨ (∃ i : Nat, r = i ∧ lo ≤ i ∧ i < hi ∧ x[i]? = some c ∧ ∀ k, lo ≤ k → k < i → x[k]? ≠ some c)
theorem at_iff (x : List Nat) (c hi k : Nat) (hh : hi ≤ x.length) : StrLaws.At ⟨x.toArray⟩ ⟨#[c]⟩ hi k ↔ (k < hi ∧ x[k]? = some c) := by
  have h := StrLaws.subAt_one ⟨x.toArray⟩ c k
  unfold StrLaws.At
  have e1 : (⟨#[c]⟩ : Str).length = 1 := rfl
  have e2 : (⟨x.toArray⟩ : Str).length = x.length := by simp [Str.length]
  rw [e1, e2] at h
  rw [e1]
  have h' : (k + 1 ≤ x.length ∧ Builtin.Str.subAt ⟨x.toArray⟩ ⟨#[c]⟩ k = true) ↔ x[k]? = some c := by simpa using h
  constructor
  · intro q; exact ⟨by omega, h'.mp ⟨by omega, q.2⟩⟩
  · intro q; exact ⟨by omega, (h'.mpr q.2).2⟩
theorem range'_split2 {lo n a : Nat} {pre post : List Nat} (h : List.range' lo n = pre ++ a :: post) : lo ≤ a ∧ a < lo + n ∧ ∀ k, lo ≤ k → k < a → k ∈ pre := by
  obtain ⟨h1, h2⟩ := StrLaws.range'_split_from h
  have : a ∈ List.range' lo n := by rw [h]; simp
  exact ⟨h1, (List.mem_range'_1.mp this).2, h2⟩
theorem occ_finds (x : List Nat) (c lo hi : Nat) (hh : hi ≤ x.length) :
    Finds x c lo hi (match Builtin.Str.occurrences ⟨x.toArray⟩ ⟨#[c]⟩ lo hi 1 with | i :: _ => (i : Int) | [] => -1) := by
  rw [StrLaws.occ_eq]
  rcases StrLaws.occ_first ⟨x.toArray⟩ ⟨#[c]⟩ hi 1 (Nat.le_refl _) (List.range' lo (hi + 1 - lo)) lo (fun i hi => (List.mem_range'_1.mp hi).1) with ⟨h0, hn⟩ | ⟨pre, a, post, e, h0, ha, hn⟩
  · rw [h0]
    refine .inl ⟨rfl, fun k h1 h2 q => hn k (List.mem_range'_1.mpr ⟨h1, by omega⟩) ((at_iff x c hi k hh).mpr ⟨h2, q⟩)⟩
  · obtain ⟨s1, s2, s3⟩ := range'_split2 e
    have ha' := (at_iff x c hi a hh).mp ha
    have hl : ∃ r, (forIn (List.range' lo (hi + 1 - lo)) ((#[] : Array Nat), lo) (StrLaws.occBody ⟨x.toArray⟩ ⟨#[c]⟩ hi 1)).run.fst.toList = a :: r := by
      generalize (forIn (List.range' lo (hi + 1 - lo)) ((#[] : Array Nat), lo) (StrLaws.occBody ⟨x.toArray⟩ ⟨#[c]⟩ hi 1)).run.fst = arr at h0
      obtain ⟨l⟩ := arr
      cases l with
      | nil => simp at h0
      | cons y r => simp at h0; subst h0; exact ⟨r, rfl⟩
    obtain ⟨r, hr⟩ := hl
    rw [hr]
    exact .inr ⟨a, rfl, s1, ha'.1, ha'.2, fun k h1 h2 q => hn k (s3 k h1 h2) ((at_iff x c hi k hh).mpr ⟨by omega, q⟩)⟩
theorem gives_str_find4 (x y : Str) (i j : Int) (t u v w : Tok) : Gives (Builtin.«str.find» ⟨[.str x t, .str y u, .int i v, .int j w], []⟩)
    (.int (match Builtin.Str.occurrences x y (fromIndex x.length i) (min (fromIndex x.length j) x.length) 1 with | k :: _ => (k : Int) | [] => -1)) := by
  show Gives (match Builtin.Str.occurrences x y (fromIndex x.length i) (min (fromIndex x.length j) x.length) 1 with | k :: _ => _ | [] => _) _
  cases Builtin.Str.occurrences x y (fromIndex x.length i) (min (fromIndex x.length j) x.length) 1 with
  | nil => exact .rule (.of_eq rfl)
  | cons k _ => exact .of_eq rfl

noncomputable def rep (c : Nat) (z : List Nat) (l : List Nat) : List Nat := l.flatMap fun d => if d = c then z else [d]
theorem rep_append (c : Nat) (z a b : List Nat) : rep c z (a ++ b) = rep c z a ++ rep c z b := by simp [rep]
theorem rep_free (c : Nat) (z : List Nat) : ∀ l : List Nat, c ∉ l → rep c z l = l
  | [], _ => rfl
  | k :: r, h => by
    have h1 : ¬ k = c := fun e => h (e ▸ List.mem_cons_self ..)
    have h2 := rep_free c z r fun m => h (List.mem_cons_of_mem _ m)
    unfold rep at h2 ⊢
    rw [List.flatMap_cons, h2, if_neg h1]; rfl
theorem rep_len (c : Nat) (z : List Nat) : ∀ x : List Nat, (rep c z x).length ≤ x.length + (x.length + 1) * z.length
  | [] => by simp [rep]
  | d :: r => by
    have ih := rep_len c z r
    have e : rep c z (d :: r) = (if d = c then z else [d]) ++ rep c z r := by simp [rep]
    rw [e, List.length_append, List.length_cons]
    have : (r.length + 1 + 1) * z.length = (r.length + 1) * z.length + z.length := Nat.succ_mul _ _
    have h3 : (if d = c then z else [d]).length ≤ z.length + 1 := by split <;> simp
    omega
theorem rep_join (c : Nat) (z : List Nat) : ∀ parts : List Str, (∀ p ∈ parts, c ∉ p.cps.toList) → rep c z (Str.join ⟨#[c]⟩ parts).cps.toList = (Str.join ⟨z.toArray⟩ parts).cps.toList
  | [], _ => rfl
  | [x], h => rep_free c z _ (h x (.head _))
  | x :: y :: r, h => by
    have ih := rep_join c z (y :: r) fun p hp => h p (.tail _ hp)
    show rep c z (x ++ ⟨#[c]⟩ ++ Str.join ⟨#[c]⟩ (y :: r)).cps.toList = (x ++ ⟨z.toArray⟩ ++ Str.join ⟨z.toArray⟩ (y :: r)).cps.toList
    rw [Str.cps_append, Str.cps_append, Str.cps_append, Str.cps_append, Array.toList_append, Array.toList_append, Array.toList_append, Array.toList_append, rep_append, rep_append, ih, rep_free c z _ (h x (.head _))]
    simp [rep]
theorem replace_rep (x z : List Nat) (c : Nat) : (Txt.replace ⟨x.toArray⟩ ⟨#[c]⟩ ⟨z.toArray⟩).cps.toList = rep c z x := by
  rw [StrLaws.replace_one, ← rep_join c z _ (StrLaws.split_free ⟨x.toArray⟩ c), StrLaws.join_split]
theorem str_of_toList {a : Str} {l : List Nat} (h : a.cps.toList = l) : a = ⟨l.toArray⟩ := by
  obtain ⟨⟨m⟩⟩ := a
  subst h; rfl

section
variable {cx : Cx} {A : Around} {σ : CS} {env : Env}
theorem cal_find {x : List Nat} {c : Nat} {i j : Int} {Q : Value → CS → Prop} (hi : 0 ≤ i) (hj : 0 ≤ j) (h : ∀ r, Finds x c i.toNat (min j.toNat x.length) r → Q (In r) σ) :
    Cal cx A (.builtin "str.find") [St x, St [c], In i, In j] Q σ := fun vs' hv s R => by
  obtain ⟨a, b, d, e, rfl, e1, e2, e3, e4⟩ := map4 hv
  obtain ⟨t, rfl⟩ := nv_str e1; obtain ⟨u, rfl⟩ := nv_str e2; obtain ⟨v, rfl⟩ := nv_int e3; obtain ⟨w, rfl⟩ := nv_int e4
  refine call_gives PySem.F.slot_str_find (typeIs_str _ _ _) PySem.F.entry_str_find (PySem.F.args_str_find_4 _ _ _ _) (gives_str_find4 _ _ i j t u v w) ⟨σ, R.tok _ (Nat.succ_pos _), h _ ?_⟩
  have hl : (⟨x.toArray⟩ : Str).length = x.length := by simp [Str.length]
  have e1 : fromIndex (⟨x.toArray⟩ : Str).length i = i.toNat := by unfold fromIndex; rw [if_neg (by omega)]; omega
  have e2 : fromIndex (⟨x.toArray⟩ : Str).length j = j.toNat := by unfold fromIndex; rw [if_neg (by omega)]; omega
  rw [e1, e2, hl]
  exact occ_finds x c _ _ (Nat.min_le_right _ _)

theorem cwith_replace {x z : List Nat} {c : Nat} {y zz : Str} {k1 k2 : Nat} {p1 p2 pos : Pos} {Q : Value → CS → Prop} (h : Q (St (rep c z x)) σ) (hy : y = ⟨#[c]⟩) (hz : zz = ⟨z.toArray⟩) (hne : z ≠ [c])
    (hb : x.length + (x.length + 1) * z.length ≤ 16777216) :
    CWith cx A env pos (.builtin "str.replace") [St x] [.Constant (.str y) k1 p1, .Constant (.str zz) k2 p2] Q σ := fun f' first' hf hfirst s R => by
  obtain rfl := nv_builtin hf
  obtain ⟨v, rfl, e⟩ := map1 hfirst
  obtain ⟨t, rfl⟩ := nv_str e
  refine Calls.callWith_builtin rfl (Calls.evalArgs_plain ?_)
  refine Calls.spliced_cons (Calls.Constant_str (k := k1) (pos := p1) (Calls.spliced_cons (Calls.Constant_str (k := k2) (pos := p2) (Calls.spliced_nil ?_))))
  subst hy hz
  have hbl : ((⟨#[c]⟩ : Str) == ⟨z.toArray⟩) = false := by
    rw [beq_eq_false_iff_ne]
    intro q
    have q' : #[c] = z.toArray := congrArg Str.cps q
    exact hne (by simpa using (congrArg Array.toList q').symm)
  have hl : Builtin.Str.tooLong ((⟨x.toArray⟩ : Str).length + (Builtin.Str.occurrences ⟨x.toArray⟩ ⟨#[c]⟩ 0 (⟨x.toArray⟩ : Str).length ((⟨x.toArray⟩ : Str).length + 1)).length * (⟨z.toArray⟩ : Str).length) = false := by
    have h1 := StrLaws.occ_length_le ⟨x.toArray⟩ ⟨#[c]⟩ 0 (⟨x.toArray⟩ : Str).length ((⟨x.toArray⟩ : Str).length + 1)
    have h2 := Nat.mul_le_mul_right (⟨z.toArray⟩ : Str).length h1
    have e1 : (⟨x.toArray⟩ : Str).length = x.length := by simp [Str.length]
    have e2 : (⟨z.toArray⟩ : Str).length = z.length := by simp [Str.length]
    unfold Builtin.Str.tooLong sizeLine
    rw [e1, e2] at h2
    rw [e1, e2]
    exact decide_eq_false (by omega)
  have hpos := R.pos
  have hne0 : (s.toks == 0 || s.toks + 1 == 0) = false := by
    have : s.toks ≠ 0 := by omega
    simp [this]
  refine call_gives PySem.F.slot_str_replace (typeIs_str _ _ _) PySem.F.entry_str_replace (PySem.F.args_str_replace_3 _ _ _)
    (gives_str_replace ⟨x.toArray⟩ ⟨#[c]⟩ ⟨z.toArray⟩ t s.toks (s.toks + 1) fun _ => ⟨hne0, by simp, hbl, hl⟩) ?_
  have hrep := str_of_toList (replace_rep x z c)
  unfold Txt.replace at hrep
  have R2 : ∀ k : Tok, 0 < k → Rep cx σ { s with toks := k } := fun k hk => R.tok k hk
  cases hc : ((Builtin.Str.occurrences ⟨x.toArray⟩ ⟨#[c]⟩ 0 (⟨x.toArray⟩ : Str).length ((⟨x.toArray⟩ : Str).length + 1)).isEmpty || ((⟨#[c]⟩ : Str).length == 0 && (⟨z.toArray⟩ : Str).length == 0))
  · rw [hc] at hrep
    simp only [Bool.false_eq_true, if_false] at hrep ⊢
    refine ⟨?_, σ, R2 _ (Nat.succ_pos _), ?_⟩
    · rw [hrep]
      have hlen := rep_len c z x
      simp [Str.length, sizeLine]; omega
    · rw [hrep]; exact h
  · rw [hc] at hrep
    simp only [if_true] at hrep ⊢
    refine ⟨σ, R2 _ (Nat.succ_pos _), ?_⟩
    rw [hrep]; exact h

theorem cps_join (sep : List Nat) : ∀ ys : List (List Nat), (Str.join ⟨sep.toArray⟩ (ys.map fun y => ⟨y.toArray⟩)).cps.toList = List.intercalate sep ys
  | [] => rfl
  | [x] => by simp [Str.join, List.intercalate]
  | x :: y :: r => by
    have ih := cps_join sep (y :: r)
    show ((⟨x.toArray⟩ : Str) ++ ⟨sep.toArray⟩ ++ Str.join ⟨sep.toArray⟩ ((y :: r).map fun y => ⟨y.toArray⟩)).cps.toList = _
    rw [Str.cps_append, Str.cps_append, Array.toList_append, Array.toList_append, ih]
    simp [List.intercalate]
theorem strsAre_of {xs : List Value} {ys : List (List Nat)} (h : xs.map nv = ys.map St) : StrsAre xs (ys.map fun y => ⟨y.toArray⟩) := by
  induction ys generalizing xs with
  | nil => cases xs with | nil => exact .nil | cons => simp at h
  | cons y ys ih =>
    cases xs with
    | nil => simp at h
    | cons v xs =>
      simp only [List.map_cons, List.cons.injEq] at h
      obtain ⟨t, rfl⟩ := nv_str h.1
      exact .cons _ _ (ih h.2)
theorem cal_join_list {a : Addr} {sep : List Nat} {ys : List (List Nat)} {Q : Value → CS → Prop} (h : Q (St (List.intercalate sep ys)) σ) (ha : Sees σ a (.list (ys.map St)))
    (hz : (ys.map (·.length)).sum + ys.length * sep.length ≤ 16777216) : Cal cx A (.builtin "str.join") [St sep, .ref a] Q σ := fun vs' hv s R => by
  obtain ⟨v, w, rfl, e1, e2⟩ := map2 hv
  obtain ⟨t, rfl⟩ := nv_str e1
  obtain rfl := nv_ref e2
  obtain ⟨xs, hl, m⟩ := (ha.get R).isList
  refine leaf R.pos (PyProof.Rows.join_list hl (strsAre_of (ys := ys) (by simpa using m)) (by simpa [Str.length, Function.comp_def] using hz) fun t' k hp => ⟨σ, R.tok _ hp, ?_⟩)
  have e : Txt.join (⟨sep.toArray⟩ : Str) (ys.map fun y => ⟨y.toArray⟩) = ⟨(List.intercalate sep ys).toArray⟩ := by
    show Builtin.Str.glued _ _ = _
    rw [StrLaws.glued_eq_join]
    exact str_of_toList (cps_join sep ys)
  rw [e]; exact h
end
end Mine
end

section
set_option Elab.async false
set_option linter.unusedVariables false
set_option autoImplicit false
namespace Mine

section
variable {cx : Cx} {A : Around} {σ : CS} {env : Env}
theorem cl_local {x : Str} {L : Addr} {m : List (Str × Option Value)} {v : Value} {Q : Value → CS → Prop} (h : Q v σ)
    (hL : (L, CO.ns m) ∈ σ.S) (hx : (x, some v) ∈ m) (hl : env.locals = L) (hk : env.scope.kind = .function) (ho : env.kindOf x = some .local) :
    CV cx A (loadName env x) Q σ := fun s r => by
  obtain ⟨_, m', hn, hm⟩ := r.at_ _ hL
  have e := hm _ hx
  obtain ⟨v', e1, e2⟩ := Option.map_eq_some_iff.mp e
  exact wpAny_loadName_local hk ho (hl ▸ hn) e1 ⟨σ, r, by subst e2; exact h⟩

theorem cf_if {test : Expr} {body orelse : List Stmt} {pos : Pos} {Q : Flow → CS → Prop}
    (h : CB cx A (isTrue test env (eval test env)) (fun b σ₁ => if b then CF cx A (execs body env) Q σ₁ else CF cx A (execs orelse env) Q σ₁) σ) :
    CF cx A (exec (.If test body orelse pos) env) Q σ := fun s R => wpAny_If (wpAny_mono (h s R) (fun b _ ⟨_, R₁, h₁⟩ => by
      cases b with
      | true => exact h₁ _ R₁
      | false => exact h₁ _ R₁) fun _ _ x => x)
theorem cf_return {e : Expr} {pos : Pos} {Q : Flow → CS → Prop} (h : CV cx A (eval e env) (fun v σ₁ => Q (.ret v) σ₁) σ) : CF cx A (exec (.Return (some e) pos) env) Q σ := fun s R =>
  wpAny_Return_some (wpAny_mono (h s R) (fun v _ x => x) fun _ _ x => x)
theorem cf_expr {e : Expr} {pos : Pos} {Q : Flow → CS → Prop} (h : CV cx A (eval e env) (fun _ σ₁ => Q .next σ₁) σ) (hi : interactive env = false) (hs : swapsWith e none pos.line env = pure false) :
    CF cx A (exec (.Expr e pos) env) Q σ := fun s R => wpAny_Expr_any (wpAny_mono (h s R) (fun v _ x => x) fun _ _ x => x) hi hs
theorem cf_assert {test : Expr} {msg : Option Expr} {pos : Pos} {Q : Flow → CS → Prop} (h : CB cx A (isTrue test env (eval test env)) (fun b σ₁ => b = true ∧ Q .next σ₁) σ) :
    CF cx A (exec (.Assert test msg pos) env) Q σ := fun s R => wpAny_Assert_holds (wpAny_mono (h s R) (fun b _ ⟨σ₁, R₁, h₁⟩ => ⟨h₁.1, σ₁, R₁, h₁.2⟩) fun _ _ x => x)
theorem cf_break {pos : Pos} {Q : Flow → CS → Prop} (h : Q .brk σ) : CF cx A (exec (.Break pos) env) Q σ := fun s R => wpAny_Break ⟨σ, R, h⟩
theorem cf_aug {x : Str} {pos' pos : Pos} {op : Operator} {value : Expr} {Q : Flow → CS → Prop}
    (h : CV cx A (loadName env x) (fun old σ₁ => CV cx A (eval value env) (fun v σ₂ => Op2 cx A (inplaceOp op) old v (fun r σ₃ => Store cx A env x r (fun σ₄ => Q .next σ₄) σ₃) σ₂) σ₁) σ) :
    CF cx A (exec (.AugAssign (.Name x pos') op value pos) env) Q σ := fun s R =>
  wpAny_AugAssign_Name (wpAny_mono (h s R) (fun old _ ⟨_, R₁, h₁⟩ => wpAny_mono (h₁ _ R₁) (fun v _ ⟨_, R₂, h₂⟩ => wpAny_mono (h₂ old v rfl rfl _ R₂) (fun r _ ⟨_, R₃, h₃⟩ =>
    wpAny_mono (h₃ r rfl _ R₃) (fun _ _ ⟨σ₄, R₄, h₄⟩ => ⟨σ₄, R₄, h₄⟩) fun _ _ x => x) fun _ _ x => x) fun _ _ x => x) fun _ _ x => x)
theorem cf_setitem {o i value : Expr} {pos' pos : Pos} {Q : Flow → CS → Prop}
    (h : CV cx A (eval value env) (fun v σ₁ => CV cx A (eval o env) (fun ov σ₂ => CV cx A (eval i env) (fun iv σ₃ => SetI cx A ov iv v (fun σ₄ => Q .next σ₄) σ₃) σ₂) σ₁) σ)
    (hs : swapsWith value (some (.Subscript o i pos')) pos.line env = pure false) : CF cx A (exec (.Assign [.Subscript o i pos'] value pos) env) Q σ := fun s R =>
  wpAny_Assign_Subscript (wpAny_mono (h s R) (fun v _ ⟨_, R₁, h₁⟩ => wpAny_mono (h₁ _ R₁) (fun ov _ ⟨_, R₂, h₂⟩ => wpAny_mono (h₂ _ R₂) (fun iv _ ⟨_, R₃, h₃⟩ =>
    wpAny_mono (h₃ ov iv v rfl rfl rfl _ R₃) (fun _ _ ⟨σ₄, R₄, h₄⟩ => ⟨σ₄, R₄, h₄⟩) fun _ _ x => x) fun _ _ x => x) fun _ _ x => x) fun _ _ x => x) hs
noncomputable def GetI (cx : Cx) (A : Around) (o i : Value) (Q : Value → CS → Prop) (σ : CS) : Prop := Op2 cx A getItem o i Q σ
theorem getI_list {a : Addr} {vs : List Value} {i : Int} {y : Value} {Q : Value → CS → Prop} (h : Q y σ) (ha : Sees σ a (.list vs)) (h0 : i < 0) (h1 : -(vs.length : Int) ≤ i) (h2 : -1000000000 ≤ i) (hy : vs[(i + vs.length).toNat]? = some y) :
    GetI cx A (.ref a) (In i) Q σ := fun v w hv hw s R => by
  obtain rfl := nv_ref hv; obtain ⟨u, rfl⟩ := nv_int hw
  obtain ⟨xs, hl, rfl⟩ := (ha.get R).isList
  rw [List.getElem?_map] at hy
  obtain ⟨y', e1, e2⟩ := Option.map_eq_some_iff.mp hy
  subst e2
  rw [List.length_map] at e1 h1
  exact wpAny_getItem_list_neg hl h0 (by simpa using h1) (by omega) (by simpa using e1) ⟨σ, R, h⟩
theorem cf_augsub {o i value : Expr} {tpos pos : Pos} {op : Operator} {Q : Flow → CS → Prop}
    (h : CV cx A (eval o env) (fun ov σ₁ => CV cx A (eval i env) (fun iv σ₂ => GetI cx A ov iv (fun old σ₃ => CV cx A (eval value env) (fun v σ₄ => Op2 cx A (inplaceOp op) old v (fun new σ₅ =>
      SetI cx A ov iv new (fun σ₆ => Q .next σ₆) σ₅) σ₄) σ₃) σ₂) σ₁) σ)
    (hi : ∀ ov iv new, augStore i ov iv new = (do holding [new, ov, iv] (setItem ov iv new); release [new, ov, iv] []; pure .next)) : CF cx A (exec (.AugAssign (.Subscript o i tpos) op value pos) env) Q σ := fun s R =>
  wpAny_AugAssign_SubscriptAny (wpAny_mono (h s R) (fun ov _ ⟨_, R₁, h₁⟩ => wpAny_mono (h₁ _ R₁) (fun iv _ ⟨_, R₂, h₂⟩ => wpAny_mono (h₂ ov iv rfl rfl _ R₂) (fun old _ ⟨_, R₃, h₃⟩ =>
    wpAny_mono (h₃ _ R₃) (fun v _ ⟨_, R₄, h₄⟩ => wpAny_mono (h₄ old v rfl rfl _ R₄) (fun new _ ⟨_, R₅, h₅⟩ => wpAny_mono (h₅ ov iv new rfl rfl rfl _ R₅) (fun _ _ ⟨σ₆, R₆, h₆⟩ => ⟨σ₆, R₆, h₆⟩)
      fun _ _ x => x) fun _ _ x => x) fun _ _ x => x) fun _ _ x => x) fun _ _ x => x) fun _ _ x => x) hi
noncomputable def DelI (cx : Cx) (A : Around) (o i : Value) (Q : CS → Prop) (σ : CS) : Prop := ∀ o' i', nv o' = o → nv i' = i → CU cx A (delItem o' i') Q σ
theorem delI_list {a : Addr} {vs : List Value} {i : Int} {S S' : List (Addr × CO)} {F : Fz} {Q : CS → Prop} (h : Q ⟨S', F⟩) (u : Up S a (.list vs) (.list (vs.eraseIdx i.toNat)) S') (h0 : 0 ≤ i) (h1 : i < vs.length) (hz : vs.length ≤ 16777216) :
    DelI cx A (.ref a) (In i) Q ⟨S, F⟩ := fun o' i' ho hi s R => by
  obtain rfl := nv_ref ho; obtain ⟨t, rfl⟩ := nv_int hi
  obtain ⟨xs, n, e, m⟩ := (R.at_ _ u.old : ORel _ _ _).plain
  have hlen : xs.length = vs.length := by rw [← m, List.length_map]
  refine wpAny_delItem_plain ⟨n, e⟩ (by simp [Builtin.List.listFitsIndex]; omega) (seqIndex_at h0 (by rw [List.size_toArray, hlen]; exact h1)) (fun h' hp hs => ?_) (by rw [List.size_toArray, sizeLine_eq]; omega)
  obtain ⟨n', e'⟩ := hp
  refine ⟨⟨S', F⟩, R.upm u rfl hs.extBut ⟨_, n', e', ?_⟩ s.toks R.pos, h⟩
  have : i.toNat < xs.length := by omega
  simp [Array.eraseIdxIfInBounds, this, ← m, map_eraseIdx]
theorem cf_delete {o i : Expr} {p pos : Pos} {Q : Flow → CS → Prop} (h : CV cx A (eval o env) (fun ov σ₁ => CV cx A (eval i env) (fun iv σ₂ => DelI cx A ov iv (fun σ₃ => Q .next σ₃) σ₂) σ₁) σ) :
    CF cx A (exec (.Delete [.Subscript o i p] pos) env) Q σ := fun s R =>
  wpAny_Delete (wpAny_deleteEach_cons (wpAny_delete_Subscript (wpAny_mono (h s R) (fun ov _ ⟨_, R₁, h₁⟩ => wpAny_mono (h₁ _ R₁) (fun iv _ ⟨_, R₂, h₂⟩ => wpAny_mono (h₂ ov iv rfl rfl _ R₂) (fun _ _ ⟨σ₃, R₃, h₃⟩ =>
    wpAny_deleteEach_nil ⟨σ₃, R₃, h₃⟩) fun _ _ x => x) fun _ _ x => x) fun _ _ x => x)))
noncomputable def Stores (cx : Cx) (A : Around) (env : Env) : List Str → List Value → (CS → Prop) → CS → Prop
  | x :: xs, v :: vs, Q, σ => Store cx A env x v (fun σ₁ => Stores cx A env xs vs Q σ₁) σ
  | [], [], Q, σ => Q σ
  | _, _, _, _ => False
theorem stores_run {xs : List Str} : ∀ {ts : List (Value → Sem Unit)} {vs : List Value} {Q : CS → Prop} {σ : CS} {s : Shared}, (ts = xs.map fun x v => bindName env x v) → Stores cx A env xs (vs.map nv) Q σ → Rep cx σ s →
    wpAny (model cx.prog cx.w) A (assignInOrder ts vs) (fun _ s' => ∃ σ', Rep cx σ' s' ∧ Q σ') (fun _ _ => False) s := by
  induction xs with
  | nil =>
    intro ts vs Q σ s ht h R
    subst ht
    cases vs with
    | nil => exact wpAny_assignInOrder_none ⟨σ, R, h⟩
    | cons => exact h.elim
  | cons x xs ih =>
    intro ts vs Q σ s ht h R
    subst ht
    cases vs with
    | nil => exact h.elim
    | cons v vs =>
      refine wpAny_assignInOrder_more (wpAny_bindName (wpAny_mono (h v rfl s R) (fun _ s₁ ⟨σ₁, R₁, h₁⟩ => ih rfl h₁ R₁) fun _ _ x => x))
end
end Mine
end

section
set_option Elab.async false
set_option linter.unusedVariables false
set_option autoImplicit false
namespace Mine

section
variable {cx : Cx} {A : Around} {σ : CS} {env : Env}
theorem cf_swapped {ts : List Expr} {value : Expr} {k : Nat} {tp pos : Pos} {names : List Str} {Q : Flow → CS → Prop}
    (h : CV cx A (eval value env) (fun v σ₁ => ∃ t vs, v = .ref t ∧ Sees σ₁ t (.tuple vs) ∧ vs.length = names.length ∧ Stores cx A env names.reverse vs.reverse (fun σ₂ => Q .next σ₂) σ₁) σ) (hh : A.handled = none)
    (hs : swapsWithSole [.Tuple ts k tp] value pos.line env = pure false) (hw : swappedStores [.Tuple ts k tp] value env = pure (some names)) :
    CF cx A (exec (.Assign [.Tuple ts k tp] value pos) env) Q σ := fun s R => by
  rw [arm_exec_Assign]
  refine wpAny_bind (wpAny_standAt ?_)
  rw [hs]
  refine wpAny_bind (wpAny_pure ?_)
  rw [if_neg (by decide)]
  refine wpAny_bind (wpAny_mono (h s R) (fun v s₁ ⟨σ₁, R₁, t, vs, e, ht, hl, hst⟩ => ?_) fun _ _ x => x)
  obtain rfl := nv_ref e
  obtain ⟨xs, htup, rfl⟩ := (ht.get R₁).isTuple
  rw [hw]
  refine wpAny_bind (wpAny_pure ?_)
  unfold assignStores
  refine wpAny_bind (wpAny_rule ?_)
  have hsz : names.length = xs.toArray.size := by simpa using hl.symm
  rw [hsz]
  refine wpAny_bind (wpAny_unpackItems_tuple hh htup fun h' hx => ?_)
  have R₂ : Rep cx σ₁ { s₁ with heap := h' } := R₁.grow (fun b o e => hx b o (Nat.ne_of_lt (Heap.lt_size e)) e) s₁.toks R₁.pos
  refine wpAny_bind (wpAny_mono (stores_run (xs := names.reverse) (vs := xs.reverse) rfl (by rw [List.map_reverse]; exact hst) R₂) (fun _ s₃ ⟨σ₃, R₃, h₃⟩ => wpAny_pure ⟨σ₃, R₃, h₃⟩) fun _ _ x => x)

noncomputable def nmT (nps : List (Str × Pos)) : List Expr := nps.map fun q => Expr.Name q.1 q.2
theorem assignEach_nmT : ∀ nps : List (Str × Pos), assignEach (nmT nps) env = nps.map fun q => (false, fun v => do standAt q.2; bindName env q.1 v)
  | [] => rfl
  | q :: r => by
    show (false, assign (.Name q.1 q.2) env) :: assignEach (nmT r) env = _
    rw [assignEach_nmT r]
    rfl
theorem stores_nmT : ∀ (nps : List (Str × Pos)) (vs : List Value) (Q : CS → Prop) (σ : CS) (s : Shared), Stores cx A env (nps.map (·.1)) (vs.map nv) Q σ → Rep cx σ s →
      wpAny (model cx.prog cx.w) A (assignInOrder (nps.map fun q => fun v => do standAt q.2; bindName env q.1 v) vs) (fun _ s' => ∃ σ', Rep cx σ' s' ∧ Q σ') (fun _ _ => False) s
  | [], [], Q, σ, s, h, R => wpAny_assignInOrder_none ⟨σ, R, h⟩
  | [], _ :: _, _, _, _, h, _ => h.elim
  | _ :: _, [], _, _, _, h, _ => h.elim
  | q :: r, v :: vs, Q, σ, s, h, R =>
    wpAny_assignInOrder_more (wpAny_bind (wpAny_standAt (wpAny_bindName (wpAny_mono (h v rfl s R) (fun _ s₁ ⟨σ₁, R₁, h₁⟩ => stores_nmT r vs Q σ₁ s₁ h₁ R₁) fun _ _ x => x))))
theorem assign_nmT {nps : List (Str × Pos)} {k : Nat} {tp : Pos} {v : Value} {t : Addr} {vs : List Value} {Q : CS → Prop} {s : Shared} (hv : nv v = .ref t) (hs : Sees σ t (.tuple vs)) (hl : vs.length = nps.length)
    (h : Stores cx A env (nps.map (·.1)) vs Q σ) (R : Rep cx σ s) (hh : A.handled = none) :
    wpAny (model cx.prog cx.w) A (assign (.Tuple (nmT nps) k tp) env v) (fun _ s' => ∃ σ', Rep cx σ' s' ∧ Q σ') (fun _ _ => False) s := by
  obtain rfl := nv_ref hv
  obtain ⟨xs, htup, rfl⟩ := (hs.get R).isTuple
  rw [List.length_map] at hl
  refine wpAny_assign_Tuple hh htup (by rw [assignEach_nmT]; simp [hl]) (by rw [assignEach_nmT]; simp) fun h' hx => ?_
  have R₂ : Rep cx σ { s with heap := h' } := R.grow (fun b o e => hx b o (Nat.ne_of_lt (Heap.lt_size e)) e) s.toks R.pos
  rw [assignEach_nmT, List.map_map]
  exact stores_nmT nps xs Q σ _ h R₂
theorem cf_unpack {value : Expr} {k : Nat} {tp pos : Pos} {nps : List (Str × Pos)} {Q : Flow → CS → Prop}
    (h : CV cx A (eval value env) (fun v σ₁ => ∃ t vs, v = .ref t ∧ Sees σ₁ t (.tuple vs) ∧ vs.length = nps.length ∧ Stores cx A env (nps.map (·.1)) vs (fun σ₂ => Q .next σ₂) σ₁) σ) (hh : A.handled = none)
    (hs : swapsWithSole [.Tuple (nmT nps) k tp] value pos.line env = pure false) (hw : swappedStores [.Tuple (nmT nps) k tp] value env = pure none) :
    CF cx A (exec (.Assign [.Tuple (nmT nps) k tp] value pos) env) Q σ := fun s R => by
  have step : ∀ v s₁, (∃ σ', Rep cx σ' s₁ ∧ ∃ t vs, nv v = .ref t ∧ Sees σ' t (.tuple vs) ∧ vs.length = nps.length ∧ Stores cx A env (nps.map (·.1)) vs (fun σ₂ => Q .next σ₂) σ') →
      wpAny (model cx.prog cx.w) A (assignAll v ((assignEach [.Tuple (nmT nps) k tp] env).map (·.2))) (fun _ s' => ∃ σ', Rep cx σ' s' ∧ Q .next σ') (fun _ _ => False) s₁ := by
    rintro v s₁ ⟨σ₁, R₁, t, vs, e, hsee, hl, hst⟩
    exact assign_nmT (k := k) e hsee hl hst R₁ hh
  exact wpAny_Assign_stores (wpAny_mono (h s R) step fun _ _ x => x) hs hw

-- while
theorem cf_while {test : Expr} {body orelse : List Stmt} {pos : Pos} {Q : Flow → CS → Prop} (J : Nat → CS → Prop) (n : Nat) (h : J n σ)
    (turn : ∀ n σ, J n σ → CB cx A (isTrue test env (eval test env)) (fun b σ₁ => if b then CF cx A (execs body env) (fun f σ₂ => match f with
        | .next | .cont => ∃ m, m < n ∧ J m σ₂
        | .brk => Q .next σ₂
        | .ret v => Q (.ret v) σ₂) σ₁ else CF cx A (execs orelse env) Q σ₁) σ) : CF cx A (exec (.While test body orelse pos) env) Q σ := fun s R => by
  refine wpAny_While (codeAny_whileLoop (fun n s => ∃ σ, Rep cx σ s ∧ J n σ) (fun n s ⟨σ, R, hJ⟩ => ?_) n ⟨σ, R, h⟩)
  refine wpAny_mono (turn n σ hJ s R) (fun b s₁ ⟨σ₁, R₁, h₁⟩ => ?_) fun _ _ x => x.elim
  cases b with
  | true =>
    refine wpAny_mono (h₁ s₁ R₁) (fun f s₂ ⟨σ₂, R₂, h₂⟩ => ?_) fun _ _ x => x.elim
    cases f with
    | next => obtain ⟨m, hm, hj⟩ := h₂; exact ⟨m, hm, σ₂, R₂, hj⟩
    | cont => obtain ⟨m, hm, hj⟩ := h₂; exact ⟨m, hm, σ₂, R₂, hj⟩
    | brk => exact ⟨σ₂, R₂, h₂⟩
    | ret v => exact ⟨σ₂, R₂, h₂⟩
  | false => exact wpAny_mono (h₁ s₁ R₁) (fun f s₂ ⟨σ₂, R₂, h₂⟩ => ⟨σ₂, R₂, h₂⟩) fun _ _ x => x.elim
end
end Mine
end

section
set_option Elab.async false
set_option linter.unusedVariables false
set_option autoImplicit false
namespace Mine

structure Src where
  k : Nat → ItK
  items : List Value
  P : CS → Prop

structure SrcOk (cx : Cx) (src : Src) : Prop where
  item : ∀ {A : Around} {S : List (Addr × CO)} {F : Fz} {it : Addr} {i : Nat} {v : Value} {s : Shared}, src.P ⟨(it, .iter (src.k i)) :: S, F⟩ → Rep cx ⟨(it, .iter (src.k i)) :: S, F⟩ s → src.items[i]? = some v →
    wpAny (model cx.prog cx.w) A (pyNext (.ref it)) (fun r s' => ∃ w, r = some w ∧ nv w = v ∧ Rep cx ⟨(it, .iter (src.k (i + 1))) :: S, F⟩ s') (fun _ _ => False) s
  fin : ∀ {A : Around} {S : List (Addr × CO)} {F : Fz} {it : Addr} {i : Nat} {s : Shared}, A.handled = none → src.P ⟨(it, .iter (src.k i)) :: S, F⟩ → Rep cx ⟨(it, .iter (src.k i)) :: S, F⟩ s → src.items[i]? = none →
    wpAny (model cx.prog cx.w) A (pyNext (.ref it)) (fun r s' => r = none ∧ Rep cx ⟨S, F⟩ s') (fun _ _ => False) s
  self : ∀ {A : Around} {S : List (Addr × CO)} {F : Fz} {it : Addr} {i : Nat} {s : Shared} {Q : Value → Shared → Prop}, Rep cx ⟨(it, .iter (src.k i)) :: S, F⟩ s → Q (.ref it) s → wpAny (model cx.prog cx.w) A (pyIter (.ref it)) Q (fun _ _ => False) s

theorem Rep.drop1 {cx : Cx} {S : List (Addr × CO)} {F : Fz} {a : Addr} {co : CO} {s : Shared} {h' : Heap} (r : Rep cx ⟨(a, co) :: S, F⟩ s) (hm : co.mut = true) (k : Heap.ExtBut a s.heap h') (t : Tok) (ht : 0 < t) : Rep cx ⟨S, F⟩ { s with heap := h', toks := t } := by
  have hn := r.nodup
  rw [List.map_cons, List.nodup_cons] at hn
  have hne : ∀ p ∈ S, p.1 ≠ a := fun p hp e => hn.1 (e ▸ List.mem_map_of_mem (f := (·.1)) hp)
  refine ⟨r.os, r.gens, ht, hn.2, ?_, fun p hp => ?_⟩
  · obtain ⟨B, f, e, n⟩ := r.fz
    have ha : B.get? a = none := n _ (.head _)
    exact ⟨B, f, fun b o q => k b o (fun z => by subst z; rw [ha] at q; cases q) (e b o q), fun p hp => n p (.tail _ hp)⟩
  · obtain ⟨b, c⟩ := p
    have x := r.at_ _ (List.Mem.tail _ hp)
    cases c with
    | tab c qs => exact TabOk.but x (r.at_ _ (.head _)) hm (hne _ hp) k
    | fn mk =>
      obtain ⟨o, pm, cv, ctv, e, c', d, q⟩ := x
      exact ⟨o, pm, cv, ctv, k _ _ (hne _ hp) e, c', d, codeRec_but q (r.at_ _ (.head _)) hm k⟩
    | _ =>
      obtain ⟨o, e⟩ := x.there
      exact x.local rfl ((k _ _ (hne _ hp) e).trans e.symm)

noncomputable def srcList (l : Addr) (items : List Value) : Src := ⟨fun i => .list l i, items, fun σ => Sees σ l (.list items)⟩
noncomputable def srcTuple (l : Addr) (items : List Value) : Src := ⟨fun i => .tuple l i, items, fun σ => Sees σ l (.tuple items)⟩
noncomputable def srcRange (a : Int) (n : Nat) : Src := ⟨fun i => .range (a + i) (n - i) 1, (List.range n).map fun i : Nat => In (a + i), fun _ => True⟩
noncomputable def srcDown (a : Int) (n : Nat) : Src := ⟨fun i => .range (a - i) (n - i) (-1), (List.range n).map fun i : Nat => In (a - i), fun _ => True⟩
noncomputable def srcStr (x : List Nat) : Src := ⟨fun i => .str ⟨x.toArray⟩ i, x.map fun c => St [c], fun _ => True⟩

theorem some_map {xs : List Value} {i : Nat} {v : Value} (h : (xs.map nv)[i]? = some v) : ∃ w, xs[i]? = some w ∧ nv w = v := by
  rw [List.getElem?_map] at h
  exact Option.map_eq_some_iff.mp h
theorem srcList_ok {cx : Cx} {l : Addr} {items : List Value} : SrcOk cx (srcList l items) where
  item := fun {A S F it i v s} hP R hi => by
    obtain ⟨xs, hl, rfl⟩ := (Sees.get hP R).isList
    obtain ⟨w, hw, e⟩ := some_map hi
    exact wpAny_pyNext_list_item (R.at_ _ (.head _) : ItK.At _ _ (.list l i)) hl (by simpa using hw) fun h' hit hs => ⟨w, rfl, e, R.upm (co' := .iter (.list l (i + 1))) .head rfl hs.extBut hit s.toks R.pos⟩
  fin := fun {A S F it i s} hh hP R hi => by
    obtain ⟨xs, hl, rfl⟩ := (Sees.get hP R).isList
    exact wpAny_pyNext_list_end hh (R.at_ _ (.head _) : ItK.At _ _ (.list l i)) hl (by simpa [srcList] using hi) fun h' hx => ⟨rfl, R.drop1 rfl hx s.toks R.pos⟩
  self := fun {A S F it i s Q} R h => wpAny_pyIter_listiter (R.at_ _ (.head _) : ItK.At _ _ (.list l i)) h
theorem srcTuple_ok {cx : Cx} {l : Addr} {items : List Value} : SrcOk cx (srcTuple l items) where
  item := fun {A S F it i v s} hP R hi => by
    obtain ⟨xs, hl, rfl⟩ := (Sees.get hP R).isTuple
    obtain ⟨w, hw, e⟩ := some_map hi
    exact wpAny_pyNext_tuple_item (R.at_ _ (.head _) : ItK.At _ _ (.tuple l i)) hl (by simpa using hw) fun h' hit hs => ⟨w, rfl, e, R.upm (co' := .iter (.tuple l (i + 1))) .head rfl hs.extBut hit s.toks R.pos⟩
  fin := fun {A S F it i s} hh hP R hi => by
    obtain ⟨xs, hl, rfl⟩ := (Sees.get hP R).isTuple
    exact wpAny_pyNext_tuple_end hh (R.at_ _ (.head _) : ItK.At _ _ (.tuple l i)) hl (by simpa [srcTuple] using hi) fun h' hx => ⟨rfl, R.drop1 rfl hx s.toks R.pos⟩
  self := fun {A S F it i s Q} R h => wpAny_pyIter_tupleiter (R.at_ _ (.head _) : ItK.At _ _ (.tuple l i)) h
theorem srcRange_ok {cx : Cx} {a : Int} {n : Nat} : SrcOk cx (srcRange a n) where
  item := fun {A S F it i v s} hP R hi => by
    have hlt : i < n := by have := (List.getElem?_eq_some_iff.mp hi).1; simpa [srcRange] using this
    have hv : In (a + i) = v := by simpa [srcRange, hlt] using hi
    subst hv
    refine wpAny_pyNext_range_item (R.at_ _ (.head _) : ItK.At _ _ (.range (a + i) (n - i) 1)) (by omega) fun h' hit hs => ⟨_, rfl, rfl, R.upm .head rfl hs.extBut ?_ _ (Nat.succ_pos _)⟩
    have e1 : a + (i : Int) + 1 = a + ((i + 1 : Nat) : Int) := by omega
    have e2 : (n : Int) - i - 1 = (n : Int) - ((i + 1 : Nat) : Int) := by omega
    rw [e1, e2] at hit
    exact hit
  fin := fun {A S F it i s} hh hP R hi => by
    have hge : n ≤ i := by have := List.getElem?_eq_none_iff.mp hi; simpa [srcRange] using this
    exact wpAny_pyNext_range_end hh (R.at_ _ (.head _) : ItK.At _ _ (.range (a + i) (n - i) 1)) (by omega) fun h' hx => ⟨rfl, R.drop1 rfl hx s.toks R.pos⟩
  self := fun {A S F it i s Q} R h => wpAny_pyIter_rangeiter (R.at_ _ (.head _) : ItK.At _ _ (.range (a + i) (n - i) 1)) h
theorem srcDown_ok {cx : Cx} {a : Int} {n : Nat} : SrcOk cx (srcDown a n) where
  item := fun {A S F it i v s} hP R hi => by
    have hlt : i < n := by have := (List.getElem?_eq_some_iff.mp hi).1; simpa [srcDown] using this
    have hv : In (a - i) = v := by simpa [srcDown, hlt] using hi
    subst hv
    refine wpAny_pyNext_range_item (R.at_ _ (.head _) : ItK.At _ _ (.range (a - i) (n - i) (-1))) (by omega) fun h' hit hs => ⟨_, rfl, rfl, R.upm .head rfl hs.extBut ?_ _ (Nat.succ_pos _)⟩
    have e1 : a - (i : Int) + -1 = a - ((i + 1 : Nat) : Int) := by omega
    have e2 : (n : Int) - i - 1 = (n : Int) - ((i + 1 : Nat) : Int) := by omega
    rw [e1, e2] at hit
    exact hit
  fin := fun {A S F it i s} hh hP R hi => by
    have hge : n ≤ i := by have := List.getElem?_eq_none_iff.mp hi; simpa [srcDown] using this
    exact wpAny_pyNext_range_end hh (R.at_ _ (.head _) : ItK.At _ _ (.range (a - i) (n - i) (-1))) (by omega) fun h' hx => ⟨rfl, R.drop1 rfl hx s.toks R.pos⟩
  self := fun {A S F it i s Q} R h => wpAny_pyIter_rangeiter (R.at_ _ (.head _) : ItK.At _ _ (.range (a - i) (n - i) (-1))) h
theorem srcStr_ok {cx : Cx} {x : List Nat} : SrcOk cx (srcStr x) where
  item := fun {A S F it i v s} hP R hi => by
    obtain ⟨t, hit⟩ := (R.at_ _ (.head _) : ItK.At _ _ (.str ⟨x.toArray⟩ i))
    obtain ⟨c, hc, e⟩ : ∃ c, x[i]? = some c ∧ St [c] = v := by
      have hi' : (x.map fun c => St [c])[i]? = some v := hi
      rw [List.getElem?_map] at hi'
      exact Option.map_eq_some_iff.mp hi'
    exact wpAny_pyNext_ascii_item hit (by simpa using hc) fun h' hit' hs => ⟨_, rfl, e, R.upm (co' := .iter (.str ⟨x.toArray⟩ (i + 1))) .head rfl hs.extBut ⟨t, hit'⟩ _ (Nat.succ_pos _)⟩
  fin := fun {A S F it i s} hh hP R hi => by
    obtain ⟨t, hit⟩ := (R.at_ _ (.head _) : ItK.At _ _ (.str ⟨x.toArray⟩ i))
    have hge : x.length ≤ i := by have := List.getElem?_eq_none_iff.mp hi; simpa [srcStr] using this
    exact wpAny_pyNext_ascii_end hh hit (by simpa using hge) fun h' hx => ⟨rfl, R.drop1 rfl hx s.toks R.pos⟩
  self := fun {A S F it i s Q} R h => by
    obtain ⟨t, hit⟩ := (R.at_ _ (.head _) : ItK.At _ _ (.str ⟨x.toArray⟩ i))
    exact wpAny_pyIter_striter_ascii hit h

section
variable {cx : Cx} {A : Around} {σ : CS} {env : Env}
noncomputable def Iter (cx : Cx) (A : Around) (x : Value) (src : Src) (K : Addr → List (Addr × CO) → Fz → Prop) (σ : CS) : Prop :=
  ∀ x' s, nv x' = x → Rep cx σ s → wpAny (model cx.prog cx.w) A (pyIter x') (fun v s' => ∃ it S F, v = .ref it ∧ Rep cx ⟨(it, .iter (src.k 0)) :: S, F⟩ s' ∧ K it S F) (fun _ _ => False) s
theorem iter_list {l : Addr} {vs : List Value} {S : List (Addr × CO)} {F : Fz} {K : Addr → List (Addr × CO) → Fz → Prop} (h : ∀ it, K it S F) (hl : Sees ⟨S, F⟩ l (.list vs)) : Iter cx A (.ref l) (srcList l vs) K ⟨S, F⟩ := fun x' s hx R => by
  obtain rfl := nv_ref hx
  obtain ⟨xs, hx, rfl⟩ := (hl.get R).isList
  exact wpAny_pyIter_list hx ⟨_, S, F, rfl, R.push (co := .iter (.list l 0)) ⟨_, Heap.get?_push_size _ rfl, rfl, rfl⟩ s.toks R.pos, h _⟩
theorem iter_tuple {l : Addr} {vs : List Value} {S : List (Addr × CO)} {F : Fz} {K : Addr → List (Addr × CO) → Fz → Prop} (h : ∀ it, K it S F) (hl : Sees ⟨S, F⟩ l (.tuple vs)) : Iter cx A (.ref l) (srcTuple l vs) K ⟨S, F⟩ := fun x' s hx R => by
  obtain rfl := nv_ref hx
  obtain ⟨xs, hx, rfl⟩ := (hl.get R).isTuple
  exact wpAny_pyIter_tuple hx ⟨_, S, F, rfl, R.push (co := .iter (.tuple l 0)) ⟨_, Heap.get?_push_size _ rfl, rfl, rfl⟩ s.toks R.pos, h _⟩
theorem iter_str {x : List Nat} {S : List (Addr × CO)} {F : Fz} {K : Addr → List (Addr × CO) → Fz → Prop} (h : ∀ it, K it S F) (hx : x.all (· < 128) = true) : Iter cx A (St x) (srcStr x) K ⟨S, F⟩ := fun x' s hx' R => by
  obtain ⟨t, rfl⟩ := nv_str hx'
  exact wpAny_pyIter_ascii (by simpa using hx) ⟨_, S, F, rfl, R.push (co := .iter (.str ⟨x.toArray⟩ 0)) ⟨t, _, Heap.get?_push_size _ rfl, rfl, rfl⟩ s.toks R.pos, h _⟩
theorem iter_range {r : Addr} {a b : Int} {n : Nat} {S S' : List (Addr × CO)} {F : Fz} {K : Addr → List (Addr × CO) → Fz → Prop} (h : ∀ it, K it S' F) (d : Del S (r, .rng a b 1) S') (hn : (b - a).toNat = n) (ha : -1000000000 ≤ a ∧ a ≤ 1000000000) (hb : -1000000000 ≤ b ∧ b ≤ 1000000000) :
    Iter cx A (.ref r) (srcRange a n) K ⟨S, F⟩ := fun x' s hx R => by
  obtain rfl := nv_ref hx
  obtain ⟨t, u, v, hr⟩ := (R.at_ _ (d.perm.mem_iff.mpr (.head _)) : ORel _ _ _)
  have hsz : Builtin.Range.rangeSize a b 1 = n := by rw [rangeSize_one]; split <;> omega
  have R' : Rep cx ⟨S', F⟩ s := R.weak d.pick fun _ x => x
  refine wpAny_pyIter_range hr (small_one (by omega) (by omega) (by omega) (by omega)) ⟨_, S', F, rfl, R'.push (co := .iter (.range (a + (0 : Nat)) (n - (0 : Nat)) 1)) ?_ s.toks R'.pos, h _⟩
  show ItK.At _ _ (.range (a + (0 : Nat)) (n - (0 : Nat)) 1)
  rw [hsz]
  simp only [Int.natCast_zero, Int.add_zero, Int.sub_zero]
  exact Heap.get?_push_size _ rfl
theorem iter_down {r : Addr} {a b : Int} {n : Nat} {S S' : List (Addr × CO)} {F : Fz} {K : Addr → List (Addr × CO) → Fz → Prop} (h : ∀ it, K it S' F) (d : Del S (r, .rng a b (-1)) S') (hn : (a - b).toNat = n) (ha : -1000000000 ≤ a ∧ a ≤ 1000000000) (hb : -1000000000 ≤ b ∧ b ≤ 1000000000) :
    Iter cx A (.ref r) (srcDown a n) K ⟨S, F⟩ := fun x' s hx R => by
  obtain rfl := nv_ref hx
  obtain ⟨t, u, v, hr⟩ := (R.at_ _ (d.perm.mem_iff.mpr (.head _)) : ORel _ _ _)
  have hsz : Builtin.Range.rangeSize a b (-1) = n := by
    unfold Builtin.Range.rangeSize
    rw [if_neg (by decide)]
    simp only [Int.neg_neg, Int.ediv_one]
    split <;> omega
  have hsm : Builtin.Range.small a b (-1) = true := by
    unfold Builtin.Range.small
    rw [hsz]
    simp only [Builtin.Range.rangeFitsLong, Bool.and_eq_true, decide_eq_true_eq, Bool.or_eq_true]
    have e : ¬ (-1 : Int) > 0 := by decide
    simp only [if_neg e]
    refine ⟨⟨⟨⟨⟨?_, ?_⟩, ?_, ?_⟩, ?_⟩, ?_⟩, .inr ?_⟩ <;> first | omega | (simp; omega)
  have R' : Rep cx ⟨S', F⟩ s := R.weak d.pick fun _ x => x
  refine wpAny_pyIter_range hr hsm ⟨_, S', F, rfl, R'.push (co := .iter (.range (a - (0 : Nat)) (n - (0 : Nat)) (-1))) ?_ s.toks R'.pos, h _⟩
  show ItK.At _ _ (.range (a - (0 : Nat)) (n - (0 : Nat)) (-1))
  rw [hsz]
  simp only [Int.natCast_zero, Int.sub_zero]
  exact Heap.get?_push_size _ rfl
theorem cal_range1 {b : Int} {S : List (Addr × CO)} {F : Fz} {Q : Value → CS → Prop} (h : ∀ d, Q (.ref d) ⟨(d, .rng 0 b 1) :: S, F⟩) : Cal cx A (.type "range") [In b] Q ⟨S, F⟩ := fun vs' hv s R => by
  obtain ⟨v, rfl, e⟩ := map1 hv
  obtain ⟨t, rfl⟩ := nv_int e
  exact call_range_1 ⟨_, R.push (co := .rng 0 b 1) ⟨_, _, _, Heap.get?_push_size _ rfl⟩ _ (Nat.succ_pos _), h _⟩
theorem cal_range2 {a b : Int} {S : List (Addr × CO)} {F : Fz} {Q : Value → CS → Prop} (h : ∀ d, Q (.ref d) ⟨(d, .rng a b 1) :: S, F⟩) : Cal cx A (.type "range") [In a, In b] Q ⟨S, F⟩ := fun vs' hv s R => by
  obtain ⟨v, w, rfl, e, e'⟩ := map2 hv
  obtain ⟨t, rfl⟩ := nv_int e
  obtain ⟨u, rfl⟩ := nv_int e'
  exact call_range_2 ⟨_, R.push (co := .rng a b 1) ⟨_, _, _, Heap.get?_push_size _ rfl⟩ _ (Nat.succ_pos _), h _⟩
theorem cal_range3 {a b c : Int} {S : List (Addr × CO)} {F : Fz} {Q : Value → CS → Prop} (hc : c ≠ 0) (hc' : c.natAbs < 1073741824) (h : ∀ d, Q (.ref d) ⟨(d, .rng a b c) :: S, F⟩) : Cal cx A (.type "range") [In a, In b, In c] Q ⟨S, F⟩ := fun vs' hv s R => by
  obtain ⟨v, w, z, rfl, e, e', e''⟩ := map3 hv
  obtain ⟨t, rfl⟩ := nv_int e
  obtain ⟨u, rfl⟩ := nv_int e'
  obtain ⟨x, rfl⟩ := nv_int e''
  exact call_range_3 hc ⟨_, R.push (co := .rng a b c) ⟨_, _, _, Heap.get?_push_size _ rfl⟩ _ R.pos, h _⟩ (.inl (PyProof.noPylong_small hc'))

-- for
noncomputable def LoopEnd (it : Addr) (k : ItK) (J : List (Addr × CO) → Fz → Prop) (σ : CS) : Prop := ∃ S F, Pick σ.S ((it, .iter k) :: S) ∧ Fz.Le σ.F F ∧ J S F
theorem cf_for {target iter : Expr} {body orelse : List Stmt} {pos : Pos} {Q : Flow → CS → Prop} (src : Src) (ok : SrcOk cx src) (J : Nat → List (Addr × CO) → Fz → Prop) (hh : A.handled = none)
    (h : CV cx A (eval iter env) (fun x σ₁ => Iter cx A x src (fun _ S F => J 0 S F) σ₁) σ)
    (hP : ∀ k it S F, J k S F → src.P ⟨(it, .iter (src.k k)) :: S, F⟩)
    (turn : ∀ k it S F v, J k S F → src.items[k]? = some v → ∀ v', nv v' = v → CU cx A (assign target env v') (fun σ₁ => CF cx A (execs body env) (fun f σ₂ => match f with
        | .next | .cont => LoopEnd it (src.k (k + 1)) (J (k + 1)) σ₂
        | .brk => Q .next σ₂
        | .ret v => Q (.ret v) σ₂) σ₁) ⟨(it, .iter (src.k (k + 1))) :: S, F⟩)
    (fin : ∀ S F, J src.items.length S F → CF cx A (execs orelse env) Q ⟨S, F⟩)
    (hs : ∀ x, foldedSetIterable iter env x = pure x) (ht : ∀ it v, letOwnedTupleGo target it v = pure ()) :
    CF cx A (exec (.For target iter body orelse pos) env) Q σ := fun s R => by
  refine wpAny_For (wpAny_mono (h s R) (fun x s₁ ⟨σ₁, R₁, h₁⟩ => wpAny_mono (h₁ x s₁ rfl R₁) (fun itv s₂ h₂ => ?_) fun _ _ x => x) fun _ _ x => x) hs
  obtain ⟨it, S, F, rfl, R₂, hJ⟩ := h₂
  refine codeAny_forLoop (fun n s => ∃ k S F, n = src.items.length - k ∧ k ≤ src.items.length ∧ Rep cx ⟨(it, .iter (src.k k)) :: S, F⟩ s ∧ J k S F) ?_ src.items.length ⟨0, S, F, rfl, Nat.zero_le _, R₂, hJ⟩ (fun v => ht _ v)
  rintro n s ⟨k, S, F, rfl, hk, R, hJ⟩
  rcases Nat.lt_or_ge k src.items.length with hlt | hge
  · have hi : src.items[k]? = some src.items[k] := List.getElem?_eq_getElem hlt
    refine wpAny_mono (ok.item (hP k it S F hJ) R hi) (fun r s₁ h₁ => ?_) fun _ _ x => x.elim
    obtain ⟨w, rfl, e, R₁⟩ := h₁
    refine wpAny_mono (turn k it S F _ hJ hi w e s₁ R₁) (fun _ s₂ ⟨σ₂, R₂, h₂⟩ => ?_) fun _ _ x => x.elim
    refine wpAny_mono (h₂ s₂ R₂) (fun f s₃ ⟨σ₃, R₃, h₃⟩ => ?_) fun _ _ x => x.elim
    have again : LoopEnd it (src.k (k + 1)) (J (k + 1)) σ₃ → ∃ m, m < src.items.length - k ∧ ∃ k S F, m = src.items.length - k ∧ k ≤ src.items.length ∧ Rep cx ⟨(it, .iter (src.k k)) :: S, F⟩ s₃ ∧ J k S F := by
      rintro ⟨S', F', hp, hf, hj⟩
      exact ⟨src.items.length - (k + 1), by omega, k + 1, S', F', rfl, hlt, R₃.weak hp hf, hj⟩
    cases f with
    | next => exact again h₃
    | cont => exact again h₃
    | brk => exact ⟨σ₃, R₃, h₃⟩
    | ret v => exact ⟨σ₃, R₃, h₃⟩
  · obtain rfl : k = src.items.length := Nat.le_antisymm hk hge
    refine wpAny_mono (ok.fin hh (hP _ it S F hJ) R (List.getElem?_eq_none (Nat.le_refl _))) (fun r s₁ h₁ => ?_) fun _ _ x => x.elim
    obtain ⟨rfl, R₁⟩ := h₁
    exact wpAny_mono (fin S F hJ s₁ R₁) (fun f s₂ ⟨σ₂, R₂, h₂⟩ => ⟨σ₂, R₂, h₂⟩) fun _ _ x => x.elim
theorem cu_assign_name {x : Str} {p : Pos} {v' v : Value} {Q : CS → Prop} (hv : nv v' = v) (h : Store cx A env x v Q σ) : CU cx A (assign (.Name x p) env v') Q σ := fun s R =>
  wpAny_assign_Name (wpAny_mono (h v' hv s R) (fun _ _ x => x) fun _ _ x => x)
end
end Mine
end

section
set_option Elab.async false
set_option linter.unusedVariables false
set_option autoImplicit false
namespace Mine

section
variable {cx : Cx} {A : Around} {σ : CS} {env : Env}

noncomputable def Cells : List (Str × NameKind) → List (Str × Addr) → (List (Str × Addr) → CS → Prop) → CS → Prop
  | [], acc, K, σ => K acc σ
  | (n, k) :: r, acc, K, σ => if k == .cell then ∀ c, Cells r ((n, c) :: acc) K ⟨(c, .cell none) :: σ.S, σ.F⟩ else Cells r acc K σ
noncomputable def Binds (cx : Cx) (A : Around) (env : Env) : List (Str × Value) → (CS → Prop) → CS → Prop
  | [], K, σ => K σ
  | (n, v) :: r, K, σ => Store cx A env n v (fun σ₁ => Binds cx A env r K σ₁) σ
noncomputable def nones (xs : List Str) : List (Str × Option Value) := xs.map fun x => (x, none)
theorem cells_step {n : Str} {k : NameKind} {r : List (Str × NameKind)} {acc : List (Str × Addr)} {K : List (Str × Addr) → CS → Prop} (hk : (k == .cell) = false) (h : Cells r acc K σ) : Cells ((n, k) :: r) acc K σ := by
  unfold Cells; rw [if_neg (by rw [hk]; decide)]; exact h
theorem cells_cell {n : Str} {r : List (Str × NameKind)} {acc : List (Str × Addr)} {K : List (Str × Addr) → CS → Prop} (h : ∀ c, Cells r ((n, c) :: acc) K ⟨(c, .cell none) :: σ.S, σ.F⟩) : Cells ((n, .cell) :: r) acc K σ := by
  unfold Cells; exact h
theorem cells_none {names : List (Str × NameKind)} {acc : List (Str × Addr)} {K : List (Str × Addr) → CS → Prop} (hn : names.all (fun x => !(x.2 == .cell)) = true) (h : K acc σ) : Cells names acc K σ := by
  induction names with
  | nil => exact h
  | cons x r ih =>
    rw [List.all_cons, Bool.and_eq_true] at hn
    exact cells_step (by simpa using hn.1) (ih hn.2)

theorem binds_run {M : List (Str × Value)} : ∀ {K : CS → Prop} {σ : CS} {s : Shared} {P : Unit → Shared → Prop}, Binds cx A env (M.map fun p => (p.1, nv p.2)) K σ → Rep cx σ s → (∀ σ' s', Rep cx σ' s' → K σ' → P () s') →
    wpAny (model cx.prog cx.w) A (forIn M PUnit.unit fun x _ => do storeName env x.1 x.2; pure (ForInStep.yield PUnit.unit)) P (fun _ _ => False) s := by
  induction M with
  | nil => intro K σ s P h R hP; simp only [List.forIn_nil]; exact wpAny_pure (hP _ _ R h)
  | cons x r ih =>
    intro K σ s P h R hP
    simp only [List.forIn_cons]
    refine wpAny_bind (wpAny_bind (wpAny_mono (h x.2 rfl s R) (fun _ s₁ ⟨σ₁, R₁, h₁⟩ => wpAny_pure ?_) fun _ _ x => x))
    exact ih h₁ R₁ hP
theorem cells_run {α : Type} {names : List (Str × NameKind)} : ∀ {acc : List (Str × Addr)} {K : List (Str × Addr) → CS → Prop} {σ : CS} {s : Shared} {P : List (Str × Addr) → Shared → Prop}, Cells names acc K σ → Rep cx σ s → (∀ cs σ' s', Rep cx σ' s' → K cs σ' → P cs s') →
    wpAny (model cx.prog cx.w) A (forIn names acc fun x r => if x.2 == NameKind.cell then do let c ← alloc { cls := .type "cell", data := .cell none }; pure (ForInStep.yield ((x.1, c) :: r)) else pure (ForInStep.yield r)) P (fun _ _ => False) s := by
  induction names with
  | nil => intro acc K σ s P h R hP; simp only [List.forIn_nil]; exact wpAny_pure (hP _ _ _ R h)
  | cons x r ih =>
    intro acc K σ s P h R hP
    obtain ⟨n, k⟩ := x
    unfold Cells at h
    simp only [List.forIn_cons]
    cases hk : (k == NameKind.cell) with
    | true =>
      rw [hk] at h
      simp only [if_true] at h ⊢
      refine wpAny_bind (wpAny_bind (wpAny_alloc (wpAny_pure ?_)))
      exact ih (h _) (R.push (co := .cell none) ⟨none, ⟨_, Heap.get?_push_size _ rfl, rfl⟩, rfl⟩ s.toks R.pos) hP
    | false =>
      rw [hk] at h
      simp only [Bool.false_eq_true, if_false] at h ⊢
      exact wpAny_bind (wpAny_pure (ih h R hP))

theorem nones_rel {h : Heap} {a : Addr} {xs : List Str} (hx : xs.Nodup) (hn : h.Ns a (fun _ => none)) : ORel h a (.ns (nones xs)) := by
  refine ⟨?_, _, hn, fun p hp => ?_⟩
  · unfold nones; rw [List.map_map]; show (List.map (fun x => x) xs).Nodup; rw [List.map_id']; exact hx
  · obtain ⟨x, _, rfl⟩ := List.mem_map.mp hp; rfl

theorem new_env {scope : Scope} {globals : Addr} {closure : List (Str × Addr)} {binds : List (Str × Value)} {qual : Str} {func : Option Addr} {code : Value} {around : Option Env} {builtins : Addr} {Q : Env → CS → Prop} {S : List (Addr × CO)} {F : Fz} {s : Shared} (R : Rep cx ⟨S, F⟩ s)
    (xs : List Str) (hx : xs.Nodup) (h : ∀ L, Cells scope.names closure (fun cells σ₁ => Binds cx A (newEnv scope L globals cells qual func code around builtins) (binds.map fun p => (p.1, nv p.2)) (fun σ₂ => Q (newEnv scope L globals cells qual func code around builtins) σ₂) σ₁) ⟨(L, .ns (nones xs)) :: S, F⟩) :
    wpAny (model cx.prog cx.w) A (newFunctionEnv scope globals closure binds qual func code around builtins) (fun env s' => ∃ σ', Rep cx σ' s' ∧ Q env σ') (fun _ _ => False) s := by
  cases around with
  | none =>
    simp only [newFunctionEnv, Option.isSome_none, Bool.false_eq_true, if_false]
    simp only [newEnv] at h
    refine wpAny_bind (wpAny_alloc ?_)
    have R₁ := R.push (o := { cls := .type "frame", data := .dict #[] }) (nones_rel hx (Heap.Ns.new ..)) s.toks R.pos
    refine wpAny_bind (cells_run (α := Unit) (h _) R₁ fun cs σ' s' R' h' => ?_)
    exact wpAny_bind (binds_run h' R' fun σ₂ s₂ R₂ h₂ => wpAny_pure ⟨σ₂, R₂, h₂⟩)
  | some outer =>
    simp only [newFunctionEnv, Option.isSome_some, if_true]
    simp only [newEnv] at h
    refine wpAny_bind (wpAny_alloc ?_)
    have R₁ := R.push (o := { cls := .type "dict", data := .dict #[] }) (nones_rel hx (Heap.Ns.new ..)) s.toks R.pos
    refine wpAny_bind (cells_run (α := Unit) (h _) R₁ fun cs σ' s' R' h' => ?_)
    exact wpAny_bind (binds_run h' R' fun σ₂ s₂ R₂ h₂ => wpAny_pure ⟨σ₂, R₂, h₂⟩)
theorem cal_code {fd : FuncData} {a : Addr} {body : List Stmt} {vs : List Value} {S : List (Addr × CO)} {F : Fz} {Q : Value → CS → Prop} (names xs : List Str)
    (hd : A.depth < recursionLimit) (hfn : ∀ s, Rep cx ⟨S, F⟩ s → s.heap.NoLimit ∧ s.heap.CodeRec fd.code fd.qualname ∧ ∃ o, s.heap.get? a = some o ∧ o.data = .func fd)
    (hbody : fd.body = .stmts body) (hb : ∀ vs' : List Value, vs'.length = vs.length → bindArgs fd ⟨vs', []⟩ = pure (names.zip vs')) (hx : xs.Nodup)
    (hco : fd.scope.isCoroutine = false) (hgen : fd.scope.isGenerator = false)
    (h : ∀ L, Cells fd.scope.names fd.closure (fun cells σ₁ => Binds cx A.in1 (newEnv fd.scope L fd.globals cells (fd.qualname ++ ".<locals>.") (some a) fd.code none fd.builtins) (names.zip vs) (fun σ₂ =>
        (∀ s', Rep cx σ₂ s' → s'.heap.NoLimit) ∧ CF cx (A.deeper (newEnv fd.scope L fd.globals cells (fd.qualname ++ ".<locals>.") (some a) fd.code none fd.builtins)) (execs body (newEnv fd.scope L fd.globals cells (fd.qualname ++ ".<locals>.") (some a) fd.code none fd.builtins))
          (fun f σ₃ => Q (match f with | .ret v => v | _ => .none) σ₃) σ₂) σ₁) ⟨(L, .ns (nones xs)) :: S, F⟩) :
    Cal cx A (.ref a) vs Q ⟨S, F⟩ := fun vs' hv s R => by
  obtain ⟨hlim, hcd, o, ho, hfd⟩ := hfn s R
  refine wpAny_call (codeAny_call_function hd ho hfd hco hgen hbody hcd ?_)
  rw [hb vs' (by rw [← hv, List.length_map])]
  refine wpAny_pure ?_
  have hz : (names.zip vs').map (fun p => (p.1, nv p.2)) = names.zip vs := by
    rw [← hv, List.zip_map_right]; rfl
  refine wpAny_mono (new_env (A := A.in1) (binds := names.zip vs') (Q := fun env σ₂ => (∀ s', Rep cx σ₂ s' → s'.heap.NoLimit) ∧ CF cx (A.deeper env) (execs body env) (fun f σ₃ => Q (match f with | .ret v => v | _ => .none) σ₃) σ₂) R xs hx (fun L => by rw [hz]; exact h L)) (fun env s₂ ⟨σ₂, R₂, h₂⟩ => ?_) fun _ _ x => x.elim
  refine ⟨h₂.1 _ R₂, codeAny_func (wpAny_mono (h₂.2 s₂ R₂) (fun f s₃ ⟨σ₃, R₃, h₃⟩ => ?_) fun _ _ x => x.elim)⟩
  refine ⟨σ₃, R₃, ?_⟩
  cases f <;> exact h₃
end
end Mine
end

section
set_option Elab.async false
set_option linter.unusedVariables false
set_option autoImplicit false
namespace Mine

section
variable {cx : Cx} {A : Around} {σ : CS} {env : Env}

noncomputable def Tests (cx : Cx) (A : Around) (env : Env) (ifs : List Expr) (Q : Bool → CS → Prop) (σ : CS) : Prop :=
  CB cx A (forIn ifs true fun c r => if r = true then do let ok ← isTrue c env (eval c env); pure (ForInStep.yield ok) else pure (ForInStep.yield r)) Q σ
theorem tests_nil {Q : Bool → CS → Prop} (h : Q true σ) : Tests cx A env [] Q σ := fun s R => wpAny_tests_nil ⟨σ, R, h⟩
theorem tests_one {c : Expr} {Q : Bool → CS → Prop} (h : CB cx A (isTrue c env (eval c env)) Q σ) : Tests cx A env [c] Q σ := fun s R => wpAny_tests_one (h s R)
noncomputable def CompLoop (cx : Cx) (A : Around) (env : Env) (elt target iter : Expr) (ifs : List Expr) (src : Src) (it acc : Addr) (J : Nat → List (Addr × CO) → Fz → Prop) (K : CS → Prop) (σ : CS) : Prop :=
  LoopEnd it (src.k 0) (J 0) σ ∧ (∀ k S F, J k S F → src.P ⟨(it, .iter (src.k k)) :: S, F⟩) ∧
  (∀ k S F v, J k S F → src.items[k]? = some v → ∀ v', nv v' = v → CU cx A (assign target env v') (fun σ₁ => Tests cx A env ifs (fun ok σ₂ => if ok then
      CV cx A (eval elt env) (fun y σ₃ => Cal cx A (.builtin "list.append") [.ref acc, y] (fun _ σ₄ => LoopEnd it (src.k (k + 1)) (J (k + 1)) σ₄) σ₃) σ₂
      else LoopEnd it (src.k (k + 1)) (J (k + 1)) σ₂) σ₁) ⟨(it, .iter (src.k (k + 1))) :: S, F⟩) ∧
  (∀ S F, J src.items.length S F → K ⟨S, F⟩)

theorem compLoop_run {elt target iter : Expr} {ifs : List Expr} {scope : Scope} {pos : Pos} {src : Src} (ok : SrcOk cx src) {it acc : Addr} {J : Nat → List (Addr × CO) → Fz → Prop} {K : CS → Prop} {R : Result → Shared → Prop} {s : Shared}
    (hh : A.handled = none) (h : CompLoop cx A env elt target iter ifs src it acc J K σ) (r : Rep cx σ s) (hK : ∀ σ' s', Rep cx σ' s' → K σ' → R (.ok .next) s') (ht : ∀ v, letOwnedTupleGo target (.ref it) v = pure ()) :
    codeAny (model cx.prog cx.w) A (.compStart (.ListComp elt [⟨target, iter, ifs, 0⟩] scope pos) 0 (.ref it) (.ref acc) env) R s := by
  obtain ⟨h0, hP, turn, fin⟩ := h
  have loop : ∀ s, (∃ k S F, k ≤ src.items.length ∧ Rep cx ⟨(it, .iter (src.k k)) :: S, F⟩ s ∧ J k S F) → codeAny (model cx.prog cx.w) A (.compLoop (.ListComp elt [⟨target, iter, ifs, 0⟩] scope pos) 0 (.ref it) (.ref acc) env) R s := by
    rintro s ⟨k, S, F, hk, Rs, hJ⟩
    refine codeAny_compLoop_tests (fun n s => ∃ k S F, n = src.items.length - k ∧ k ≤ src.items.length ∧ Rep cx ⟨(it, .iter (src.k k)) :: S, F⟩ s ∧ J k S F) ?_ (src.items.length - k) ⟨k, S, F, rfl, hk, Rs, hJ⟩ ht
    rintro n s ⟨k, S, F, rfl, hk, Rs, hJ⟩
    rcases Nat.lt_or_ge k src.items.length with hlt | hge
    · have hi : src.items[k]? = some src.items[k] := List.getElem?_eq_getElem hlt
      refine wpAny_mono (ok.item (hP k S F hJ) Rs hi) (fun r s₁ h₁ => ?_) fun _ _ x => x.elim
      obtain ⟨w, rfl, e, R₁⟩ := h₁
      have again : ∀ {σ₃ s₃}, Rep cx σ₃ s₃ → LoopEnd it (src.k (k + 1)) (J (k + 1)) σ₃ → ∃ m, m < src.items.length - k ∧ ∃ k S F, m = src.items.length - k ∧ k ≤ src.items.length ∧ Rep cx ⟨(it, .iter (src.k k)) :: S, F⟩ s₃ ∧ J k S F := by
        rintro σ₃ s₃ R₃ ⟨S', F', hp, hf, hj⟩
        exact ⟨src.items.length - (k + 1), by omega, k + 1, S', F', rfl, hlt, R₃.weak hp hf, hj⟩
      refine wpAny_mono (turn k S F _ hJ hi w e s₁ R₁) (fun _ s₂ ⟨σ₂, R₂, h₂⟩ => ?_) fun _ _ x => x.elim
      refine wpAny_mono (h₂ s₂ R₂) (fun b s₃ ⟨σ₃, R₃, h₃⟩ => ?_) fun _ _ x => x.elim
      cases b with
      | false => exact again R₃ h₃
      | true =>
        simp only [if_true] at h₃ ⊢
        refine wpAny_mono (h₃ s₃ R₃) (fun y s₄ ⟨σ₄, R₄, h₄⟩ => ?_) fun _ _ x => x.elim
        exact wpAny_mono (h₄ [.ref acc, y] rfl s₄ R₄) (fun _ s₅ ⟨σ₅, R₅, h₅⟩ => again R₅ h₅) fun _ _ x => x.elim
    · obtain rfl : k = src.items.length := Nat.le_antisymm hk hge
      refine wpAny_mono (ok.fin hh (hP _ S F hJ) Rs (List.getElem?_eq_none (Nat.le_refl _))) (fun r s₁ h₁ => ?_) fun _ _ x => x.elim
      obtain ⟨rfl, R₁⟩ := h₁
      exact hK _ _ R₁ (fin S F hJ)
  obtain ⟨S, F, hp, hf, hj⟩ := h0
  have R0 := r.weak hp hf
  exact codeAny_compStart_list (loop s ⟨0, S, F, Nat.zero_le _, R0, hj⟩) (wpAny_mono (ok.self (Q := fun it' s' => codeAny (model cx.prog cx.w) A (.compLoop (.ListComp elt [⟨target, iter, ifs, 0⟩] scope pos) 0 it' (.ref acc) env) R s') R0 (loop s ⟨0, S, F, Nat.zero_le _, R0, hj⟩)) (fun _ _ x => x) fun _ _ x => x.elim)
noncomputable def CompBody (cx : Cx) (A : Around) (env : Env) (scope : Scope) (cl : List (Str × Addr)) (elt target iter : Expr) (ifs : List Expr) (src : Src) (xs : List Str) (K : Addr → Addr → CS → Prop) (it : Addr) (S : List (Addr × CO)) (F : Fz) : Prop :=
  ∀ acc C, Cells scope.names cl (fun cells σ₁ => ∃ J, CompLoop cx A (compEnvC scope cells C env) elt target iter ifs src it acc J (K acc C) σ₁)
    ⟨(C, .ns (nones xs)) :: (acc, .list []) :: (it, .iter (src.k 0)) :: S, F⟩
noncomputable def DropNs (C : Addr) (Q : CS → Prop) (σ : CS) : Prop := ∃ m S, Del σ.S (C, .ns m) S ∧ Q ⟨S, σ.F⟩
theorem dropNs {C : Addr} {Q : CS → Prop} {s : Shared} (h : DropNs C Q σ) (R : Rep cx σ s) : ∃ m, s.heap.Ns C m ∧ ∀ h', Heap.SameBut C s.heap h' → ∃ σ', Rep cx σ' { s with heap := h' } ∧ Q σ' := by
  obtain ⟨m, S', d, q⟩ := h
  obtain ⟨S, F⟩ := σ
  have R' : Rep cx ⟨(C, .ns m) :: S', F⟩ s := R.weak (.cons d (.refl S')) fun _ x => x
  obtain ⟨_, m', hn, _⟩ := (R'.at_ _ (.head _) : ORel _ _ _)
  exact ⟨m', hn, fun h' hs => ⟨_, R'.drop1 rfl hs.extBut s.toks R.pos, q⟩⟩

theorem comp_run {elt target iter : Expr} {ifs : List Expr} {scope : Scope} {pos : Pos} {cl : List (Str × Addr)} {src : Src} (ok : SrcOk cx src) (xs : List Str) {use : Option (Value → Sem Unit)} {K : Addr → Addr → CS → Prop} {Q : Value → Shared → Prop} {s : Shared}
    (hx : xs.Nodup) (hh : A.handled = none) (hclos : closureFor scope env = pure cl) (hkind : scope.kind = .function) (hnames : ∀ x ∈ scope.names, x.2 = .local → scope.names.lookup x.1 = some .local)
    (hs : ∀ x, foldedSetIterable iter env x = pure x) (ht : ∀ it v, letOwnedTupleGo target it v = pure ())
    (h : CV cx A (eval iter env) (fun x σ₁ => Iter cx A x src (CompBody cx A env scope cl elt target iter ifs src xs K) σ₁) σ) (R : Rep cx σ s)
    (hK : ∀ acc C σ' s', Rep cx σ' s' → K acc C σ' → compPost (model cx.prog cx.w) A (fun _ _ => False) use Q (.ref acc) C (.ok .next) s') :
    wpAny (model cx.prog cx.w) A (comprehension (.ListComp elt [⟨target, iter, ifs, 0⟩] scope pos) scope env (firstIterPos [⟨target, iter, ifs, 0⟩] pos) (newList []) false (eval iter env) use) Q (fun _ _ => False) s := by
  refine wpAny_comprehension_free rfl hs hclos hkind hnames (wpAny_mono (h s R) (fun x s₁ ⟨σ₁, R₁, h₁⟩ => wpAny_mono (h₁ x s₁ rfl R₁) (fun itv s₂ h₂ => ?_) fun _ _ x => x) fun _ _ x => x)
  obtain ⟨it, S, F, rfl, R₂, hB⟩ := h₂
  refine wpAny_newObj_type ?_
  have R₃ := R₂.push (o := { cls := .type "list", dict := none, data := .seq ([] : List Value).toArray }) (co := .list []) ⟨#[], _, Heap.get?_push_size _ rfl, rfl⟩ s₂.toks R₂.pos
  refine wpAny_mono (new_env (A := A) (binds := []) (Q := fun cenv σ₁ => ∃ C cells J, cenv = newEnv scope C env.globals cells env.qual none .none (some env) builtinsNs ∧ CompLoop cx A (compEnvC scope cells C env) elt target iter ifs src it s₂.heap.objs.size J (K s₂.heap.objs.size C) σ₁) R₃ xs hx (fun L => ?_)) (fun cenv s₄ h₄ => ?_) fun _ _ x => x
  · have := hB s₂.heap.objs.size L
    have mono : ∀ {names acc} {K K' : List (Str × Addr) → CS → Prop} {σ}, (∀ cs σ, K cs σ → K' cs σ) → Cells names acc K σ → Cells names acc K' σ := by
      intro names
      induction names with
      | nil => intro acc K K' σ hk h; exact hk _ _ h
      | cons x r ih =>
        intro acc K K' σ hk h
        obtain ⟨n, k⟩ := x
        unfold Cells at h ⊢
        split
        · rename_i q; rw [if_pos q] at h; exact fun c => ih hk (h c)
        · rename_i q; rw [if_neg q] at h; exact ih hk h
    exact mono (fun cells σ₁ ⟨J, h⟩ => ⟨L, cells, J, rfl, h⟩) this
  · obtain ⟨σ₄, R₄, C, cells, J, rfl, hL⟩ := h₄
    exact codeAny_mono (compLoop_run (R := fun r s' => match r with
      | .ok .next => compPost (model cx.prog cx.w) A (fun _ _ => False) use Q (.ref s₂.heap.objs.size) C (.ok .next) s'
      | _ => False) ok hh hL R₄ (fun σ' s' R' k => hK _ _ _ _ R' k) (ht _)) fun r s' hr => by
        rcases r with x | f
        · exact hr.elim
        · cases f with
          | next => exact hr
          | _ => exact hr.elim

theorem cv_listcomp {elt target iter : Expr} {ifs : List Expr} {scope : Scope} {pos : Pos} {cl : List (Str × Addr)} {Q : Value → CS → Prop} (src : Src) (ok : SrcOk cx src) (xs : List Str)
    (h : CV cx A (eval iter env) (fun x σ₁ => Iter cx A x src (CompBody cx A env scope cl elt target iter ifs src xs (fun acc C => DropNs C (fun σ₂ => Q (.ref acc) σ₂))) σ₁) σ)
    (hx : xs.Nodup) (hh : A.handled = none) (hclos : closureFor scope env = pure cl) (hkind : scope.kind = .function) (hnames : ∀ x ∈ scope.names, x.2 = .local → scope.names.lookup x.1 = some .local)
    (hs : ∀ x, foldedSetIterable iter env x = pure x) (ht : ∀ it v, letOwnedTupleGo target it v = pure ()) :
    CV cx A (eval (.ListComp elt [⟨target, iter, ifs, 0⟩] scope pos) env) Q σ := fun s R => by
  rw [eval_ListComp]
  exact comp_run ok xs (use := none) hx hh hclos hkind hnames hs ht h R fun acc C σ' s' R' k => dropNs k R'
theorem cf_assign_comp {x : Str} {pos' spos : Pos} {elt target iter : Expr} {ifs : List Expr} {scope : Scope} {pos : Pos} {cl : List (Str × Addr)} {Q : Flow → CS → Prop} (src : Src) (ok : SrcOk cx src) (xs : List Str)
    (h : CV cx A (eval iter env) (fun x' σ₁ => Iter cx A x' src (CompBody cx A env scope cl elt target iter ifs src xs (fun acc C σ₂ => Store cx A env x (.ref acc) (fun σ₃ => DropNs C (fun σ₄ => Q .next σ₄) σ₃) σ₂)) σ₁) σ)
    (hsw : swapsWith (.ListComp elt [⟨target, iter, ifs, 0⟩] scope pos) (some (.Name x pos')) spos.line env = pure true)
    (hx : xs.Nodup) (hh : A.handled = none) (hclos : closureFor scope env = pure cl) (hkind : scope.kind = .function) (hnames : ∀ x ∈ scope.names, x.2 = .local → scope.names.lookup x.1 = some .local)
    (hs : ∀ x, foldedSetIterable iter env x = pure x) (ht : ∀ it v, letOwnedTupleGo target it v = pure ()) :
    CF cx A (exec (.Assign [.Name x pos'] (.ListComp elt [⟨target, iter, ifs, 0⟩] scope pos) spos) env) Q σ := fun s R => by
  rw [exec_Assign_Name_used _ _ _ _ hsw]
  refine wpAny_bind (wpAny_standAt (wpAny_bind ?_))
  show wpAny _ A (do let _ ← comprehension (.ListComp elt [⟨target, iter, ifs, 0⟩] scope pos) scope env _ (newList []) false (eval iter env) (some (assign (.Name x pos') env))) _ _ s
  refine wpAny_bind (wpAny_mono (comp_run ok xs (use := some (assign (.Name x pos') env)) (Q := fun _ s' => ∃ σ', Rep cx σ' s' ∧ Q .next σ') hx hh hclos hkind hnames hs ht h R fun acc C σ' s' R' k => ?_) (fun _ s' hq => wpAny_pure (wpAny_pure hq)) fun _ _ e => e)
  exact wpAny_assign_Name (wpAny_mono (k (.ref acc) rfl s' R') (fun _ s₂ ⟨σ₂, R₂, h₂⟩ => dropNs h₂ R₂) fun _ _ x => x)
end
end Mine
end

section
set_option Elab.async false
set_option linter.unusedVariables false
set_option autoImplicit false
namespace Mine

section
variable {cx : Cx} {A : Around} {env : Env}

noncomputable def Back (S' : List (Addr × CO)) (F : Fz) (σ : CS) : Prop := Pick σ.S S' ∧ Fz.Le σ.F F
theorem back_refl {S : List (Addr × CO)} {F : Fz} : Back S F ⟨S, F⟩ := ⟨.refl _, fun _ x => x⟩

theorem take_fm {α β : Type} (f : α → Option β) (l : List α) (k : Nat) (v : α) (h : l[k]? = some v) : (l.take (k + 1)).filterMap f = (l.take k).filterMap f ++ (match f v with | some y => [y] | none => []) := by
  have hk : k < l.length := (List.getElem?_eq_some_iff.mp h).1
  have e : l.take (k + 1) = l.take k ++ [v] := by rw [List.take_add_one, h]; rfl
  rw [e, List.filterMap_append]
  cases q : f v <;> simp [q]

theorem pure_body {scope : Scope} {cl : List (Str × Addr)} {elt iter : Expr} {x : Str} {px : Pos} {ifs : List Expr} {src : Src} {K : Addr → Addr → CS → Prop} {it : Addr} {S : List (Addr × CO)} {F : Fz}
    (f : Value → Option Value) (hc : scope.names.all (fun x => !(x.2 == .cell)) = true) (hkind : scope.kind = .function) (hx : scope.names.lookup x = some .local) (hsz : src.items.length ≤ 100000)
    (hP : ∀ S', (∀ p ∈ S, p ∈ S') → src.P ⟨S', F⟩)
    (body : ∀ (C acc : Addr) (k : Nat) (v : Value) (ys : List Value), src.items[k]? = some v →
      Tests cx A (compEnvC scope cl C env) ifs (fun ok σ₂ => if ok then CV cx A (eval elt (compEnvC scope cl C env)) (fun y σ₃ => f v = some y ∧ Back ((it, .iter (src.k (k + 1))) :: (C, .ns [(x, some v)]) :: (acc, .list ys) :: S) F σ₃) σ₂
        else f v = none ∧ Back ((it, .iter (src.k (k + 1))) :: (C, .ns [(x, some v)]) :: (acc, .list ys) :: S) F σ₂) ⟨(it, .iter (src.k (k + 1))) :: (C, .ns [(x, some v)]) :: (acc, .list ys) :: S, F⟩)
    (hK : ∀ acc C o, K acc C ⟨(C, .ns [(x, o)]) :: (acc, .list (src.items.filterMap f)) :: S, F⟩) :
    CompBody cx A env scope cl elt (.Name x px) iter ifs src [x] K it S F := fun acc C => by
  refine cells_none hc ⟨fun k S' F' => F' = F ∧ ∃ o, S' = (C, .ns [(x, o)]) :: (acc, .list ((src.items.take k).filterMap f)) :: S, ?_, ?_, ?_, ?_⟩
  · refine ⟨_, F, ?_, fun _ x => x, rfl, none, rfl⟩
    exact .cons (.tail (.tail .head)) (.refl _)
  · rintro k S' F' ⟨rfl, o, rfl⟩
    exact hP _ fun p hp => .tail _ (.tail _ (.tail _ hp))
  · rintro k S' F' v ⟨rfl, o, rfl⟩ hi v' hv
    have hk : (compEnvC scope cl C env).kindOf x = some .local := lookup_relabel_local hx
    refine cu_assign_name hv (store_local (m := [(x, o)]) (m' := [(x, some v)]) ?_ .head (.tail .head) rfl (by simpa [compEnvC, relabel] using hkind) hk)
    refine CW.mono (body C acc k v _ hi) fun b σ₂ h₂ => ?_
    have key : ∀ {ys : List Value} {σ₃ : CS}, Back ((it, .iter (src.k (k + 1))) :: (C, .ns [(x, some v)]) :: (acc, .list ys) :: S) F' σ₃ → (src.items.take (k + 1)).filterMap f = ys →
        LoopEnd it (src.k (k + 1)) (fun S' F'' => F'' = F' ∧ ∃ o, S' = (C, .ns [(x, o)]) :: (acc, .list ((src.items.take (k + 1)).filterMap f)) :: S) σ₃ := by
      rintro ys σ₃ ⟨hp, hf⟩ rfl
      exact ⟨_, _, hp, hf, rfl, _, rfl⟩
    cases b with
    | true =>
      simp only [if_true] at h₂ ⊢
      refine CW.mono h₂ fun y σ₃ ⟨hy, hb⟩ => ?_
      obtain ⟨S₃, F₃⟩ := σ₃
      obtain ⟨hp, hf⟩ := hb
      intro vs' hvs
      refine CW.weak ?_ hp hf
      have hlen : ((src.items.take k).filterMap f).length ≤ 100000 := Nat.le_trans (List.length_filterMap_le ..) (by rw [List.length_take]; omega)
      have ha := cal_append (cx := cx) (A := A) (F := F') (S := (it, .iter (src.k (k + 1))) :: (C, .ns [(x, some v)]) :: (acc, .list ((src.items.take k).filterMap f)) :: S) (a := acc) (vs := (src.items.take k).filterMap f) (v := nv y)
        (Q := fun _ σ₄ => LoopEnd it (src.k (k + 1)) (fun S' F'' => F'' = F' ∧ ∃ o, S' = (C, .ns [(x, o)]) :: (acc, .list ((src.items.take (k + 1)).filterMap f)) :: S) σ₄) ?_ (.tail (.tail .head)) (by omega) vs' hvs
      · exact ha
      exact key back_refl (by rw [take_fm f _ _ _ hi, hy])
    | false =>
      simp only [Bool.false_eq_true, if_false] at h₂ ⊢
      exact key h₂.2 (by rw [take_fm f _ _ _ hi, h₂.1]; simp)
  · rintro S' F' ⟨rfl, o, rfl⟩
    rw [List.take_of_length_le (Nat.le_refl _)]
    exact hK acc C o
end
end Mine
end

section
set_option Elab.async false
set_option linter.unusedVariables false
set_option autoImplicit false
namespace Mine

section
variable {cx : Cx} {A : Around} {σ : CS} {env : Env}

theorem cv_strL {x : Str} {l : List Nat} {k : Nat} {pos : Pos} {Q : Value → CS → Prop} (e : x = ⟨l.toArray⟩) (h : Q (St l) σ) : CV cx A (eval (.Constant (.str x) k pos) env) Q σ := by
  subst e; exact cv_str h

noncomputable def zipS (names : List Str) (vs : List Value) : List (Str × Option Value) := names.zip (vs.map some)
theorem binds_ns {L : Addr} {S : List (Addr × CO)} {F : Fz} {K : CS → Prop} (hl : env.locals = L) (hk : env.scope.kind = .function) : ∀ (names : List Str) (vs : List Value) (pre post : List (Str × Option Value)), names.length = vs.length →
    names.all (fun x => env.kindOf x == some .local) = true → K ⟨(L, .ns (pre ++ (zipS names vs ++ post))) :: S, F⟩ → Binds cx A env (names.zip vs) K ⟨(L, .ns (pre ++ (nones names ++ post))) :: S, F⟩
  | [], [], pre, post, _, _, h => h
  | [], _ :: _, _, _, e, _, _ => by cases e
  | _ :: _, [], _, _, e, _, _ => by cases e
  | x :: names, v :: vs, pre, post, e, ho, h => by
    rw [List.all_cons, Bool.and_eq_true, beq_iff_eq] at ho
    have up : ∀ (pre : List (Str × Option Value)) r, Up (pre ++ ((x, none) :: r)) x none (some v) (pre ++ ((x, some v) :: r)) := by
      intro pre r
      induction pre with
      | nil => exact .head
      | cons _ _ ih => exact .tail ih
    refine store_local ?_ (up pre (nones names ++ post)) .head hl hk ho.1
    have := binds_ns hl hk names vs (pre ++ [(x, some v)]) post (by simpa using e) ho.2 (K := K) (by simpa [zipS] using h)
    rw [List.append_assoc] at this
    exact this

noncomputable def fnEnv (fd : FuncData) (L a : Addr) : Env := newEnv fd.scope L fd.globals fd.closure (fd.qualname ++ ".<locals>.") (some a) fd.code none fd.builtins

theorem fn_of {K : Frag} {p : Program} {loose : List Str} {a : Addr} {o : Obj} {fd : FuncData} {s : Shared} (hF : Fz.Le σ.F (Fz.top p loose K)) (hK : K.lookup a = some o) (ho : o.data = .func fd) (hc : codeIn K fd.code fd.qualname = true) (R : Rep cx σ s) :
    s.heap.NoLimit ∧ s.heap.CodeRec fd.code fd.qualname ∧ ∃ o, s.heap.get? a = some o ∧ o.data = .func fd := by
  obtain ⟨X, mg, mb, T⟩ := top_at hF R
  exact ⟨T.nolimit, codeRec_of X hc, o, X _ _ hK, ho⟩
theorem fnAt_of {K : Frag} {p : Program} {loose : List Str} {a : Addr} {o : Obj} {fd : FuncData} (hF : Fz.Le σ.F (Fz.top p loose K)) (hK : K.lookup a = some o) (ho : o.data = .func fd) : FnAt cx σ a := fun s R => by
  obtain ⟨X, _⟩ := top_at hF R
  exact ⟨o, fd, X _ _ hK, ho⟩
theorem cal_K {K : Frag} {p : Program} {loose : List Str} {a : Addr} {o : Obj} {fd : FuncData} {body : List Stmt} {vs : List Value} {S : List (Addr × CO)} {F : Fz} {Q : Value → CS → Prop} {n : Nat} (names rest : List Str)
    (hF : Fz.Le F (Fz.top p loose K)) (hK : K.lookup a = some o) (ho : o.data = .func fd) (hc : codeIn K fd.code fd.qualname = true) (hbody : fd.body = .stmts body) (room : Room A (n + 1))
    (hb : ∀ vs' : List Value, vs'.length = vs.length → bindArgs fd ⟨vs', []⟩ = pure (names.zip vs')) (hl : names.length = vs.length) (hx : (names ++ rest).Nodup)
    (hco : fd.scope.isCoroutine = false) (hgen : fd.scope.isGenerator = false) (hk : fd.scope.kind = .function) (hcell : fd.scope.names.all (fun x => !(x.2 == .cell)) = true)
    (hloc : names.all (fun x => fd.scope.names.lookup x == some .local) = true)
    (h : ∀ L A', Room A' n → CF cx A' (execs body (fnEnv fd L a)) (fun f σ₃ => Q (match f with | .ret v => v | _ => .none) σ₃) ⟨(L, .ns (zipS names vs ++ nones rest)) :: S, F⟩) :
    Cal cx A (.ref a) vs Q ⟨S, F⟩ := by
  refine cal_code names (names ++ rest) (by have := room.d; show A.depth < 1000; omega) (fun s R => fn_of hF hK ho hc R) hbody hb hx hco hgen fun L => cells_none hcell ?_
  have e : nones (names ++ rest) = [] ++ (nones names ++ nones rest) := by simp [nones]
  rw [e]
  refine binds_ns (env := fnEnv fd L a) rfl hk names vs [] (nones rest) hl hloc ⟨fun s' R => ?_, h L _ room.deeper⟩
  obtain ⟨X, mg, mb, T⟩ := top_at (σ := ⟨(L, CO.ns ([] ++ (zipS names vs ++ nones rest))) :: S, F⟩) hF R
  exact T.nolimit
end
end Mine
end

section
set_option Elab.async false
set_option linter.unusedVariables false
set_option autoImplicit false
namespace Mine

section
variable {cx : Cx} {A : Around} {σ : CS} {env : Env}

theorem eqRef {a b : Value} {Q : Value → Shared → Prop} {M : Model} {s : Shared} {E : Value → Shared → Prop} (h : wpAny M A (richCompare .NotEq a b) Q E s) : wpAny M A (compareOp .NotEq a b) Q E s := h

theorem op_eq_nil {a b : Addr} {vs : List Value} {Q : Value → CS → Prop} {n : Nat} (room : Room A n) (ha : Sees σ a (.list vs)) (hb : Sees σ b (.list [])) (h : Q (.bool (decide (vs = []))) σ) : Op2 cx A (compareOp .Eq) (.ref a) (.ref b) Q σ := fun v w hv hw s R => by
  obtain rfl := nv_ref hv; obtain rfl := nv_ref hw
  obtain ⟨xs, hl, rfl⟩ := (ha.get R).isList
  obtain ⟨ys, hl2, hy⟩ := (hb.get R).isList
  obtain rfl : ys = [] := by simpa using hy
  have hu : A.units < cLine := by have := room.u; show A.units < 9900; omega
  cases xs with
  | nil => exact SeqAt.eq_listAt hl hl2 rfl hu (fun j h1 => absurd h1 (Nat.not_lt_zero _)) (e := fun _ => true) ⟨σ, R, h⟩
  | cons x r => exact SeqAt.eq_list_lengthsAt hl hl2 (by simp) hu ⟨σ, R, by show Q (.bool false) σ; simpa using h⟩
theorem op_ne_nil {a b : Addr} {vs : List Value} {Q : Value → CS → Prop} {n : Nat} (room : Room A n) (ha : Sees σ a (.list vs)) (hb : Sees σ b (.list [])) (h : Q (.bool (decide (vs ≠ []))) σ) : Op2 cx A (compareOp .NotEq) (.ref a) (.ref b) Q σ := fun v w hv hw s R => by
  obtain rfl := nv_ref hv; obtain rfl := nv_ref hw
  obtain ⟨xs, hl, rfl⟩ := (ha.get R).isList
  obtain ⟨ys, hl2, hy⟩ := (hb.get R).isList
  obtain rfl : ys = [] := by simpa using hy
  have hu : A.units < cLine := by have := room.u; show A.units < 9900; omega
  cases xs with
  | nil => exact eqRef (SeqAt.RcNeAt.lists hl hl2 rfl hu (fun j h1 => absurd h1 (Nat.not_lt_zero _)) (e := fun _ => true) cx.prog cx.w _ _ ⟨σ, R, h⟩)
  | cons x r => exact eqRef (SeqAt.RcNeAt.lists_lengths hl hl2 (by simp) hu cx.prog cx.w _ _ ⟨σ, R, by show Q (.bool true) σ; simpa using h⟩)
theorem op_eq_pair {a b : Addr} {c d : List Nat} {i j : Int} {Q : Value → CS → Prop} {n : Nat} (room : Room A n) (ha : Sees σ a (.list [St c, In i])) (hb : Sees σ b (.list [St d, In j])) (h : Q (.bool (decide (c = d ∧ i = j))) σ) : Op2 cx A (compareOp .Eq) (.ref a) (.ref b) Q σ := fun v w hv hw s R => by
  obtain rfl := nv_ref hv; obtain rfl := nv_ref hw
  obtain ⟨xs, hl, hx⟩ := (ha.get R).isList
  obtain ⟨ys, hl2, hy⟩ := (hb.get R).isList
  obtain ⟨x1, x2, rfl, e1, e2⟩ := map2 hx
  obtain ⟨y1, y2, rfl, e3, e4⟩ := map2 hy
  obtain ⟨t1, rfl⟩ := nv_str e1
  obtain ⟨t2, rfl⟩ := nv_int e2
  obtain ⟨t3, rfl⟩ := nv_str e3
  obtain ⟨t4, rfl⟩ := nv_int e4
  have hu : A.units < cLine := by have := room.u; show A.units < 9900; omega
  refine SeqAt.eq_listAt hl hl2 rfl hu (e := fun k => if k = 0 then (c == d) else (i == j)) (fun k h1 h2 => ?_) ⟨σ, R, ?_⟩
  · have : k = 0 ∨ k = 1 := by have : k < 2 := h1; omega
    rcases this with rfl | rfl
    · have := (SeqRoads2.EqGives.str ⟨c.toArray⟩ ⟨d.toArray⟩ t1 t3).at A.in1 s
      simpa using this
    · exact (MeetsSeq.EqGives.int i j t2 t4).at A.in1 s
  · have e : (List.range ([Value.str ⟨c.toArray⟩ t1, Value.int i t2] : List Value).toArray.size).all (fun k => if k = 0 then (c == d) else (i == j)) = decide (c = d ∧ i = j) := by
      show (List.range 2).all _ = _
      have e1 : (c == d) = decide (c = d) := by by_cases q : c = d <;> simp [q]
      have e2 : (i == j) = decide (i = j) := by by_cases q : i = j <;> simp [q]
      simp [List.range, List.range.loop, e1, e2]
    rw [e]; exact h
theorem op_eq_same {a b : Addr} {rs : List Addr} {Q : Value → CS → Prop} {n : Nat} (room : Room A n) (ha : Sees σ a (.list (rs.map .ref))) (hb : Sees σ b (.list (rs.map .ref))) (h : Q (.bool true) σ) : Op2 cx A (compareOp .Eq) (.ref a) (.ref b) Q σ := fun v w hv hw s R => by
  obtain rfl := nv_ref hv; obtain rfl := nv_ref hw
  have refs : ∀ {xs : List Value} {rs : List Addr}, xs.map nv = rs.map Value.ref → xs = rs.map Value.ref := by
    intro xs
    induction xs with
    | nil => intro rs h; cases rs with
      | nil => rfl
      | cons => cases h
    | cons x r ih => intro rs h; cases rs with
      | nil => cases h
      | cons y q =>
        rw [List.map_cons, List.map_cons, List.cons.injEq] at h
        rw [List.map_cons, ih h.2, nv_ref h.1]
  obtain ⟨xs, hl, hx⟩ := (ha.get R).isList
  obtain ⟨ys, hl2, hy⟩ := (hb.get R).isList
  obtain rfl := refs hx; obtain rfl := refs hy
  have hu : A.units < cLine := by have := room.u; show A.units < 9900; omega
  refine SeqAt.eq_listAt hl hl2 rfl hu (e := fun k => true) (fun k h1 h2 => SeqAt.EqAt.same _) ⟨σ, R, ?_⟩
  have e : ((List.range (rs.map Value.ref).toArray.size).all fun k => true) = true := by simp
  rw [e]; exact h

-- «a <= b <= c»
theorem cb_chain {l m r : Expr} {op1 op2 : CmpOp} {pos : Pos} {whole : Sem Value} {Q : Bool → CS → Prop}
    (h : CV cx A (eval l env) (fun a σ₁ => CV cx A (eval m env) (fun b σ₂ => Op2 cx A (compareOp op1) a b (fun c σ₃ => Tr1 cx A c (fun t σ₄ => if t then CV cx A (eval r env) (fun d σ₅ => Op2 cx A (compareOp op2) b d (fun e σ₆ => Tr1 cx A e Q σ₆) σ₅) σ₄ else Q false σ₄) σ₃) σ₂) σ₁) σ)
    (hm : behindInMarks op2 r = false) : CB cx A (isTrue (.Compare l [op1, op2] [m, r] pos) env whole) Q σ := fun s R => by
  rw [arm_isTrue_Compare]
  have e : markedEach [op1, op2] [m, r] (evalEach [m, r] env) = [eval m env, eval r env] := by
    show [eval m env, markedBehindIn op2 r (eval r env)] = _
    rw [markedBehindIn_of_false hm]
  rw [e]
  refine wpAny_bind (wpAny_mono (h s R) (fun a s₁ ⟨σ₁, R₁, h₁⟩ => ?_) fun _ _ x => x)
  unfold testChain
  refine wpAny_bind (wpAny_holding (wpAny_mono (h₁ s₁ R₁) (fun b s₂ ⟨σ₂, R₂, h₂⟩ => ?_) fun _ _ x => x))
  refine wpAny_bind (wpAny_standAt (wpAny_bind (wpAny_holding (wpAny_mono (h₂ a b rfl rfl s₂ R₂) (fun c s₃ ⟨σ₃, R₃, h₃⟩ => ?_) fun _ _ x => x))))
  refine wpAny_bind (wpAny_release (wpAny_bind (wpAny_holding (wpAny_mono (h₃ c rfl s₃ R₃) (fun t s₄ ⟨σ₄, R₄, h₄⟩ => ?_) fun _ _ x => x))))
  cases t with
  | false => exact wpAny_pure ⟨σ₄, R₄, h₄⟩
  | true =>
    simp only [if_true] at h₄ ⊢
    unfold testChain
    refine wpAny_bind (wpAny_holding (wpAny_mono (h₄ s₄ R₄) (fun d s₅ ⟨σ₅, R₅, h₅⟩ => ?_) fun _ _ x => x))
    refine wpAny_bind (wpAny_standAt (wpAny_bind (wpAny_operating (wpAny_mono (h₅ b d rfl rfl s₅ R₅) (fun e s₆ ⟨σ₆, R₆, h₆⟩ => ?_) fun _ _ x => x))))
    exact wpAny_holding (h₆ e rfl s₆ R₆)

-- strings
theorem op_mul_str {x : List Nat} {n : Int} {Q : Value → CS → Prop} (h : Q (St ((List.replicate n.toNat x).flatten)) σ) (h0 : 0 ≤ n) (hn : n ≤ 2) (hx : x.length ≤ 1000000) : Op2 cx A (binaryOp .Mult) (St x) (In n) Q σ := fun v w hv hw s R => by
  obtain ⟨t, rfl⟩ := nv_str hv; obtain ⟨u, rfl⟩ := nv_int hw
  have hl : (⟨x.toArray⟩ : Str).length = x.length := by simp [Str.length]
  have h3 : n = 0 ∨ n = 1 ∨ n = 2 := by omega
  rcases h3 with rfl | rfl | rfl
  · refine PySem.P.mul_str (by decide) (fun q => absurd (by decide) q) (fun q => absurd (by decide) q) ?_
    exact ⟨by decide, σ, R.tok _ (Nat.succ_pos _), h⟩
  · refine PySem.P.mul_str (by decide) (fun _ q => by simp at q) (fun _ q => by simp at q) ?_
    exact ⟨σ, R, by show Q (St x) σ; simpa using h⟩
  · refine PySem.P.mul_str (by decide) (fun _ q => ?_) (fun _ q => ?_) ?_
    · rw [hl]; omega
    · rw [hl]
      unfold Builtin.Str.tooLong
      rw [sizeLine_eq]
      simp only [decide_eq_false_iff_not]
      have e : (2 : Int).toNat = 2 := rfl
      rw [e]
      omega
    · rw [if_neg (by decide)]
      split
      · rename_i q
        have hx0 : x = [] := by
          have : x.length = 0 := by simpa [hl] using q
          exact List.length_eq_zero_iff.mp this
        subst hx0
        exact ⟨σ, R, by show Q (St []) σ; simpa using h⟩
      · refine ⟨?_, σ, R.tok _ (Nat.succ_pos _), ?_⟩
        · rw [sizeLine_eq]; simp [Str.length]; omega
        · have e : (⟨(List.replicate (2 : Int).toNat (⟨x.toArray⟩ : Str).cps).foldl (· ++ ·) #[]⟩ : Str) = ⟨(List.replicate 2 x).flatten.toArray⟩ := by simp [List.replicate]
          rw [e]; exact h
noncomputable def Fmt (cx : Cx) (A : Around) (v : Value) (Q : Value → CS → Prop) (σ : CS) : Prop := ∀ v', nv v' = v → CV cx A (formatField v' Str.empty) Q σ
theorem fmt_str {x : List Nat} {Q : Value → CS → Prop} (hz : x.length ≤ 16777216) (h : Q (St x) σ) : Fmt cx A (St x) Q σ := fun v' hv s R => by
  obtain ⟨t, rfl⟩ := nv_str hv
  exact wpAny_formatField_str ⟨σ, R, h⟩ ⟨σ, R.tok _ (Nat.succ_pos _), h⟩ (by rw [sizeLine_eq]; simpa [Str.length] using hz)
theorem cv_formatted {value : Expr} {pos : Pos} {Q : Value → CS → Prop} (h : CV cx A (eval value env) (fun v σ₁ => Fmt cx A v Q σ₁) σ) : CV cx A (eval (.FormattedValue value (-1) none pos) env) Q σ := fun s R =>
  wpAny_FormattedValue_plain (wpAny_mono (h s R) (fun v s₁ ⟨σ₁, R₁, h₁⟩ => h₁ v rfl s₁ R₁) fun _ _ x => x)
noncomputable def Joined (cx : Cx) (A : Around) (env : Env) : List Expr → List Nat → (List Nat → CS → Prop) → CS → Prop
  | [], acc, Q, σ => Q acc σ
  | e :: r, acc, Q, σ => CV cx A (eval e env) (fun v σ₁ => ∃ y, v = St y ∧ (acc ++ y).length ≤ 16777216 ∧ Joined cx A env r (acc ++ y) Q σ₁) σ
theorem joined_run : ∀ {es : List Expr} {acc : List Nat} {Q : List Nat → CS → Prop} {P : Str → Shared → Prop} {σ : CS} {s : Shared}, Joined cx A env es acc Q σ → Rep cx σ s → (∀ x σ' s', Rep cx σ' s' → Q x σ' → P ⟨x.toArray⟩ s') →
    Joins (model cx.prog cx.w) A (fun _ _ => False) (evalEach es env) ⟨acc.toArray⟩ P s
  | [], acc, Q, P, σ, s, h, R, hP => hP _ _ _ R h
  | e :: r, acc, Q, P, σ, s, h, R, hP => by
    show wpAny _ A (eval e env) _ _ s
    refine wpAny_mono (h s R) (fun v s₁ ⟨σ₁, R₁, y, hv, hz, h₁⟩ => ?_) fun _ _ x => x
    obtain ⟨t, rfl⟩ := nv_str hv
    refine ⟨_, t, rfl, ?_, ?_⟩
    · rw [str_append, sizeLine_eq]; simpa [Str.length] using hz
    · rw [str_append]; exact joined_run h₁ R₁ hP
theorem cv_joined {v₁ v₂ : Expr} {rest : List Expr} {pos : Pos} {Q : Value → CS → Prop} (h : Joined cx A env (v₁ :: v₂ :: rest) [] (fun x σ₁ => x.length ≤ 16777216 ∧ Q (St x) σ₁) σ) : CV cx A (eval (.JoinedStr (v₁ :: v₂ :: rest) pos) env) Q σ := fun s R =>
  wpAny_JoinedStr (joined_run h R fun x σ' s' R' q => ⟨by rw [sizeLine_eq]; simpa [Str.length] using q.1, σ', R'.tok _ (Nat.succ_pos _), q.2⟩)
end
end Mine
end

section
set_option Elab.async false
set_option linter.unusedVariables false
set_option autoImplicit false
namespace Mine
theorem bi_len : bootBuiltins (Str.ofString "len") = some (.builtin "len") := by kernel_rfl
theorem bi_range : bootBuiltins (Str.ofString "range") = some (.type "range") := by kernel_rfl
theorem bi_list : bootBuiltins (Str.ofString "list") = some (.type "list") := by kernel_rfl
theorem bi_sum : bootBuiltins (Str.ofString "sum") = some (.builtin "sum") := by kernel_rfl
theorem bi_sorted : bootBuiltins (Str.ofString "sorted") = some (.builtin "sorted") := by kernel_rfl
theorem bi_object : bootBuiltins (Str.ofString "object") = some (.type "object") := by kernel_rfl
theorem bi_isinstance : bootBuiltins (Str.ofString "isinstance") = some (.builtin "isinstance") := by kernel_rfl
theorem bi_str : bootBuiltins (Str.ofString "str") = some (.type "str") := by kernel_rfl
theorem ls_0 : Str.ofString "" = ⟨([] : List Nat).toArray⟩ := by kernel_rfl
theorem ls_1 : Str.ofString "^" = ⟨[94].toArray⟩ := by kernel_rfl
theorem ls_2 : Str.ofString "]" = ⟨[93].toArray⟩ := by kernel_rfl
theorem ls_3 : Str.ofString "\\" = ⟨[92].toArray⟩ := by kernel_rfl
theorem ls_4 : Str.ofString "-" = ⟨[45].toArray⟩ := by kernel_rfl
theorem ls_5 : Str.ofString "[" = ⟨[91].toArray⟩ := by kernel_rfl
theorem ls_6 : Str.ofString "!" = ⟨[33].toArray⟩ := by kernel_rfl
theorem ls_7 : Str.ofString "*" = ⟨[42].toArray⟩ := by kernel_rfl
theorem ls_8 : Str.ofString "?" = ⟨[63].toArray⟩ := by kernel_rfl
theorem ls_9 : Str.ofString "." = ⟨[46].toArray⟩ := by kernel_rfl
theorem ls_10 : Str.ofString "\\[" = ⟨[92, 91].toArray⟩ := by kernel_rfl
theorem ls_11 : Str.ofString "\\\\" = ⟨[92, 92].toArray⟩ := by kernel_rfl
theorem ls_12 : Str.ofString "\\-" = ⟨[92, 45].toArray⟩ := by kernel_rfl
theorem ls_13 : Str.ofString "(?!)" = ⟨[40, 63, 33, 41].toArray⟩ := by kernel_rfl
theorem ls_14 : Str.ofString ".*" = ⟨[46, 42].toArray⟩ := by kernel_rfl
theorem ls_15 : Str.ofString "(?>.*?" = ⟨[40, 63, 62, 46, 42, 63].toArray⟩ := by kernel_rfl
theorem ls_16 : Str.ofString ")" = ⟨[41].toArray⟩ := by kernel_rfl
theorem ls_17 : Str.ofString "(?s:" = ⟨[40, 63, 115, 58].toArray⟩ := by kernel_rfl
theorem ls_18 : Str.ofString ")\\Z" = ⟨[41, 92, 90].toArray⟩ := by kernel_rfl
theorem ls_19 : Str.ofString "]-^" = ⟨[93, 45, 94].toArray⟩ := by kernel_rfl
theorem ls_20 : Str.ofString "[-\\" = ⟨[91, 45, 92].toArray⟩ := by kernel_rfl
theorem ls_21 : Str.ofString "!-" = ⟨[33, 45].toArray⟩ := by kernel_rfl
theorem ls_22 : Str.ofString "b-a" = ⟨[98, 45, 97].toArray⟩ := by kernel_rfl
theorem ls_23 : Str.ofString ".*)\\Z" = ⟨[46, 42, 41, 92, 90].toArray⟩ := by kernel_rfl
theorem ls_24 : Str.ofString "!]-^[\\a&~|*?.b" = ⟨[33, 93, 45, 94, 91, 92, 97, 38, 126, 124, 42, 63, 46, 98].toArray⟩ := by kernel_rfl
end Mine
end

section
set_option Elab.async false
set_option linter.unusedVariables false
set_option autoImplicit false
namespace Mine

section
variable {cx : Cx} {A : Around} {σ : CS} {env : Env}
theorem seqIx {k n : Nat} (h : k < n) : seqIndex? (k : Int) n = some k := by
  have := seqIndex_at (i := (k : Int)) (n := n) (Int.natCast_nonneg _) (by omega)
  simpa using this
theorem sub_strN {value slice : Expr} {x : List Nat} {i : Int} (k : Nat) (c : Nat) {Q : Value → CS → Prop} (hi : i = (k : Int)) (hc : x[k]? = some c) (hx : x.length ≤ 1000000) (h : Q (St [c]) σ) (hs : Plainly slice) :
    Sub cx A value slice (St x) (In i) Q σ := by
  have hk : k < x.length := (List.getElem?_eq_some_iff.mp hc).1
  subst hi
  exact sub_str h (by omega) (seqIx hk) hc hs
theorem sub_listN {value slice : Expr} {a : Addr} {vs : List Value} {i : Int} (k : Nat) (y : Value) {Q : Value → CS → Prop} (hi : i = (k : Int)) (ha : Sees σ a (.list vs)) (hy : vs[k]? = some y) (hx : vs.length ≤ 1000000) (h : Q y σ) (hs : Plainly slice) :
    Sub cx A value slice (.ref a) (In i) Q σ := by
  have hk : k < vs.length := (List.getElem?_eq_some_iff.mp hy).1
  subst hi
  exact sub_list h ha (by omega) (by omega) (by simpa using hy) hs
inductive RowsF (F : Fz) : List Addr → List (List Value) → Prop where
  | nil : RowsF F [] []
  | cons {r : Addr} {v : List Value} {rs : List Addr} {vs : List (List Value)} : Fz.Le F (.obj r (.list v)) → RowsF F rs vs → RowsF F (r :: rs) (v :: vs)
theorem RowsF.le {F F' : Fz} {rs : List Addr} {vs : List (List Value)} (h : RowsF F rs vs) (l : Fz.Le F' F) : RowsF F' rs vs := by
  induction h with
  | nil => exact .nil
  | cons x _ ih => exact .cons (fun h y => x h (l h y)) ih
theorem RowsF.snoc {F : Fz} {rs : List Addr} {vs : List (List Value)} {r : Addr} {v : List Value} (h : RowsF F rs vs) (x : Fz.Le F (.obj r (.list v))) : RowsF F (rs ++ [r]) (vs ++ [v]) := by
  induction h with
  | nil => exact .cons x .nil
  | cons y _ ih => exact .cons y ih
theorem RowsF.len {F : Fz} {rs : List Addr} {vs : List (List Value)} (h : RowsF F rs vs) : rs.length = vs.length := by
  induction h with
  | nil => rfl
  | cons _ _ ih => simp [ih]
theorem RowsF.get {F : Fz} {rs : List Addr} {vs : List (List Value)} (h : RowsF F rs vs) {i : Nat} {v : List Value} (e : vs[i]? = some v) : ∃ r, rs[i]? = some r ∧ Fz.Le F (.obj r (.list v)) := by
  induction h generalizing i with
  | nil => simp at e
  | cons x _ ih =>
    cases i with
    | zero => simp at e; subst e; exact ⟨_, rfl, x⟩
    | succ i => simp at e; simpa using ih e
theorem cf_cut {t : Sem Flow} {Q : Flow → CS → Prop} (σ' : CS) (h1 : CF cx A t (fun f σ₁ => f = .next ∧ σ₁ = σ') σ) (h2 : Q .next σ') : CF cx A t Q σ :=
  CW.mono h1 fun f σ₁ ⟨e1, e2⟩ => by rw [e1, e2]; exact h2
theorem cv_cut {t : Sem Value} {Q : Value → CS → Prop} (v : Value) (σ' : CS) (h1 : CV cx A t (fun w σ₁ => w = v ∧ σ₁ = σ') σ) (h2 : Q v σ') : CV cx A t Q σ :=
  CW.mono h1 fun f σ₁ ⟨e1, e2⟩ => by rw [e1, e2]; exact h2
theorem cb_cut {t : Sem Bool} {Q : Bool → CS → Prop} (b : Bool) (S' : List (Addr × CO)) (F' : Fz) (h1 : CB cx A t (fun c σ₁ => c = b ∧ Back S' F' σ₁) σ) (h2 : ∀ σ₁, Back S' F' σ₁ → Q b σ₁) : CB cx A t Q σ :=
  CW.mono h1 fun f σ₁ ⟨e1, e2⟩ => by rw [e1]; exact h2 σ₁ e2
theorem weak_back {α : Type} {t : Sem α} {Q : α → CS → Prop} {S' : List (Addr × CO)} {F' : Fz} (hb : Back S' F' σ) (h : CW cx A t Q ⟨S', F'⟩) : CW cx A t Q σ := by
  obtain ⟨S, F⟩ := σ
  exact h.weak hb.1 hb.2
theorem wbF {t : Sem Flow} {Q : Flow → CS → Prop} {S' : List (Addr × CO)} {F' : Fz} (hb : Back S' F' σ) (h : CF cx A t Q ⟨S', F'⟩) : CF cx A t Q σ := weak_back hb h
theorem wbV {t : Sem Value} {Q : Value → CS → Prop} {S' : List (Addr × CO)} {F' : Fz} (hb : Back S' F' σ) (h : CV cx A t Q ⟨S', F'⟩) : CV cx A t Q σ := weak_back hb h
theorem wbB {t : Sem Bool} {Q : Bool → CS → Prop} {S' : List (Addr × CO)} {F' : Fz} (hb : Back S' F' σ) (h : CB cx A t Q ⟨S', F'⟩) : CB cx A t Q σ := weak_back hb h
theorem frF {t : Sem Flow} {Q : Flow → CS → Prop} {S S' : List (Addr × CO)} {F : Fz} {a : Addr} {co : CO} (d : Del S (a, co) S') (hc : co.isTab = false) (h : CF cx A t Q ⟨S', F.and (.obj a co)⟩) : CF cx A t Q ⟨S, F⟩ := CW.freeze h d hc
theorem frV {t : Sem Value} {Q : Value → CS → Prop} {S S' : List (Addr × CO)} {F : Fz} {a : Addr} {co : CO} (d : Del S (a, co) S') (hc : co.isTab = false) (h : CV cx A t Q ⟨S', F.and (.obj a co)⟩) : CV cx A t Q ⟨S, F⟩ := CW.freeze h d hc
theorem frG {t : Sem Flow} {Q : Flow → CS → Prop} {S S' : List (Addr × CO)} {F : Fz} {a : Addr} {co : CO} (d : Del S (a, co) S') (hc : co.isTab = false) (h : ∀ F', Fz.Le F' F → Fz.Le F' (.obj a co) → CF cx A t Q ⟨S', F'⟩) : CF cx A t Q ⟨S, F⟩ := frF d hc (h _ (fun _ y => y.1) fun _ y => y.2)
theorem le_last {F : Fz} {a : Addr} {co : CO} : Fz.Le (F.and (.obj a co)) (.obj a co) := fun _ y => y.2
theorem le_fst {F G : Fz} : Fz.Le (F.and G) F := fun _ y => y.1
theorem cv_bi {x : Str} {pos : Pos} {p : Program} {loose : List Str} {K : Frag} {id : String} {Q : Value → CS → Prop} (h : Q (.builtin id) σ)
    (hF : Fz.Le σ.F (Fz.top p loose K)) (e : nsIn K mainGlobals x = some none) (hv : bootBuiltins x = some (.builtin id)) (hn : x ≠ "__name__")
    (hg : env.globals = mainGlobals) (hb : env.builtins = builtinsNs) (hk : env.scope.kind = .function) (ho : env.kindOf x = some .globalImplicit) (hd : (x == ("__debug__" : Str)) = false) :
    CV cx A (eval (.Name x pos) env) Q σ := cv_builtin (v := .builtin id) (Q := Q) h hF e hv hn hg hb hk ho hd
theorem cv_ty {x : Str} {pos : Pos} {p : Program} {loose : List Str} {K : Frag} {id : String} {Q : Value → CS → Prop} (h : Q (.type id) σ)
    (hF : Fz.Le σ.F (Fz.top p loose K)) (e : nsIn K mainGlobals x = some none) (hv : bootBuiltins x = some (.type id)) (hn : x ≠ "__name__")
    (hg : env.globals = mainGlobals) (hb : env.builtins = builtinsNs) (hk : env.scope.kind = .function) (ho : env.kindOf x = some .globalImplicit) (hd : (x == ("__debug__" : Str)) = false) :
    CV cx A (eval (.Name x pos) env) Q σ := cv_builtin (v := .type id) (Q := Q) h hF e hv hn hg hb hk ho hd
theorem cv_gref {x : Str} {pos : Pos} {p : Program} {loose : List Str} {K : Frag} {a : Addr} {Q : Value → CS → Prop} (h : Q (.ref a) σ)
    (hF : Fz.Le σ.F (Fz.top p loose K)) (e : nsIn K mainGlobals x = some (some (.ref a))) (hg : env.globals = mainGlobals) (hk : env.scope.kind = .function) (ho : env.kindOf x = some .globalImplicit) (hd : (x == ("__debug__" : Str)) = false) :
    CV cx A (eval (.Name x pos) env) Q σ := cv_global (v := .ref a) (Q := Q) h hF e hg hk ho hd
theorem cv_cutb {t : Sem Value} {Q : Value → CS → Prop} (b : Value) (S' : List (Addr × CO)) (F' : Fz) (h1 : CV cx A t (fun c σ₁ => c = b ∧ Back S' F' σ₁) σ) (h2 : ∀ σ₁, Back S' F' σ₁ → Q b σ₁) : CV cx A t Q σ :=
  CW.mono h1 fun f σ₁ ⟨e1, e2⟩ => by rw [e1]; exact h2 σ₁ e2
theorem wbS {x : Str} {v : Value} {Q : CS → Prop} {S' : List (Addr × CO)} {F' : Fz} (hb : Back S' F' σ) (h : Store cx A env x v Q ⟨S', F'⟩) : Store cx A env x v Q σ := fun v' hv => weak_back hb (h v' hv)
theorem sees_le {a : Addr} {co : CO} (h : Fz.Le σ.F (.obj a co)) : Sees σ a co := .frozen h
theorem refs_at {rs : List Addr} {i : Nat} {r : Addr} (h : rs[i]? = some r) : (rs.map Value.ref)[i]? = some (.ref r) := by rw [List.getElem?_map, h]; rfl
end
noncomputable def enc (p : Nat × Nat) : List Nat := if p.2 = 0 then [p.1] else [92, p.1]
noncomputable def okS (first : Bool) (p : Nat × Nat) : Prop := p.2 = 1 ∨ (p.2 = 0 ∧ p.1 ≠ 92 ∧ (first = true ∨ p.1 ≠ 93))
noncomputable def rangesOf : List (Nat × Nat) → List (Nat × Nat)
  | p :: q :: r :: t => if q = (45, 0) then (p.1, r.1) :: rangesOf t else (p.1, p.1) :: rangesOf (q :: r :: t)
  | p :: t => (p.1, p.1) :: rangesOf t
  | [] => []
noncomputable def signV (p : Nat × Nat) : List Value := [St [p.1], In p.2]
noncomputable def rangeV (p : Nat × Nat) : List Value := [St [p.1], St [p.2]]

theorem slc_f {α : Type} (l : List α) {i : Int} (a : Nat) (h : i = (a : Int)) : slc l (some i) none = l.drop a := by
  subst h
  have e1 : kms_lo (some (a : Int)) l.length = min a l.length := by simp only [kms_lo]; rw [if_neg (by omega)]; simp
  have e2 : kms_hi none l.length = l.length := rfl
  unfold slc
  rw [e1, e2]
  rcases Nat.le_total a l.length with h | h
  · rw [Nat.min_eq_left h]; exact List.take_of_length_le (by rw [List.length_drop]; omega)
  · rw [Nat.min_eq_right h]; simp [List.drop_eq_nil_of_le h]
theorem slc_ft {α : Type} (l : List α) {i j : Int} (a b : Nat) (h : i = (a : Int)) (h' : j = (b : Int)) : slc l (some i) (some j) = (l.drop a).take (b - a) := by
  subst h; subst h'
  have e1 : kms_lo (some (a : Int)) l.length = min a l.length := by simp only [kms_lo]; rw [if_neg (by omega)]; simp
  have e2 : kms_hi (some (b : Int)) l.length = min b l.length := by simp only [kms_hi]; rw [if_neg (by omega)]; simp
  unfold slc
  rw [e1, e2]
  rcases Nat.le_total a l.length with h | h
  · rw [Nat.min_eq_left h]
    rcases Nat.le_total b l.length with h2 | h2
    · rw [Nat.min_eq_left h2]
    · rw [Nat.min_eq_right h2, List.take_of_length_le (by rw [List.length_drop]; omega), List.take_of_length_le (by rw [List.length_drop]; omega)]
  · rw [Nat.min_eq_right h]; simp [List.drop_eq_nil_of_le h]
theorem slc_t {α : Type} (l : List α) {j : Int} (b : Nat) (h' : j = (b : Int)) : slc l none (some j) = l.take b := by
  subst h'
  have e1 : kms_lo none l.length = 0 := rfl
  have e2 : kms_hi (some (b : Int)) l.length = min b l.length := by simp only [kms_hi]; rw [if_neg (by omega)]; simp
  unfold slc
  rw [e1, e2, List.drop_zero, Nat.sub_zero]
  rcases Nat.le_total b l.length with h2 | h2
  · rw [Nat.min_eq_left h2]
  · rw [Nat.min_eq_right h2, List.take_of_length_le (Nat.le_refl _), List.take_of_length_le h2]
theorem slc_tn {α : Type} (l : List α) {j : Int} (b : Nat) (h' : j = -(b : Int)) (h0 : 0 < b) : slc l none (some j) = l.take (l.length - b) := by
  subst h'
  have e1 : kms_lo none l.length = 0 := rfl
  have e2 : kms_hi (some (-(b : Int))) l.length = l.length - b := by simp only [kms_hi]; rw [if_pos (by omega)]; simp
  unfold slc
  rw [e1, e2, List.drop_zero, Nat.sub_zero]

noncomputable def wideOf (sg : List (Nat × Nat)) (i : Nat) : Nat := if sg[i + 1]? = some (45, 0) ∧ i + 2 < sg.length then 2 else 0
theorem wideOf_spec (sg : List (Nat × Nat)) (i : Nat) (p : Nat × Nat) (hi : sg[i]? = some p) : ∃ q, sg[i + wideOf sg i]? = some q ∧ rangesOf (sg.drop i) = (p.1, q.1) :: rangesOf (sg.drop (i + (1 + wideOf sg i))) ∧ i + (1 + wideOf sg i) ≤ sg.length := by
  obtain ⟨hlt, hp⟩ := List.getElem?_eq_some_iff.mp hi
  unfold wideOf
  by_cases h : sg[i + 1]? = some (45, 0) ∧ i + 2 < sg.length
  · rw [if_pos h]
    obtain ⟨h1, h2⟩ := h
    obtain ⟨h1l, h1e⟩ := List.getElem?_eq_some_iff.mp h1
    refine ⟨sg[i + 2], List.getElem?_eq_getElem h2, ?_, by omega⟩
    rw [List.drop_eq_getElem_cons hlt, List.drop_eq_getElem_cons h1l, List.drop_eq_getElem_cons h2, h1e, hp]
    simp [rangesOf, Nat.add_comm 1 2]
  · rw [if_neg h]
    refine ⟨p, hi, ?_, by omega⟩
    rw [List.drop_eq_getElem_cons hlt, hp]
    show rangesOf (p :: sg.drop (i + 1)) = _
    rcases e : sg.drop (i + 1) with _ | ⟨q, _ | ⟨r, t⟩⟩
    · rfl
    · rfl
    · have hq : sg[i + 1]? = some q := by
        have : (sg.drop (i + 1))[0]? = some q := by rw [e]; rfl
        rwa [List.getElem?_drop] at this
      have hl : i + 2 < sg.length := by
        have : (sg.drop (i + 1)).length ≥ 2 := by rw [e]; simp
        rw [List.length_drop] at this; omega
      have hne : q ≠ (45, 0) := fun z => h ⟨by rw [hq, z], hl⟩
      simp only [rangesOf, if_neg hne]
end Mine
end

section
open Sem (wp)
set_option Elab.async false
set_option linter.unusedVariables false
set_option autoImplicit false
set_option maxRecDepth 100000
namespace Mine

noncomputable def boundApp (l : Addr) : Obj := { cls := .type "builtin_function_or_method", data := .fields #[.builtin "list.append", .ref l] }
theorem slot_md_get : Slot "method_descriptor" "__get__" "method_descriptor.__get__" :=
  .of (owner := "method_descriptor") (n := "__get__") (by rw [typeLookup_type, builtinLookup_eq_fast]; kernel_rfl) (by decide +kernel) (by decide +kernel) (by decide +kernel)
    (by first | exact .inl (by decide +kernel) | exact .inr (by decide +kernel)) (by rw [isSubtype_type]; kernel_rfl)
theorem md_noset : typeLookup (.type "method_descriptor") "__set__" = pure none := by rw [typeLookup_type, builtinLookup_eq_fast]; kernel_rfl
theorem md_nodel : typeLookup (.type "method_descriptor") "__delete__" = pure none := by rw [typeLookup_type, builtinLookup_eq_fast]; kernel_rfl
theorem entry_md_get : entryFor table "method_descriptor.__get__" = some Builtin.«method_descriptor.__get__» := entryFor_of_tree (by kernel_rfl)
theorem args_md_get (a b c : Value) : argsOk "method_descriptor.__get__" ⟨[a, b, c], []⟩ := by unfold argsOk; kernel_rfl
theorem not_told : Manifest.toldItsClass.contains "list.append" = false := by decide +kernel
theorem owner_append : (".".intercalate ("list.append".cutAt '.').dropLast) = "list" := by
  have e0 : "list.append".cutAt '.' = ["list", "append"] := by first | rfl | decide +kernel
  rw [e0]; decide +kernel
theorem last_append : ("list.append".cutAt '.').getLastD "" = "append" := by
  have e0 : "list.append".cutAt '.' = ["list", "append"] := by first | rfl | decide +kernel
  rw [e0]; decide +kernel

section
variable {prog : Program} {w : World} {A : Around} {E : Value → Shared → Prop} {h : Heap} {g : Array GenState} {d : Drawn} {t : Nat} {os : OsState} {a : Addr} {xs : Array Value} {n : Nat}

theorem app_get {R : Result → Shared → Prop} (hx : h.get? a = some (seqObj "list" xs n)) (hq : R (.ok (.ret (.ref h.objs.size))) ⟨h.push (boundApp a), g, d, t, os⟩) :
    codeAny (model prog w) A (.call (.builtin "method_descriptor.__get__") ⟨[.builtin "list.append", .ref a, .type "list"], []⟩) R ⟨h, g, d, t, os⟩ := by
  have hT : (⟨h, g, d, t, os⟩ : Shared).TypeIs (.ref a) "list" := ⟨_, hx, rfl⟩
  have hT5 : (⟨h, g, d, t, os⟩ : Shared).TypeIs (.builtin "list.append") "method_descriptor" := PySem.F.type_list_append
  have f1 := not_told
  have f2 := owner_append
  have f3 := last_append
  refine codeAny_call_builtin slot_md_get.plain entry_md_get (slot_md_get.check _ _ _ _ _ _ _ _ hT5 (args_md_get _ _ _) ?_)
  unfold Builtin.«method_descriptor.__get__»
  refine wpAny_bind (wpAny_of_eq (a := (.builtin "list.append", some (.ref a), some (.type "list"))) (by first | rfl | kernel_rfl) ?_)
  dsimp only
  rw [f1]
  refine W.KFB.if_not rfl ?_
  show wpAny _ _ ((kfb_private% "checkInstance") (.builtin "list.append") (.ref a) >>= _) _ _ _
  refine wpAny_bind ?_
  · show wpAny _ _ ((kfb_private% "nameAndClass") (.builtin "list.append") >>= _) _ _ _
    refine wpAny_bind (wpAny_of_eq (a := ((Str.ofString "append"), .type "list")) (by first | rfl | kernel_rfl) ?_)
    dsimp only
    refine wpAny_bind (wpAny_isInstance (b := true) hT (by rw [isSubtype_type]; kernel_rfl) ?_)
    refine W.KFB.if_not rfl (wpAny_pure ?_)
    refine wpAny_bind (wpAny_newObj_type ?_)
    exact wpAny_pure hq

theorem app_entry {tk : Tok} {Q : Fin → Shared → Prop} (hx : h.get? a = some (seqObj "list" xs n)) (hq : Q (.done (.ret (.ref h.objs.size))) ⟨h.push (boundApp a), g, d, t, os⟩) :
    wpAny (model prog w) A (Builtin.«object.__getattribute__» ⟨[.ref a, .str "append" tk], []⟩) Q E ⟨h, g, d, t, os⟩ := by
  have hT : (⟨h, g, d, t, os⟩ : Shared).TypeIs (.ref a) "list" := ⟨_, hx, rfl⟩
  have hT5 : (⟨h, g, d, t, os⟩ : Shared).TypeIs (.builtin "list.append") "method_descriptor" := PySem.F.type_list_append
  have f4 := PySem.F.slot_list_append.lookup
  have f5 := PySem.F.type_list_append
  have f6 := slot_md_get.lookup
  have f7 := md_noset
  have f8 := md_nodel
  repeat (any_goals (first | assumption | wp_step))
  refine app_get hx ?_
  repeat (any_goals (first | assumption | wp_step))

theorem app_call {tk : Tok} {R : Result → Shared → Prop} (hx : h.get? a = some (seqObj "list" xs n)) (hq : R (.ok (.ret (.ref h.objs.size))) ⟨h.push (boundApp a), g, d, t, os⟩) :
    codeAny (model prog w) A (.call (.builtin "list.__getattribute__") ⟨[.ref a, .str "append" tk], []⟩) R ⟨h, g, d, t, os⟩ :=
  codeAny_call_builtin F.slot_list_getattribute.plain F.entry_list_ga (F.slot_list_getattribute.check _ _ _ _ _ _ _ _ (show (⟨h, g, d, t, os⟩ : Shared).TypeIs (.ref a) "list" from ⟨_, hx, rfl⟩) (F.args_list_getattribute_2 _ _) (app_entry hx hq))

theorem app_by {tk : Tok} {Q : Value → Shared → Prop} {fill expr : Bool} (hx : h.get? a = some (seqObj "list" xs n)) (hq : Q (.ref h.objs.size) ⟨h.push (boundApp a), g, d, t, os⟩) :
    wpAny (model prog w) A (getAttrBy (.ref a) (.str "append" tk) fill expr) Q E ⟨h, g, d, t, os⟩ := by
  have hT : (⟨h, g, d, t, os⟩ : Shared).TypeIs (.ref a) "list" := ⟨_, hx, rfl⟩
  have f2 := F.slot_list_getattribute.lookup
  have f3 := F.slot_list_getattribute.bind (.ref a)
  cases expr
  all_goals repeat (any_goals (first | assumption | wp_step))
  all_goals refine app_call hx ?_
  all_goals repeat (any_goals (first | assumption | wp_step))

theorem app_attr {Q : Value → Shared → Prop} (hx : h.get? a = some (seqObj "list" xs n)) (hq : Q (.ref h.objs.size) ⟨h.push (boundApp a), g, d, t + 1, os⟩) :
    wpAny (model prog w) A (getAttr (.ref a) (Str.ofString "append") true) Q E ⟨h, g, d, t, os⟩ := by
  unfold getAttr
  refine wpAny_bind (wpAny_mkText ?_)
  exact app_by hx hq

theorem sig_app : Manifest.signature? "list.append" = some ⟨.oneArg, "list.append", "append", .self, [⟨"object", .posOnly, true⟩]⟩ := by kernel_rfl
theorem kind_app : builtinKind "list.append" = some .method := by kernel_rfl
theorem check_app {x : Value} {Q : Unit → Shared → Prop} (hx : h.get? a = some (seqObj "list" xs n)) (hq : Q () ⟨h, g, d, t, os⟩) : wpAny (model prog w) A (checkBoundCall "list.append" ⟨[.ref a, x], []⟩) Q E ⟨h, g, d, t, os⟩ := by
  have hT : (⟨h, g, d, t, os⟩ : Shared).TypeIs (.ref a) "list" := ⟨_, hx, rfl⟩
  unfold checkBoundCall
  rw [sig_app, kind_app]
  dsimp only
  refine W.KFB.if_not (by decide) ?_
  refine wpAny_bind (wpAny_isInstance (b := false) hT (by rw [isSubtype_type]; kernel_rfl) ?_)
  refine W.KFB.if_not (by decide +kernel) ?_
  refine wpAny_bind ?_
  unfold isType
  dsimp only
  refine wpAny_bind (wpAny_loadPart_at hx (wpAny_pure ?_))
  refine W.KFB.if_not rfl ?_
  refine wpAny_bind (wpAny_typeOf hT ?_)
  dsimp only
  have e1 : (toString (Bind.lastOf "list") ++ toString "." ++ toString (Bind.lastOf "list.append") : String) = "list.append" := by decide +kernel
  rw [e1]
  unfold Bind.checkArgs
  dsimp only
  refine wpAny_bind (m := Bind.printed "list.append" true _ _) (PyProof.Rows.printed_name (by decide) ?_)
  refine wpAny_bind (m := Bind.printed "append" false _ _) (PyProof.Rows.printed_name (by decide) ?_)
  have hrn : (Manifest.Receiver.self == Manifest.Receiver.none) = false := by decide
  have hn : (if (Manifest.Receiver.self == Manifest.Receiver.none) = true then [Value.ref a, x].length else [Value.ref a, x].length - 1) = 1 := by simp [hrn]
  rw [hn]
  simp only [List.map_nil]
  have hc : Bind.check ⟨.oneArg, "list.append", "append", .self, [⟨"object", .posOnly, true⟩]⟩ "list.append" "append" 1 [] = pure () := by
    simp [Bind.check]
  rw [hc]
  exact wpAny_pure hq
end
section
variable {prog : Program} {w : World} {A : Around} {E : Value → Shared → Prop}
theorem app_run {s : Shared} {u l : Addr} {x : Value} {items : Array Value} {Q : Value → Shared → Prop} (hu : s.heap.get? u = some (boundApp l)) (hl : s.heap.PlainList l items)
    (hQ : ∀ h', h'.PlainList l (items.push x) → Heap.SameBut l s.heap h' → Q .none { s with heap := h' }) (hsz : items.size ≤ sizeLine) : wpAny (model prog w) A (call (.ref u) [x]) Q E s := by
  obtain ⟨n, ho⟩ := hl
  refine wpAny_call (codeAny_of_tree ?_)
  show wpAny _ A.in1 (callAny (.ref u) ⟨[x], []⟩) _ _ s
  simp only [callAny]
  refine wpAny_bind (wpAny_load hu ?_)
  simp only [boundApp]
  refine W.KFB.if_so (by decide) ?_
  obtain ⟨hp, g, d, t, os⟩ := s
  refine wpAny_bind (check_app (n := n) (xs := items) ho ?_)
  refine wpAny_bind (wpAny_pure (wpAny_pure ?_))
  refine ⟨Code.quiet_builtin _ (by decide +kernel), codeAny_builtin PySem.F.entry_list_append ?_⟩
  show wpAny _ _ (updateSeq l (·.push x) >>= fun _ => ret .none) _ _ _
  refine wpAny_bind ?_
  refine wpAny_updateSeq ho rfl (wpAny_pure (hQ _ ⟨n + 1, ?_⟩ (Heap.SameBut.update ..)))
  rw [Heap.get?_update_self _ ho (by rw [Obj.mapSeq_push_plain]; rfl), Obj.mapSeq_push_plain]
theorem callWith_rec {s : Shared} {env : Env} {pos : Pos} {u : Addr} {args : List Expr} {Q : Value → Shared → Prop} (hp : (starEach args env).all (fun x => !x.1) = true)
    (h : wpAny (model prog w) A (spliced (backTo pos (starEach args env))) (fun vs s₁ => (∃ l, s₁.heap.get? u = some (boundApp l)) ∧ wpAny (model prog w) A (call (.ref u) vs) Q E s₁) E s) : wpAny (model prog w) A (callWith pos (.ref u) [] (backTo pos (starEach args env)) []) Q E s := by
  unfold callWith
  refine wpAny_bind (wpAny_holding (evalArgs_any hp (wpAny_mono h (fun vs s₁ h₁ => wpAny_bind (wpAny_standAt ?_)) fun _ _ x => x)))
  obtain ⟨⟨l, ho⟩, hcall⟩ := h₁
  simp only [any_of_all hp, List.any_nil, Bool.or_false]
  refine wpAny_bind (m := keeperOf (.ref u)) ?_
  unfold keeperOf
  refine wpAny_bind (wpAny_load ho ?_)
  simp only [boundApp, show (Value.type "builtin_function_or_method" != Value.type "method") = true by decide, show (Value.type "builtin_function_or_method" == Value.type "builtin_function_or_method" || Value.type "builtin_function_or_method" == Value.type "method-wrapper") = true by decide, if_true]
  refine wpAny_pure ?_
  exact wpAny_bind (wpAny_mono hcall (fun r s₂ hr => wpAny_bind (wpAny_holding (wpAny_point (wpAny_pure hr)))) fun _ _ x => x)
end

section
variable {cx : Cx} {A : Around} {σ : CS} {env : Env}
theorem cv_append {n : Str} {np pos : Pos} {S : List (Addr × CO)} {F : Fz} {l : Addr} {vs : List Value} {Q : Value → CS → Prop}
    (h : CV cx A (eval (.Name n np) env) (fun o σ₁ => ∃ vs S F, o = .ref l ∧ σ₁ = ⟨S, F⟩ ∧ Sees σ₁ l (.list vs) ∧ ∀ u, Q (.ref u) ⟨(u, .raw (boundApp l)) :: S, F⟩) σ) : CV cx A (eval (.Attribute (.Name n np) (Str.ofString "append") pos) env) Q σ := fun s R => by
  refine Attribute_name (wpAny_mono (h s R) (fun o s₁ ⟨σ₁, R₁, vs, S, F, ho, hσ, hl, hQ⟩ => ?_) fun _ _ x => x)
  subst hσ
  obtain rfl := nv_ref ho
  obtain ⟨xs, n, e, _⟩ := (hl.get R₁).plain
  obtain ⟨hp, g, d, t, os⟩ := s₁
  refine app_attr e ⟨_, R₁.push (co := .raw (boundApp l)) (Heap.get?_push_size _ rfl) (t + 1) (Nat.succ_pos _), hQ _⟩
theorem cwith_bound {pos : Pos} {u l : Addr} {args : List Expr} {Q : Value → CS → Prop} (h : Args cx A env pos args (fun vs σ₂ => Sees σ₂ u (.raw (boundApp l)) ∧ Cal cx A (.ref u) vs Q σ₂) σ)
    (hp : (starEach args env).all (fun x => !x.1) = true) : CWith cx A env pos (.ref u) [] args Q σ := fun f' first' hf' hfirst s R => by
  obtain rfl := nv_ref hf'
  obtain rfl : first' = [] := by simpa using hfirst
  exact callWith_rec hp (wpAny_mono (h s R) (fun vs s₁ ⟨σ₁, R₁, h₁⟩ => ⟨⟨l, h₁.1.get R₁⟩, h₁.2 vs rfl s₁ R₁⟩) fun _ _ x => x)
theorem cal_bound {u l : Addr} {vs : List Value} {v : Value} {S S' : List (Addr × CO)} {F : Fz} {Q : Value → CS → Prop} (h : Q .none ⟨S', F⟩) (hu : Sees ⟨S, F⟩ u (.raw (boundApp l))) (up : Up S l (.list vs) (.list (vs ++ [v])) S') (hs : vs.length ≤ 16777216) :
    Cal cx A (.ref u) [v] Q ⟨S, F⟩ := fun vs' hv s R => by
  obtain ⟨y, rfl, e2⟩ := map1 hv
  obtain ⟨xs, n, e, m⟩ := (R.at_ _ up.old : ORel _ _ _).plain
  refine app_run (hu.get R) ⟨n, e⟩ (fun h' hp hs' => ⟨⟨S', F⟩, R.upm up rfl hs'.extBut ?_ s.toks R.pos, h⟩) (by rw [List.size_toArray, ← List.length_map (f := nv), m, sizeLine_eq]; exact hs)
  obtain ⟨n', e'⟩ := hp
  exact ⟨_, n', e', by simp [m, e2]⟩
end
end Mine
end

section
set_option Elab.async false
set_option linter.unusedVariables false
set_option autoImplicit false
set_option maxRecDepth 100000
namespace Mine
section
variable {cx : Cx} {A : Around} {σ : CS} {env : Env}
theorem iop_add_list {a b : Addr} {vs ws : List Value} {S S' : List (Addr × CO)} {F : Fz} {Q : Value → CS → Prop} (h : Q (.ref a) ⟨S', F⟩) (u : Up S a (.list vs) (.list (vs ++ ws)) S') (hb : Sees ⟨S, F⟩ b (.list ws))
    (hz : vs.length + ws.length ≤ 1000000) : Op2 cx A (inplaceOp .Add) (.ref a) (.ref b) Q ⟨S, F⟩ := fun v w hv hw s R => by
  obtain rfl := nv_ref hv; obtain rfl := nv_ref hw
  obtain ⟨xs, n, e, m⟩ := (R.at_ _ u.old : ORel _ _ _).plain
  obtain ⟨ys, n', e', m'⟩ := (hb.get R).plain
  have hT : s.TypeIs (.ref a) "list" := ⟨_, e, rfl⟩
  have hT2 : s.TypeIs (.ref b) "list" := ⟨_, e', rfl⟩
  have hlx : xs.length = vs.length := by rw [← m, List.length_map]
  have hly : ys.length = ws.length := by rw [← m', List.length_map]
  unfold inplaceOp
  refine wpAny_holding ?_
  have hfi : fillsInplaceSlot (.type "list") "add" (Operator.Add == .Add) = pure false := by
    unfold fillsInplaceSlot
    show (typeLookup (.type "list") (dunderI "add") >>= fun fi => pure (fi.isSome && !isSeqSlot fi)) = pure false
    rw [PySem.F.slot_list_iadd.lookup]
    show (pure (Option.isSome (some (Value.builtin "list.__iadd__")) && !isSeqSlot (some (.builtin "list.__iadd__"))) : Sem Bool) = pure false
    rw [show isSeqSlot (some (.builtin "list.__iadd__")) = true by decide +kernel]
    rfl
  have hsi : seqSlot? (.type "list") (dunderI "add") = pure (some (.builtin "list.__iadd__")) := PySem.seqSlot_of PySem.F.slot_list_iadd.lookup (by decide +kernel)
  refine wpAny_bind (wpAny_typeOf hT (wpAny_bind (wpAny_of_eq hfi ?_)))
  refine W.KFB.if_not rfl ?_
  refine wpAny_bind (wpAny_binaryOp1_none (nm := "add") hT hT2 noFill_list_add ?_)
  refine wpAny_bind (wpAny_of_eq hsi ?_)
  refine wpAny_bind (wpAny_rule ?_)
  refine (wpAny_mono (call_meets PySem.F.slot_list_iadd hT PySem.F.entry_list_iadd (PySem.F.args_list_iadd_2 _ _) (PySem.AutoSeq1.list___iadd___list_list_0 a xs.toArray n b ys.toArray n' (extend_door ?_) ?_ ?_) ⟨e, e', ?_⟩) (fun v s' h' => h') fun _ _ x => x)
  · rw [List.size_toArray, List.size_toArray, sizeLine_eq]; omega
  · rw [List.size_toArray, sizeLine_eq]; omega
  · rw [List.size_toArray, List.size_toArray, sizeLine_eq]; omega
  · refine ⟨⟨S', F⟩, R.upm u rfl (Heap.SameBut.update ..).extBut ?_ s.toks R.pos, h⟩
    have e2 : (Obj.mapSeq (fun x => x ++ ys.toArray) (seqObj "list" xs.toArray n)) = seqObj "list" (xs ++ ys).toArray (if (xs.toArray ++ ys.toArray).size == xs.toArray.size then n else n + 1) := by
      rw [mapSeq_app]; simp
    refine ⟨(xs ++ ys).toArray, if (xs.toArray ++ ys.toArray).size == xs.toArray.size then n else n + 1, ?_, by simp [m, m']⟩
    rw [Heap.get?_update_self _ e (by rw [e2]; rfl), e2]
end
end Mine
end

section
set_option Elab.async false
set_option linter.unusedVariables false
set_option autoImplicit false
set_option maxRecDepth 100000
namespace Mine
noncomputable abbrev plainObj : Obj := { cls := .type "object", dict := none, data := .plain }
theorem obj_mro : mroOf (.type "object") = pure [.type "object"] := by kernel_rfl
theorem obj_new : typeLookup (.type "object") "__new__" = pure (some (.builtin "object.__new__")) := by rw [typeLookup_type, builtinLookup_eq_fast]; kernel_rfl
theorem obj_made : Bind.madeBy (.type "object") = pure (some "object.__new__") := madeBy_type obj_mro obj_new (by decide +kernel)
theorem obj_meets : Meets (Builtin.«object.__new__» ⟨[.type "object"], []⟩) (fun _ R s => R (.ok (.ret (.ref s.heap.objs.size))) { s with heap := s.heap.push plainObj }) := by
  refine Meets.of_wp fun prog w A R s hq => ?_
  have f1 := obj_mro
  have f2 := obj_new
  have f3 := obj_made
  repeat (any_goals (first | assumption | wp_step))
  exact ⟨_, rfl, hq⟩
theorem obj_called : TypeCalled "object" "object.__new__" "object.__init__" where
  notType := by decide
  canCreate := by decide +kernel
  mro := ⟨_, _, obj_mro⟩
  made := obj_made
  plain := by decide +kernel
  sub := by rw [isSubtype_type]; kernel_rfl
  init := .of (owner := "object") (n := "__init__") (by rw [typeLookup_type, builtinLookup_eq_fast]; kernel_rfl) (by decide +kernel) (by decide +kernel) (by decide +kernel)
    (by first | exact .inl (by decide +kernel) | exact .inr (by decide +kernel)) (by rw [isSubtype_type]; kernel_rfl)
theorem obj_ct : checkTypeCall "object" ⟨[], []⟩ = pure () := by first | rfl | kernel_rfl
theorem obj_cn : checkBuiltinCall "object.__new__" ⟨[.type "object"], []⟩ = pure () := by first | rfl | kernel_rfl
theorem obj_entry : entryFor table "object.__new__" = some Builtin.«object.__new__» := entryFor_of_tree (by kernel_rfl)
theorem obj_args (o : Value) : argsOk "object.__init__" ⟨[o], []⟩ := by unfold argsOk; kernel_rfl
section
variable {cx : Cx} {A : Around} {σ : CS} {env : Env}
theorem call_object {prog : Program} {w : World} {E : Value → Shared → Prop} {s : Shared} {Q : Value → Shared → Prop} (hq : Q (.ref s.heap.objs.size) { s with heap := s.heap.push plainObj }) : wpAny (model prog w) A (call (.type "object") []) Q E s := by
  refine callType_meets (Q₁ := fun obj s₁ => obj = .ref s.heap.objs.size ∧ s₁ = { s with heap := s.heap.push plainObj }) obj_called obj_ct obj_cn obj_entry F.entry_object_init obj_meets ⟨rfl, rfl⟩ ?_
  rintro obj s₁ ⟨rfl, rfl⟩
  exact ⟨⟨_, Heap.get?_push_size _ rfl, rfl⟩, obj_args _, fun _ R s => R (.ok (.ret .none)) s, Meets.of_wp fun prog w A R s hq => wpAny_pure ⟨_, rfl, hq⟩, rfl, hq⟩
theorem cal_object {S : List (Addr × CO)} {F : Fz} {Q : Value → CS → Prop} (h : ∀ d, Q (.ref d) ⟨(d, .raw plainObj) :: S, F⟩) : Cal cx A (.type "object") [] Q ⟨S, F⟩ := fun vs' hv s R => by
  obtain rfl : vs' = [] := by simpa using hv
  exact call_object ⟨_, R.push (co := .raw plainObj) (Heap.get?_push_size _ rfl) s.toks R.pos, h _⟩

theorem cal_sum {a : Addr} {ks : List Int} {Q : Value → CS → Prop} (hh : A.handled = none) (ha : Sees σ a (.list (ks.map In))) (h : Q (In ks.sum) σ) : Cal cx A (.builtin "sum") [.ref a] Q σ := fun vs' hv s R => by
  obtain ⟨v, rfl, e⟩ := map1 hv
  obtain rfl := nv_ref e
  obtain ⟨xs, hl, hx⟩ := (ha.get R).isList
  have conv : ∀ {xs : List Value} {ks : List Int}, xs.map nv = ks.map In → ∃ ps : List (Int × Tok), xs = ps.map (fun p => .int p.1 p.2) ∧ ps.map (·.1) = ks := by
    intro xs
    induction xs with
    | nil => intro ks h; cases ks with
      | nil => exact ⟨[], rfl, rfl⟩
      | cons => cases h
    | cons x r ih => intro ks h; cases ks with
      | nil => cases h
      | cons k q =>
        rw [List.map_cons, List.map_cons, List.cons.injEq] at h
        obtain ⟨ps, h1, h2⟩ := ih h.2
        obtain ⟨t, ht⟩ := nv_int h.1
        exact ⟨(k, t) :: ps, by rw [ht, h1]; rfl, by rw [List.map_cons, h2]⟩
  obtain ⟨ps, rfl, rfl⟩ := conv hx
  have hl' : s.heap.IsList a (intItems ps.toArray) := by simpa [intItems] using hl
  refine leaf R.pos (sum_intListG hh hl' fun h' tk t' hk => ?_)
  intro htk
  have e : preSum (numAt ps.toArray) ps.toArray.size = (ps.map (·.1)).sum := by
    rw [preSum_eq]
    simp [List.take_of_length_le]
  rw [e]
  exact ⟨σ, R.grow hk tk htk, h⟩
end
end Mine
end

section
set_option Elab.async false
set_option linter.unusedVariables false
set_option autoImplicit false
set_option maxRecDepth 100000
namespace Mine

theorem Up.of_mem {α β : Type} {l : List (α × β)} {a : α} {b : β} (h : (a, b) ∈ l) : Up l a b b l := by
  induction l with
  | nil => cases h
  | cons p r ih =>
    rcases List.mem_cons.mp h with rfl | h
    · exact .head
    · exact .tail (ih h)

theorem triples_one {ps : List Value} (t : TriplesOk ps) {q : Str} {k : Tok} : ps[1]? ≠ some (.str q k) := by
  match ps, t with
  | [], _ => simp
  | .int _ _ :: .int _ _ :: _ :: _, _ => simp
theorem rec_notTab {h : Heap} {P : Addr} {ps : Array Value} (g : h.get? P = some (tabObj ps)) (t : TriplesOk ps.toList) {cd : Value} {q : Str} (r : h.CodeRec cd q) {h' : Heap} (k : Heap.ExtBut P h h') : h'.CodeRec cd q := by
  obtain ⟨d, o, vs, tk, q1, q2, q3, q4⟩ := r
  refine ⟨d, o, vs, tk, q1, k _ _ (fun z => ?_) q2, q3, q4⟩
  subst z
  rw [g] at q2; cases q2; cases q3
  exact triples_one t (by rw [Array.getElem?_toList]; exact q4)

theorem codeAmong_app {pos : Pos} {l c : Int} {t u : Tok} {cv : Value} : ∀ {ps : List Value}, TriplesOk ps → codeAmong pos (ps ++ [.int l t, .int c u, cv]) = (codeAmong pos ps).or (if l == pos.line && c == pos.col then some cv else none)
  | [], _ => by simp [codeAmong]
  | .int a _ :: .int b _ :: d :: r, h => by
    have := codeAmong_app (pos := pos) (l := l) (c := c) (t := t) (u := u) (cv := cv) (ps := r) h
    simp only [List.cons_append, codeAmong]
    split
    · simp
    · exact this
theorem triples_app {l c : Int} {t u : Tok} {cv : Value} : ∀ {ps : List Value}, TriplesOk ps → TriplesOk (ps ++ [.int l t, .int c u, cv])
  | [], _ => trivial
  | .int _ _ :: .int _ _ :: _ :: r, h => triples_app (ps := r) h
theorem TabOk.add {h h' : Heap} {c P : Addr} {qs : List (Pos × Str)} {ps : Array Value} {pos : Pos} {c' : Addr} {q : Str} (x : TabOk h c P qs) (hP : h.get? P = some (tabObj ps)) (k : Heap.ExtBut P h h') (hP' : h'.get? P = some (tabObj (ps ++ #[rawInt pos.line, rawInt pos.col, .ref c'])))
    (hr : h'.CodeRec (.ref c') q) (hq : qs.all (fun y => !((pos.line : Int) == (y.1.line : Int) && (pos.col : Int) == (y.1.col : Int)) || y.2 == q) = true) : TabOk h' c P qs := by
  obtain ⟨⟨o, vs, f, tf, fl, tg, b, n, tt, e1, e2, e3, r⟩, ps₀, g, t, w⟩ := x
  rw [hP] at g
  have : ps₀ = ps := by injection g with g; injection g with _ _ g; injection g with g; exact g.symm
  subst this
  have hc : c ≠ P := fun z => by subst z; rw [hP] at e1; cases e1; cases e2
  refine ⟨⟨o, vs, f, tf, fl, tg, b, n, tt, k _ _ hc e1, e2, e3, r⟩, _, hP', ?_, fun y hy cv hcv => ?_⟩
  · simp only [Array.toList_append]
    exact triples_app t
  · simp only [Array.toList_append] at hcv
    have e := codeAmong_app (pos := y.1) (l := (pos.line : Int)) (c := (pos.col : Int)) (t := 0) (u := 0) (cv := .ref c') t
    rw [show ([rawInt pos.line, rawInt pos.col, Value.ref c'] : List Value) = [.int (pos.line : Int) 0, .int (pos.col : Int) 0, .ref c'] from rfl] at hcv
    rw [e] at hcv
    cases hf : codeAmong y.1 ps₀.toList with
    | some cv0 =>
      rw [hf] at hcv
      have : cv0 = cv := by simpa using hcv
      subst this
      exact rec_notTab hP t (w y hy cv0 hf) k
    | none =>
      rw [hf] at hcv
      have hy' := List.all_eq_true.mp hq y hy
      split at hcv
      · rename_i hpos
        have : cv = .ref c' := by simpa using hcv.symm
        subst this
        rw [hpos] at hy'
        have : y.2 = q := by simpa using hy'
        rw [this]; exact hr
      · simp at hcv

section
variable {cx : Cx} {A : Around} {σ : CS} {env : Env}
theorem Rep.tabUp {S : List (Addr × CO)} {F : Fz} {P c : Addr} {qs : List (Pos × Str)} {s : Shared} {h' : Heap} (R : Rep cx ⟨S, F⟩ s) (hm : (P, CO.tab c qs) ∈ S) (k : Heap.ExtBut P s.heap h') (hP : TabOk h' c P qs) (tk : Tok) (ht : 0 < tk) :
    Rep cx ⟨S, F⟩ { s with heap := h', toks := tk } := by
  obtain ⟨_, ps, g, t, _⟩ := (R.at_ _ hm : ORel _ _ _)
  refine R.up (Up.of_mem hm) k hP (fun p hp hc hne => ?_) tk ht
  obtain ⟨a, co⟩ := p
  cases co with
  | tab c2 qs2 =>
    obtain ⟨⟨o, vs, f, tf, fl, tg, b, n, tt, e1, e2, e3, r⟩, ps2, g2, t2, w2⟩ := (R.at_ _ hp : ORel _ _ _)
    have hc2 : c2 ≠ P := fun z => by subst z; rw [g] at e1; cases e1; cases e2
    exact ⟨⟨o, vs, f, tf, fl, tg, b, n, tt, k _ _ hc2 e1, e2, e3, r⟩, ps2, k _ _ hne g2, t2, fun y hy cv hcv => rec_notTab g t (w2 y hy cv hcv) k⟩
  | fn mk =>
    obtain ⟨o, pm, cv, ctv, e, c', d, r⟩ := (R.at_ _ hp : ORel _ _ _)
    exact ⟨o, pm, cv, ctv, k _ _ hne e, c', d, rec_notTab g t r k⟩
  | _ => cases hc
noncomputable def Fz.bm : Fz := ⟨fun h => ∃ mg bm ob, h.Ns mainGlobals mg ∧ mg "__builtins__" = some (.ref bm) ∧ bm ≠ builtinsNs ∧ bm ≠ mainGlobals ∧ h.get? bm = some ob ∧ ob.cls = .type "module" ∧ ob.dict = some builtinsNs ∧ ob.data = .plain,
  fun k ⟨mg, bm, ob, h1, h2, h3, h4, h5, h6⟩ => ⟨mg, bm, ob, h1.keeps k, h2, h3, h4, k _ _ h5, h6⟩⟩

theorem bm_at {S : List (Addr × CO)} {F : Fz} {P c : Addr} {qs : List (Pos × Str)} {s : Shared} (hB : Fz.Le F Fz.bm) (R : Rep cx ⟨S, F⟩ s) (hm : (P, CO.tab c qs) ∈ S) : ∃ mg, s.heap.Ns mainGlobals mg ∧ mainGlobals ≠ P ∧ s.heap.BuiltinsAt mg P := by
  obtain ⟨B, f, e, n⟩ := R.fz
  obtain ⟨mg, bm, ob, h1, h2, h3, h4, h5, h6, h7, h8⟩ := hB B f
  have hPn := n _ hm
  have hg : mainGlobals ≠ P := fun z => by
    obtain ⟨o, _, _, q, _⟩ := h1
    rw [z] at q; rw [hPn] at q; cases q
  exact ⟨mg, h1.keeps e, hg, bm, ob, h2, h3, h4, fun z => (by rw [z] at h5; rw [hPn] at h5; cases h5), e _ _ h5, h6, h7, h8⟩

noncomputable abbrev lamMk (qual : Str) (params : Arguments) (body : Expr) (scope : Scope) (clos : List (Str × Addr)) : Value → Value → Value → FuncData := fun pm cv ctv => kla_fn "<lambda>" qual params body scope clos pm cv ctv
theorem cv_lambda {params : Arguments} {body : Expr} {scope : Scope} {pos : Pos} {S : List (Addr × CO)} {F : Fz} {P c : Addr} {qs : List (Pos × Str)} {clos : List (Str × Addr)} {Q : Value → CS → Prop}
    (hB : Fz.Le F Fz.bm) (hm : (P, CO.tab c qs) ∈ S) (hcode : env.code = .ref c) (hge : env.globals = mainGlobals) (hclos : closureFor scope env = pure clos) (hdef : defaultsOf params env = ([], []))
    (hq : (pos, env.qual ++ "<lambda>") ∈ qs) (hqs : qs.all (fun y => !((pos.line : Int) == (y.1.line : Int) && (pos.col : Int) == (y.1.col : Int)) || y.2 == env.qual ++ "<lambda>") = true)
    (h : ∀ f, Q (.ref f) ⟨(f, .fn (lamMk (env.qual ++ "<lambda>") params body scope clos)) :: S, F⟩) : CV cx A (eval (.Lambda params body scope pos) env) Q ⟨S, F⟩ := fun s R => by
  obtain ⟨mg, hg, hgP, hb⟩ := bm_at hB R hm
  obtain ⟨C, ps, g, t, w⟩ := (R.at_ _ hm : ORel _ _ _)
  refine leaf R.pos (kla_eval hdef ?_)
  cases hf : codeAmong pos ps.toList with
  | none =>
    refine kla_makeFunction hclos hge hg hcode C g t hf hgP hb fun c' ctv h' tk hx hge' hlt hrec htb htk => ?_
    have T' : TabOk h' c P qs := TabOk.add ⟨C, ps, g, t, w⟩ g hx htb hrec hqs
    have R₁ := R.tabUp hm hx T' tk htk
    refine ⟨_, R₁.push (co := .fn (lamMk (env.qual ++ "<lambda>") params body scope clos)) ⟨_, _, _, _, Heap.get?_push_size _ rfl, rfl, rfl, codeRec_ext hrec fun b o e => Heap.get?_push_of_some _ e⟩ tk htk, h _⟩
  | some cv =>
    refine kla_makeFunctionHit hclos hge hg hcode C g t hf hb fun ctv h' tk hk hsz htk => ?_
    have R₁ := R.grow hk tk htk
    have hrec := codeRec_ext (w _ hq cv hf) hk
    refine ⟨_, R₁.push (co := .fn (lamMk (env.qual ++ "<lambda>") params body scope clos)) ⟨_, _, _, _, Heap.get?_push_size _ rfl, rfl, rfl, codeRec_ext hrec fun b o e => Heap.get?_push_of_some _ e⟩ tk htk, h _⟩

theorem sees_fn {mk : Value → Value → Value → FuncData} {a : Addr} (hm : (a, CO.fn mk) ∈ σ.S) : FnAt cx σ a := fun s R => by
  obtain ⟨o, pm, cv, ctv, e, _, d, _⟩ := (R.at_ _ hm : ORel _ _ _)
  exact ⟨o, _, e, d⟩
theorem cal_lam {a : Addr} {qual : Str} {params : Arguments} {body : Expr} {scope : Scope} {clos : List (Str × Addr)} {vs : List Value} {S : List (Addr × CO)} {F : Fz} {Q : Value → CS → Prop} {p : Program} {loose : List Str} {K : Frag} {n : Nat} (names : List Str)
    (hF : Fz.Le F (Fz.top p loose K)) (hm : (a, CO.fn (lamMk qual params body scope clos)) ∈ S) (room : Room A (n + 1))
    (hb : ∀ pm cv ctv (vs' : List Value), vs'.length = vs.length → bindArgs (lamMk qual params body scope clos pm cv ctv) ⟨vs', []⟩ = pure (names.zip vs')) (hl : names.length = vs.length) (hx : names.Nodup)
    (hco : scope.isCoroutine = false) (hgen : scope.isGenerator = false) (hk : scope.kind = .function) (hcell : scope.names.all (fun x => !(x.2 == .cell)) = true) (hloc : names.all (fun x => scope.names.lookup x == some .local) = true)
    (h : ∀ L A' cv, Room A' n → CV cx A' (eval body (newEnv scope L mainGlobals clos (qual ++ ".<locals>.") (some a) cv none builtinsNs)) Q ⟨(L, .ns (zipS names vs)) :: S, F⟩) :
    Cal cx A (.ref a) vs Q ⟨S, F⟩ := fun vs' hv s R => by
  obtain ⟨o, pm, cv, ctv, e, _, d, r⟩ := (R.at_ _ hm : ORel _ _ _)
  refine wpAny_call (kla_callFunE (by have := room.d; show A.depth < 1000; omega) e d hco hgen rfl r ?_)
  rw [hb pm cv ctv vs' (by rw [← hv, List.length_map])]
  refine wpAny_pure ?_
  have hz : (names.zip vs').map (fun p => (p.1, nv p.2)) = names.zip vs := by
    rw [← hv, List.zip_map_right]; rfl
  refine wpAny_mono (new_env (A := A.in1) (binds := names.zip vs') (Q := fun env σ₂ => ∃ L, env = newEnv scope L mainGlobals clos (qual ++ ".<locals>.") (some a) cv none builtinsNs ∧ σ₂ = ⟨(L, .ns (zipS names vs)) :: S, F⟩) R names hx (fun L => ?_)) (fun env s₂ ⟨σ₂, R₂, h₂⟩ => ?_) fun _ _ x => x.elim
  · refine cells_none hcell ?_
    rw [hz]
    have e : nones names = [] ++ (nones names ++ []) := by simp
    rw [e]
    refine binds_ns (L := L) (env := newEnv scope L mainGlobals clos (qual ++ ".<locals>.") (some a) cv none builtinsNs) rfl hk names vs [] [] hl hloc ?_
    refine ⟨L, rfl, ?_⟩
    simp
  · obtain ⟨L, rfl, rfl⟩ := h₂
    obtain ⟨X, mg, mb, T⟩ := top_at (σ := ⟨(L, CO.ns (zipS names vs)) :: S, F⟩) hF R₂
    refine ⟨T.nolimit, kla_codeExpr (wpAny_mono (h L _ cv room.deeper s₂ R₂) (fun v s₃ h₃ => h₃) fun _ _ x => x.elim)⟩
end
end Mine
end

section
set_option Elab.async false
set_option linter.unusedVariables false
set_option autoImplicit false
set_option maxRecDepth 100000
namespace Mine
noncomputable def Hand (C I l : Addr) (n : Nat) (F : Nat → Value → Prop) : Protocol := fun m s₀ v s kap =>
  F (n - 1 - m) v ∧ GenSince C [I] s₀ s ∧ ∀ s'' : Shared, 0 < s''.toks → (∀ b ∈ [C, I, l], ∀ o, s.heap.get? b = some o → s''.heap.get? b = some o) → kap (.send .none) s''
noncomputable abbrev HandEnd (C I : Addr) : GenEnd := fun n s₀ r s₁ => r = .ok .next ∧ (n = 0 ∧ GenSince C [I] s₀ s₁)

section
variable {prog : Program} {w : World} {A : Around}

noncomputable def EltOk (prog : Program) (w : World) (elt : Expr) (cenv : Env) (x : Str) (items : Array Value) (F : Nat → Value → Prop) : Prop :=
  ∀ (A' : Around) (E' : Value → Shared → Prop) (i : Nat) (v : Value) (s : Shared) (m : Str → Option Value), A'.handled = none → 0 < s.toks → items[i]? = some v → s.heap.Ns cenv.locals m → m x = some v →
    wpAny (model prog w) A' (eval elt cenv) (fun y s₃ => F i y ∧ Keeps s s₃) E' s

theorem hand_loop {elt iter : Expr} {x : Str} {px : Pos} {scope : Scope} {pos : Pos} {I l : Addr} {items : Array Value} {cenv : Env} {F : Nat → Value → Prop} (hh : A.handled = none) (hlI : l ≠ I) (hCI : cenv.locals ≠ I) (hCl : cenv.locals ≠ l)
    (hx : cenv.kindOf x = some .local) (hk : cenv.scope.kind = .function) (hco : cenv.scope.isCoroutine = false) (hE : EltOk prog w elt cenv x items F) :
    ∀ (k i : Nat) (s₀ s : Shared) (m : Str → Option Value), items.size - i = k → i ≤ items.size → 0 < s.toks → s.heap.IsListIter I l i → s.heap.IsList l items → s.heap.Ns cenv.locals m → GenSince cenv.locals [I] s₀ s →
      Seg (model prog w) A (HandEnd cenv.locals I) (Hand cenv.locals I l items.size F) (items.size - i) s₀
        (.compLoop (.GeneratorExp elt [⟨.Name x px, iter, [], 0⟩] scope pos) 0 (.ref I) .none cenv)
        ((model prog w).den (.compLoop (.GeneratorExp elt [⟨.Name x px, iter, [], 0⟩] scope pos) 0 (.ref I) .none cenv)) [] s := by
  have hh' : (A.over (.compLoop (.GeneratorExp elt [⟨.Name x px, iter, [], 0⟩] scope pos) 0 (.ref I) .none cenv) []).handled = none := hh
  have hp : (cenv.scope.kind == .class || (cenv.scope.kind == .module && cenv.locals != cenv.globals)) = false := by rw [hk]; rfl
  intro k
  induction k with
  | zero =>
    intro i s₀ s m hki hi htk hit hl hn hs
    have hin : i = items.size := by omega
    subst hin
    rw [Nat.sub_self]
    show Seg _ A _ _ _ s₀ _ ((compTurn (.GeneratorExp elt [⟨.Name x px, iter, [], 0⟩] scope pos) 0 (.ref I) .none cenv).onRaise (leaving cenv)) [] s
    rw [compTurn_gen, Sem.onRaise_eq_wrap]
    refine seg_bind_wrap (wpAny_standAt ?_)
    refine seg_bind_wrap (wpAny_pyNext_list_end hh' hit hl (by simp) fun h' hk' => ?_)
    exact seg_end (.ok .next) ⟨rfl, rfl, hs.step (tk := s.toks) fun b o _ hw e => hk' b o (fun z => hw (by simp [z])) e⟩
  | succ k ih =>
    intro i s₀ s m hki hi htk hit hl hn hs
    have hlt : i < items.size := by omega
    have hcount : items.size - i = (items.size - (i + 1)) + 1 := by omega
    rw [hcount]
    show Seg _ A _ _ _ s₀ _ ((compTurn (.GeneratorExp elt [⟨.Name x px, iter, [], 0⟩] scope pos) 0 (.ref I) .none cenv).onRaise (leaving cenv)) [] s
    rw [compTurn_gen, Sem.onRaise_eq_wrap]
    refine seg_bind_wrap (wpAny_standAt ?_)
    have hv : items[i]? = some items[i] := Array.getElem?_eq_getElem hlt
    refine seg_bind_wrap (wpAny_pyNext_list_item hit hl hv fun h₁ hit₁ hs₁ => ?_)
    refine seg_bind_wrap (wpAny_of_eq (rfl : letOwnedTupleGo (.Name x px) (.ref I) items[i] = pure ()) ?_)
    refine seg_bind_wrap (wpAny_assign_Name (wpAny_storeName_local hx (hn.sameBut hs₁ hCI) (fun h₂ hn₂ hs₂ => ?_) hp))
    have up₂ : ∀ b o, b ≠ cenv.locals → b ≠ I → s.heap.get? b = some o → h₂.get? b = some o := fun b o hbC hbI e => hs₂.extBut b o hbC (hs₁.extBut b o hbI e)
    have hl₂ : h₂.IsList l items := (hl.extBut hs₁.extBut hlI).extBut hs₂.extBut (Ne.symm hCl)
    have hit₂ : h₂.IsListIter I l (i + 1) := let ⟨o, e, r⟩ := hit₁; ⟨o, hs₂.extBut I o (Ne.symm hCI) e, r⟩
    refine seg_bind_wrap (wpAny_pure ?_)
    simp only [if_true]
    have hy : ∀ v, yieldOut cenv v = yieldValue v := fun v => by simp only [yieldOut, hco, Bool.false_eq_true, if_false]
    simp only [hy]
    rw [Sem.bind_eq_wrap', Sem.bind_eq_wrap', Sem.wrap_wrap, Sem.wrap_wrap]
    refine seg_wrap (wpAny_with_toks (n := 1) (Nat.succ_pos _) (wpAny_mono (hE _ _ i items[i] _ _ hh' (Nat.succ_pos _) hv hn₂ (by simp)) (fun y s₄ h₄ => ?_) fun _ _ e => e))
    · obtain ⟨hFy, h₄, tk₄, rfl, hk₄⟩ := h₄
      intro htk₄
      refine seg_at (seg_yield rfl rfl rfl ⟨?_, ?_, fun s'' htk'' hal => ?_⟩)
      · have e : items.size - 1 - (items.size - (i + 1)) = i := by omega
        rw [e]; exact hFy
      · exact hs.step fun b o hbC hbI e => hk₄ b o (up₂ b o hbC (fun z => hbI (by simp [z])) e)
      · refine seg_again rfl (ih (i + 1) s'' s'' _ (by omega) hlt htk'' ?_ ?_ ((hn₂.keeps hk₄).at' fun o e => hal _ (by simp) o e) (GenSince.refl _ _ _))
        · exact let ⟨o, e, r⟩ := hit₂; ⟨o, hal I (by simp) o (hk₄ _ _ e), r⟩
        · exact let ⟨o, e, r⟩ := hl₂; ⟨o, hal l (by simp) o (hk₄ _ _ e), r⟩

theorem hand_start {elt iter : Expr} {x : Str} {px : Pos} {scope : Scope} {pos : Pos} {I l : Addr} {items : Array Value} {cenv : Env} {F : Nat → Value → Prop} (hh : A.handled = none) (hlI : l ≠ I) (hCI : cenv.locals ≠ I) (hCl : cenv.locals ≠ l)
    (hx : cenv.kindOf x = some .local) (hk : cenv.scope.kind = .function) (hco : cenv.scope.isCoroutine = false) (hE : EltOk prog w elt cenv x items F)
    (s₀ s : Shared) (m : Str → Option Value) (htk : 0 < s.toks) (hit : s.heap.IsListIter I l 0) (hl : s.heap.IsList l items) (hn : s.heap.Ns cenv.locals m) (hs : GenSince cenv.locals [I] s₀ s) :
      Seg (model prog w) A (HandEnd cenv.locals I) (Hand cenv.locals I l items.size F) items.size s₀
        (.compStart (.GeneratorExp elt [⟨.Name x px, iter, [], 0⟩] scope pos) 0 (.ref I) .none cenv)
        ((model prog w).den (.compStart (.GeneratorExp elt [⟨.Name x px, iter, [], 0⟩] scope pos) 0 (.ref I) .none cenv)) [] s := by
  have loop := hand_loop (iter := iter) (px := px) (scope := scope) (pos := pos) hh hlI hCI hCl hx hk hco hE items.size 0 s₀ s m (Nat.sub_zero _) (Nat.zero_le _) htk hit hl hn hs
  rw [Nat.sub_zero] at loop
  show Seg _ A _ _ _ s₀ _ ((compStart (.GeneratorExp elt [⟨.Name x px, iter, [], 0⟩] scope pos) 0 (.ref I) .none cenv).onRaise (leaving cenv)) [] s
  unfold compStart
  rw [Sem.onRaise_eq_wrap]
  show Seg _ A _ _ _ s₀ _ ((ask >>= _).wrap _ _ _ _) [] s
  refine seg_bind_wrap (wpAny_askSetting ?_)
  split
  · exact seg_again rfl loop
  · first
      | exact seg_bind_wrap (wpAny_rule (seg_bind_wrap (wpAny_standAt (seg_bind_wrap (wpAny_pyIter_listiter hit (seg_again rfl loop))))))
      | (refine seg_bind_wrap (wpAny_rule ?_); show Seg _ A _ _ _ s₀ _ ((standAt iter.pos >>= _).wrap _ _ _ _) [] s; exact seg_bind_wrap (wpAny_standAt (seg_bind_wrap (wpAny_pyIter_listiter hit (seg_again rfl loop)))))

noncomputable def HandAt (prog : Program) (w : World) (A : Around) (a : Addr) (g : Nat) (C I l : Addr) (n : Nat) (F : Nat → Value → Prop) (j : Nat) (s : Shared) : Prop :=
  0 < s.toks ∧ s.heap.IsGen a g ∧ s.heap.NoLimit ∧ ∃ gs, s.gens[g]? = some gs ∧ ∀ s'' : Shared, 0 < s''.toks → (∀ b ∈ [C, I, l], ∀ o, s.heap.get? b = some o → s''.heap.get? b = some o) →
    gs.Goes (model prog w) A.in1 (HandEnd C I) (Hand C I l n F) (n - j) (.send .none) s''

theorem hand_walks (hh : A.handled = none) (a : Addr) (g : Nat) (C I l : Addr) (n : Nat) (F : Nat → Value → Prop) (ha : a ≠ C ∧ a ≠ I) (hroom : A.depth < recursionLimit) (hc : cStatics ≠ C ∧ cStatics ≠ I) :
    WalksS prog w A a [a, C, I, l, cStatics] [C, I] (GenOnlyQ g) n F (HandAt prog w A a g C I l n F) where
  sub := fun b hb => by simp at hb ⊢; rcases hb with h | h <;> simp [h]
  grefl := fun _ => .inl rfl
  gtrans := fun _ _ _ x y => x.trans y
  frame := fun j s h' tk st htk hk =>
    ⟨Nat.lt_of_lt_of_le st.1 htk, let ⟨o, nm, qn, ho, r⟩ := st.2.1; ⟨o, nm, qn, hk a (by simp) o ho, r⟩,
     (let ⟨mc, hns, hnn⟩ := st.2.2.1; ⟨mc, hns.at' fun o e => hk cStatics (by simp) o e, hnn⟩),
     let ⟨gs, hgs, hgo⟩ := st.2.2.2; ⟨gs, hgs, fun s'' ht hal => hgo s'' ht fun b hb o e => hal b hb o (hk b (by simp at hb ⊢; rcases hb with h | h | h <;> simp [h]) o e)⟩⟩
  item := fun j s Q E hj st hQ => by
    obtain ⟨htk, hg, hl, gs, hgs, hgo⟩ := st
    obtain ⟨m, hm⟩ : ∃ m, n - j = m + 1 := ⟨n - j - 1, by omega⟩
    rw [hm] at hgo
    refine wpAny_with_toks (Nat.le_refl s.toks) ?_
    refine wpAny_pyNext_genexpQ (P := fun n s₀ s₁ => n = 0 ∧ GenSince C [I] s₀ s₁) hh hl hroom hg hgs (hgo _ htk fun _ _ _ e => e) (fun v s₁ gs' hb hv => ?_) (fun s₁ hp h' hk => ?_)
    · obtain ⟨hF, ⟨h₁, tk₁, rfl, hk₁⟩, hkap⟩ := hv
      have hidx : n - 1 - (m + 1 - 1) = j := by omega
      rw [hidx] at hF
      intro htk'
      refine hQ v _ hF ⟨Nat.lt_of_lt_of_le htk htk', let ⟨o, nm, qn, ho, r⟩ := hg; ⟨o, nm, qn, hk₁ a o ha.1 (by simpa using ha.2) ho, r⟩, (let ⟨mc, hns, hnn⟩ := hl; ⟨mc, hns.at' fun o e => hk₁ cStatics o hc.1 (by simpa using hc.2) e, hnn⟩), gs', setGen_self (gs := .running) (setGen_self hgs), fun s'' ht hal => ?_⟩
        ⟨fun b o hb e => hk₁ b o (fun h => hb (by simp [h])) (fun h => hb (by simp at h; simp [h])) e, GenOnlyQ.of ((GenOnly.setGen s g .running).trans (GenOnly.setGen _ g gs')) (setGen_self (gs := .running) (setGen_self hgs)) hb, rfl, rfl, htk'⟩
      have e : n - (j + 1) = m := by omega
      rw [e]
      exact hkap s'' ht hal
    · exact absurd hp.1 (Nat.succ_ne_zero m)
  done := fun s Q E st hQ => by
    obtain ⟨htk, hg, hl, gs, hgs, hgo⟩ := st
    rw [Nat.sub_self] at hgo
    refine wpAny_with_toks (Nat.le_refl s.toks) ?_
    refine wpAny_pyNext_genexpQ (P := fun n s₀ s₁ => n = 0 ∧ GenSince C [I] s₀ s₁) hh hl hroom hg hgs (hgo _ htk fun _ _ _ e => e) (fun v s₁ gs' hb hv => ?_) (fun s₁ hp h' hk => ?_)
    · obtain ⟨_, _, hkap⟩ := hv
      exact False.elim (hkap { s₁ with toks := 1 } Nat.one_pos fun _ _ _ e => e)
    · obtain ⟨_, h₁, tk₁, rfl, hk₁⟩ := hp
      intro htk'
      exact hQ _ ⟨fun b o hb e => hk b o (hk₁ b o (fun h => hb (by simp [h])) (fun h => hb (by simp at h; simp [h])) e), GenOnlyQ.of ((GenOnly.setGen s g .running).trans (GenOnly.setGen _ g .finished)) (setGen_self (gs := .running) (setGen_self hgs)) rfl, rfl, rfl, htk'⟩
  self := fun _ _ _ _ st hQ => wpAny_pyIter_gen st.2.1 hQ
end

section
variable {cx : Cx} {A : Around} {σ : CS} {env : Env}
theorem strs_at {xs : List Value} {ys : List (List Nat)} (h : xs.map nv = ys.map St) {i : Nat} {v : Value} (e : xs[i]? = some v) : ∃ y t, ys[i]? = some y ∧ v = .str ⟨y.toArray⟩ t := by
  have h1 : (xs.map nv)[i]? = some (nv v) := by rw [List.getElem?_map, e]; rfl
  rw [h, List.getElem?_map] at h1
  obtain ⟨y, e1, e2⟩ := Option.map_eq_some_iff.mp h1
  obtain ⟨t, ht⟩ := nv_str e2.symm
  exact ⟨y, t, e1, ht⟩
theorem cwith_join_gen {sep : List Nat} {elt iter : Expr} {x : Str} {px pos gpos : Pos} {scope : Scope} {Q : Value → CS → Prop} {p : Program} {loose : List Str} {K : Frag} (g : List Nat → List Nat) (ys : List (List Nat)) (c P : Addr) (qs : List (Pos × Str))
    (h : CV cx A (eval iter env) (fun v σ₁ => ∃ l S F, v = .ref l ∧ σ₁ = ⟨S, F⟩ ∧ Sees σ₁ l (.list (ys.map St)) ∧ (P, CO.tab c qs) ∈ S ∧ Fz.Le F (Fz.top p loose K) ∧ Fz.Le F Fz.bm ∧ Q (St (List.intercalate sep (ys.map g))) ⟨S, F⟩) σ)
    (hh : A.handled = none) (hco : scope.isCoroutine = false) (hclos : closureFor scope env = pure []) (hcell : scope.names.all (fun x => !(x.2 == .cell)) = true) (h0 : scope.names.lookup (".0" : Str) = some NameKind.local)
    (hx : scope.names.lookup x = some .local) (hkind : scope.kind = .function) (hroom : A.depth < recursionLimit) (hcode : env.code = .ref c) (hge : env.globals = mainGlobals)
    (hqs : qs.all (fun y => !((gpos.line : Int) == (y.1.line : Int) && (gpos.col : Int) == (y.1.col : Int)) || y.2 == env.qual ++ "<genexpr>") = true)
    (helt : ∀ (C : Addr) (code : Value) (A' : Around) (E' : Value → Shared → Prop) (y : List Nat) (t : Tok) (s : Shared) (m : Str → Option Value), A'.handled = none → 0 < s.toks → y ∈ ys → s.heap.Ns C m → m x = some (.str ⟨y.toArray⟩ t) →
      wpAny (model cx.prog cx.w) A' (eval elt (genEnv scope [] C code builtinsNs env)) (fun v s₃ => (∃ u, v = .str ⟨(g y).toArray⟩ u) ∧ Keeps s s₃) E' s)
    (hs : ∀ x, genFold iter env x = pure x) (hz : ((ys.map g).map (·.length)).sum + ys.length * sep.length ≤ 1000000) (hn : ys.length ≤ 1000000) :
    CWith cx A env pos (.builtin "str.join") [St sep] [.GeneratorExp elt [⟨.Name x px, iter, [], 0⟩] scope gpos] Q σ := fun f' first' hf' hfirst s R => by
  obtain rfl := nv_builtin hf'
  obtain ⟨sv, rfl, e⟩ := map1 hfirst
  obtain ⟨ts, rfl⟩ := nv_str e
  refine leaf R.pos ?_
  refine Calls.callWith_builtin rfl (Calls.evalArgs_plain ?_)
  refine Calls.spliced_cons ?_
  refine wpAny_GeneratorExp_make hco hclos (fun y hy => by have := List.all_eq_true.mp hcell y hy; simpa using this) h0 hkind hroom (wpAny_mono (h s R) (fun xv s₁ ⟨σ₁, R₁, l, S, F, hl, hσ, hsee, hm, hT, hB, hQ⟩ => ?_) fun _ _ x => x) hs
  subst hσ
  obtain rfl := nv_ref hl
  obtain ⟨xs, hxs, hxy⟩ := (hsee.get R₁).isList
  refine wpAny_pyIter_list hxs ?_
  have R₂ := R₁.push (co := .iter (.list l 0)) (o := { cls := .type "list_iterator", data := .fields #[.ref l, .int 0 0] }) ⟨_, Heap.get?_push_size _ rfl, rfl, rfl⟩ s₁.toks R₁.pos
  obtain ⟨X, mg, mb, T⟩ := top_at (σ := ⟨S, F⟩) hT R₁
  refine ⟨T.nolimit.push _, ?_⟩
  have hit : s₁.heap.objs.size = s₁.heap.objs.size := rfl
  have hlI : l < s₁.heap.objs.size := by obtain ⟨_, e, _⟩ := hxs; exact Heap.lt_size e
  have code : wpAny (model cx.prog cx.w) A (genexprCode env gpos (env.qual ++ "<genexpr>") scope) (fun code s₃ => Rep cx ⟨(s₁.heap.objs.size, .iter (.list l 0)) :: S, F⟩ s₃ ∧
      (∀ b o, b ≠ P → (s₁.heap.push { cls := .type "list_iterator", data := .fields #[.ref l, .int 0 0] }).get? b = some o → s₃.heap.get? b = some o)) (fun _ _ => False)
      { s₁ with heap := s₁.heap.push { cls := .type "list_iterator", data := .fields #[.ref l, .int 0 0] } } := by
    obtain ⟨Cd, ps, gP, tr, w⟩ := (R₂.at_ _ (List.Mem.tail _ hm) : ORel _ _ _)
    refine leaf R₂.pos ?_
    cases hf : codeAmong gpos ps.toList with
    | none =>
      refine wpAny_genexprCodeX hcode (Cd.code gP tr) (Cd.tab gP) hf fun c' h' tk hx' hge' hlt _ hrec htb _ htk => ?_
      exact ⟨R₂.tabUp (List.Mem.tail _ hm) hx' (TabOk.add ⟨Cd, ps, gP, tr, w⟩ gP hx' htb.2 hrec hqs) tk htk, fun b o hb e => hx' b o hb e⟩
    | some cv => exact wpAny_genexprCode_hit hcode (Cd.code gP tr) hf fun _ => ⟨R₂, fun b o _ e => e⟩
  refine wpAny_mono code (fun code s₃ ⟨R₃, hkP⟩ => ?_) fun _ _ x => x
  obtain ⟨mg', hg', hgP', bm, ob, hb1, hb2, hb3, hb4, hb5, hb6, hb7, hb8⟩ := bm_at hB R₃ (List.Mem.tail _ hm)
  refine wpAny_builtinsFor (hge ▸ hg') hb1 hb2 hb5 hb6 hb7 hb8 ?_
  intro h' hn' hs'
  refine Calls.spliced_nil ?_
  have hItlt : s₁.heap.objs.size < s₃.heap.objs.size := by
    obtain ⟨o, e⟩ := ORel.there (R₃.at_ _ (.head _))
    exact Heap.lt_size e
  have hsz : h'.objs.size = s₃.heap.objs.size + 1 := by rw [hs'.1, Heap.size_push]
  have keep' : ∀ b o, s₃.heap.get? b = some o → h'.get? b = some o := fun b o e => hs'.extBut b o (Nat.ne_of_lt (Heap.lt_size e)) (Heap.get?_push_of_some _ e)
  have keep5 : ∀ b o, s₃.heap.get? b = some o → (h'.push { cls := .type "generator", data := .fields #[.int s₃.gens.size 0, .str "<genexpr>" (s₃.toks + 1), .str (env.qual ++ "<genexpr>") (s₃.toks + 1 + 1)] }).get? b = some o := fun b o e => Heap.get?_push_of_some _ (keep' b o e)
  have hlP : l ≠ P := fun z => by
    subst z
    obtain ⟨_, ps, gP, _, _⟩ := (R₁.at_ _ hm : ORel _ _ _)
    obtain ⟨o, e, hcl, _⟩ := hxs
    rw [gP] at e; cases e; cases hcl
  have hl3 : s₃.heap.IsList l xs.toArray := by
    obtain ⟨o, e, r⟩ := hxs
    exact ⟨o, hkP _ _ hlP (Heap.get?_push_of_some _ e), r⟩
  have hit3 : s₃.heap.IsListIter s₁.heap.objs.size l 0 := (R₃.at_ _ (.head _) : ItK.At _ _ (.list l 0))
  obtain ⟨X3, mg3, mb3, T3⟩ := top_at (σ := ⟨_, F⟩) hT R₃
  have hcs : cStatics < s₁.heap.objs.size := let ⟨_, hn, _⟩ := T.nolimit; hn.lt
  have hA4 : A.in4.handled = none := hh
  have m1 : (s₁.heap.objs.size : Nat) < (s₃.heap.objs.size : Nat) := hItlt
  have m2 : (h'.objs.size : Nat) = (s₃.heap.objs.size : Nat) + 1 := hsz
  have m3 : (l : Nat) < (s₁.heap.objs.size : Nat) := hlI
  have m4 : (cStatics : Nat) < (s₁.heap.objs.size : Nat) := hcs
  have n1 : (h'.objs.size : Nat) ≠ (s₃.heap.objs.size : Nat) := Nat.ne_of_gt (m2 ▸ Nat.lt_succ_self _)
  have n2 : (h'.objs.size : Nat) ≠ (s₁.heap.objs.size : Nat) := Nat.ne_of_gt (m2 ▸ Nat.lt_succ_of_lt m1)
  have n3 : (cStatics : Nat) ≠ (s₃.heap.objs.size : Nat) := Nat.ne_of_lt (Nat.lt_trans m4 m1)
  have n4 : (cStatics : Nat) ≠ (s₁.heap.objs.size : Nat) := Nat.ne_of_lt m4
  have n5 : (l : Nat) ≠ (s₁.heap.objs.size : Nat) := Nat.ne_of_lt m3
  have n6 : (s₃.heap.objs.size : Nat) ≠ (s₁.heap.objs.size : Nat) := Nat.ne_of_gt m1
  have n7 : (s₃.heap.objs.size : Nat) ≠ (l : Nat) := Nat.ne_of_gt (Nat.lt_trans m3 m1)
  have hF : ∀ (i : Nat) (v : Value), xs.toArray[i]? = some v → ∃ (y : List Nat) (t : Tok), ys[i]? = some y ∧ v = Value.str ⟨y.toArray⟩ t := fun i v e => strs_at (i := i) (v := v) hxy (by simpa using e)
  have hE : EltOk cx.prog cx.w elt (genEnv scope [] s₃.heap.objs.size code builtinsNs env) x xs.toArray (fun i v => ∃ u, v = .str ⟨(g (ys.getD i [])).toArray⟩ u) := by
    intro A' E' i v s m hA' htk hv hns hmx
    obtain ⟨y, t, hy, rfl⟩ := hF i v hv
    have e : ys.getD i [] = y := by rw [List.getD_eq_getElem?_getD, hy]; rfl
    dsimp only
    rw [e]
    exact helt _ code A' E' y t s m hA' htk (List.mem_of_getElem? hy) hns hmx
  have W := hand_walks (prog := cx.prog) (w := cx.w) (A := A.in4) hA4 h'.objs.size s₃.gens.size s₃.heap.objs.size s₁.heap.objs.size l xs.toArray.size (fun i v => ∃ u, v = .str ⟨(g (ys.getD i [])).toArray⟩ u)
    ⟨n1, n2⟩ hroom ⟨n3, n4⟩
  have hxl : xs.length = ys.length := by have := congrArg List.length hxy; simpa using this
  refine PySem.SC.joinGen W.in4_2 (fun i s st => st.2.1.typeIs) (St := HandAt cx.prog cx.w A.in4 h'.objs.size s₃.gens.size s₃.heap.objs.size s₁.heap.objs.size l xs.toArray.size _) ?_ ?_ (by simp) (fun i v hv => let ⟨u, e⟩ := hv; ⟨_, u, e⟩) (fun s' lt hm' hacc => ?_) (by rw [List.size_toArray, hxl, sizeLine_eq]; omega)
  · refine ⟨Nat.succ_pos _, ⟨_, _, _, Heap.get?_push_size _ rfl, rfl, rfl, rfl⟩, T3.nolimit.keeps keep5, _, Array.getElem?_push_size .., fun s'' ht hal => ⟨rfl, ?_⟩⟩
    refine hand_start (A := A.in4.in1) hh n5 n6 n7 (by show scope.names.lookup x = _; exact hx) hkind hco hE s'' s'' (fun y => if y = ".0" then some (.ref s₁.heap.objs.size) else none) ht ?_ ?_ ?_ (GenSince.refl _ _ _)
    · obtain ⟨o, e, r⟩ := hit3
      exact ⟨o, hal _ (by simp) _ (keep5 _ _ e), r⟩
    · obtain ⟨o, e, r⟩ := hl3
      exact ⟨o, hal _ (by simp) _ (keep5 _ _ e), r⟩
    · exact (hn'.push _).at' fun o e => hal _ (by simp [genEnv]) o e
  · intro b hb
    show b < (h'.push _).objs.size
    rw [Heap.size_push]
    simp only [List.mem_cons, List.not_mem_nil, or_false] at hb
    rw [m2]
    rcases hb with h | h | h | h | h
    · rw [h, m2]; exact Nat.lt_succ_self _
    · rw [h]; exact Nat.lt_succ_of_lt (Nat.lt_succ_self _)
    · rw [h]; exact Nat.lt_succ_of_lt (Nat.lt_succ_of_lt m1)
    · rw [h]; exact Nat.lt_succ_of_lt (Nat.lt_succ_of_lt (Nat.lt_trans m3 m1))
    · rw [h]; exact Nat.lt_succ_of_lt (Nat.lt_succ_of_lt (Nat.lt_trans m4 m1))
  · have hlt : lt.map (·.1) = ys.map fun y => (⟨(g y).toArray⟩ : Str) := by
      have hsz2 : lt.length = ys.length := by have := hacc.1; simpa [strValues, hxl] using this
      apply List.ext_getElem?
      intro j
      by_cases hj : j < ys.length
      · have hj' : j < lt.length := hsz2 ▸ hj
        obtain ⟨u, hv⟩ := hacc.2 j (.str lt[j].1 lt[j].2) (by simp [strValues, List.getElem?_eq_getElem hj'])
        injection hv with h1 _
        simp [List.getElem?_eq_getElem hj', hj, h1, List.getD_eq_getElem?_getD]
      · rw [List.getElem?_eq_none (by simpa [hsz2] using Nat.le_of_not_lt hj), List.getElem?_eq_none (by simpa using Nat.le_of_not_lt hj)]
    rw [hlt]
    refine ⟨joinOk_of ?_, fun t' k hk => ?_⟩
    · have e : ((ys.map fun y => (⟨(g y).toArray⟩ : Str)).map (·.length)).sum = ((ys.map g).map (·.length)).sum := by simp [Str.length, Function.comp_def]
      rw [e]
      simp only [List.length_map, Str.length, List.size_toArray] at hz ⊢
      omega
    · have e : Txt.join (⟨sep.toArray⟩ : Str) (ys.map fun y => ⟨(g y).toArray⟩) = ⟨(List.intercalate sep (ys.map g)).toArray⟩ := by
        show Builtin.Str.glued _ _ = _
        rw [StrLaws.glued_eq_join]
        have := cps_join sep (ys.map g)
        rw [List.map_map] at this
        exact str_of_toList this
      rw [e]
      refine ⟨⟨S, F⟩, ?_, hQ⟩
      have k1 : Heap.ExtBut s₁.heap.objs.size s₃.heap s'.heap := fun b o hb e => hm'.heap b o (by
        have := Heap.lt_size e
        intro hmem
        simp only [List.mem_cons, List.not_mem_nil, or_false] at hmem
        rcases hmem with h | h
        · exact Nat.lt_irrefl _ (h ▸ this)
        · exact hb h) (keep5 b o e)
      have R4 := R₃.drop1 rfl k1 k hk
      have gb : AllBare s'.gens := by
        refine AllBare.movedS ?_ hm'
        exact R₃.gens.push rfl
      exact ⟨hm'.os.trans R₃.os, gb, hk, R4.nodup, R4.fz, R4.at_⟩
end
end Mine
end

section
set_option Elab.async false
set_option linter.unusedVariables false
set_option autoImplicit false
set_option maxRecDepth 100000
namespace Mine

theorem slot_group : Slot "re.Match" "group" "re.Match.group" :=
  .of (owner := "re.Match") (n := "group") (by rw [typeLookup_type, builtinLookup_eq_fast]; kernel_rfl) (by decide +kernel) (by decide +kernel) (by decide +kernel)
    (by first | exact .inl (by decide +kernel) | exact .inr (by decide +kernel)) (by rw [isSubtype_type]; kernel_rfl)
theorem slot_sub : Slot "re.Pattern" "sub" "re.Pattern.sub" :=
  .of (owner := "re.Pattern") (n := "sub") (by rw [typeLookup_type, builtinLookup_eq_fast]; kernel_rfl) (by decide +kernel) (by decide +kernel) (by decide +kernel)
    (by first | exact .inl (by decide +kernel) | exact .inr (by decide +kernel)) (by rw [isSubtype_type]; kernel_rfl)
theorem type_group : typeOf (.builtin "re.Match.group") = pure (.type "method_descriptor") := by show builtinType _ = _; rw [builtinType_eq_fast]; kernel_rfl
theorem type_sub : typeOf (.builtin "re.Pattern.sub") = pure (.type "method_descriptor") := by show builtinType _ = _; rw [builtinType_eq_fast]; kernel_rfl
theorem plain_Match : PlainAttrs "re.Match" :=
  ⟨⟨"object.__getattribute__", by rw [typeLookup_type, builtinLookup_eq_fast]; kernel_rfl, by decide +kernel⟩, by rw [typeLookup_type, builtinLookup_eq_fast]; kernel_rfl⟩
theorem plain_Pattern : PlainAttrs "re.Pattern" :=
  ⟨⟨"object.__getattribute__", by rw [typeLookup_type, builtinLookup_eq_fast]; kernel_rfl, by decide +kernel⟩, by rw [typeLookup_type, builtinLookup_eq_fast]; kernel_rfl⟩
theorem entry_group : entryFor table "re.Match.group" = some Builtin.«re.Match.group» := entryFor_of_tree (by kernel_rfl)
theorem entry_sub : entryFor table "re.Pattern.sub" = some Builtin.«re.Pattern.sub» := entryFor_of_tree (by kernel_rfl)
theorem entry_loop : entryFor table "re.Pattern.sub.loop" = some Builtin.«re.Pattern.sub.loop» := entryFor_of_tree (by kernel_rfl)
theorem args_group (a b : Value) : argsOk "re.Match.group" ⟨[a, b], []⟩ := by unfold argsOk; kernel_rfl
theorem args_sub (a b c : Value) : argsOk "re.Pattern.sub" ⟨[a, b, c], []⟩ := by unfold argsOk; kernel_rfl
theorem plain_loop : plainId "re.Pattern.sub.loop" = true := by decide +kernel

-- the machine
noncomputable abbrev reCode : Array Nat := #[14, 14, 4, 1, 1, 9, 0, 64, 0, 1342177280, 0, 0, 0, 0, 0, 17, 0, 13, 11, 9, 0, 64, 0, 1342177280, 0, 0, 0, 0, 0, 17, 1, 1]
noncomputable def amp (c : Nat) : Bool := c == 38 || c == 124 || c == 126
theorem set_no : ∀ c < 128, amp c = false → (decide (c < 256) && ((#[0, 64, 0, 1342177280, 0, 0, 0, 0] : Array Nat).getD (c / 32) 0).testBit (c % 32)) = false := by decide +kernel
theorem set_yes : ∀ c < 128, amp c = true → (decide (c < 256) && ((#[0, 64, 0, 1342177280, 0, 0, 0, 0] : Array Nat).getD (c / 32) 0).testBit (c % 32)) = true := by decide +kernel
theorem word5 (c : Nat) (h : c < 128) : reCode.getD (5 + (1 + c / 32)) 0 = (#[0, 64, 0, 1342177280, 0, 0, 0, 0] : Array Nat).getD (c / 32) 0 := by
  have : c / 32 < 4 := by omega
  have h4 : c / 32 = 0 ∨ c / 32 = 1 ∨ c / 32 = 2 ∨ c / 32 = 3 := by omega
  rcases h4 with e | e | e | e <;> rw [e] <;> rfl
theorem word19 (c : Nat) (h : c < 128) : reCode.getD (19 + (1 + c / 32)) 0 = (#[0, 64, 0, 1342177280, 0, 0, 0, 0] : Array Nat).getD (c / 32) 0 := by
  have h4 : c / 32 = 0 ∨ c / 32 = 1 ∨ c / 32 = 2 ∨ c / 32 = 3 := by omega
  rcases h4 with e | e | e | e <;> rw [e] <;> rfl
theorem in_set5 (c : Nat) (h : c < 128) (seen : Sre.Seen) (f : Nat) : ∃ seen', Sre.inSet reCode c (f + 2) 5 true seen = .ok (amp c, seen') := by
  unfold Sre.inSet
  simp only [Nat.add_zero]
  rw [show reCode.getD 5 0 = 9 from rfl]
  show ∃ seen', (if (decide (c < 256) && (reCode.getD (5 + (1 + c / 32)) 0).testBit (c % 32)) = true then Except.ok (true, seen.add 9) else Sre.inSet reCode c (f + 1) (5 + 9) true (seen.add 9)) = .ok (amp c, seen')
  rw [word5 c h]
  cases ha : amp c with
  | true => rw [set_yes c h ha]; exact ⟨_, rfl⟩
  | false => rw [set_no c h ha]; exact ⟨_, rfl⟩
theorem in_set19 (c : Nat) (h : c < 128) (seen : Sre.Seen) (f : Nat) : ∃ seen', Sre.inSet reCode c (f + 2) 19 true seen = .ok (amp c, seen') := by
  unfold Sre.inSet
  simp only [Nat.add_zero]
  rw [show reCode.getD 19 0 = 9 from rfl]
  show ∃ seen', (if (decide (c < 256) && (reCode.getD (19 + (1 + c / 32)) 0).testBit (c % 32)) = true then Except.ok (true, seen.add 9) else Sre.inSet reCode c (f + 1) (19 + 9) true (seen.add 9)) = .ok (amp c, seen')
  rw [word19 c h]
  cases ha : amp c with
  | true => rw [set_yes c h ha]; exact ⟨_, rfl⟩
  | false => rw [set_no c h ha]; exact ⟨_, rfl⟩
theorem admitted_spec (m : Sre.M) (hc : m.code = reCode) (x : List Nat) (ht : m.text = x.toArray) (hl : m.lim = x.length) (hx : ∀ c ∈ x, c < 128) :
    ∀ (fuel s : Nat) (seen : Sre.Seen), x.length - s < fuel → s ≤ x.length →
      (∃ p seen', Sre.M.admitted m fuel s seen = .ok (some p, seen') ∧ s ≤ p ∧ ∃ c, x[p]? = some c ∧ amp c = true ∧ ∀ k, s ≤ k → k < p → ∀ d, x[k]? = some d → amp d = false) ∨
      (∃ seen', Sre.M.admitted m fuel s seen = .ok (none, seen') ∧ ∀ k, s ≤ k → ∀ d, x[k]? = some d → amp d = false)
  | 0, s, seen, h, _ => by omega
  | fuel + 1, s, seen, h, hs => by
    unfold Sre.M.admitted
    rw [hl]
    by_cases hge : s ≥ x.length
    · rw [if_pos hge]
      refine .inr ⟨_, rfl, fun k hk d hd => ?_⟩
      have := (List.getElem?_eq_some_iff.mp hd).1
      omega
    · rw [if_neg hge]
      have hlt : s < x.length := by omega
      have hxs : x[s]? = some x[s] := List.getElem?_eq_getElem hlt
      have hget : m.text.getD s 0 = x[s] := by rw [ht]; simp [hlt]
      have h128 := hx _ (List.getElem_mem hlt)
      obtain ⟨seen', e⟩ := in_set5 x[s] h128 seen 30
      rw [hget, hc]
      have e' : Sre.inSet reCode x[s] reCode.size 5 true seen = .ok (amp x[s], seen') := e
      rw [e']
      cases ha : amp x[s] with
      | true => exact .inl ⟨s, seen', rfl, Nat.le_refl _, x[s], hxs, ha, fun k h1 h2 => by omega⟩
      | false =>
        simp only
        rcases admitted_spec m hc x ht hl hx fuel (s + 1) seen' (by omega) (by omega) with ⟨p, s2, e1, e2, c, e3, e4, e5⟩ | ⟨s2, e1, e2⟩
        · refine .inl ⟨p, s2, e1, by omega, c, e3, e4, fun k h1 h2 d hd => ?_⟩
          rcases Nat.eq_or_lt_of_le h1 with rfl | h1
          · rw [hxs] at hd; cases hd; exact ha
          · exact e5 k h1 h2 d hd
        · refine .inr ⟨s2, e1, fun k h1 d hd => ?_⟩
          rcases Nat.eq_or_lt_of_le h1 with rfl | h1
          · rw [hxs] at hd; cases hd; exact ha
          · exact e2 k h1 d hd
structure Got (m : Sre.M) (p : Nat) : Prop where
  start : m.start = p
  handed : m.handed = p + 1
  marks : m.marks = #[some p, some (p + 1)]
  lastmark : m.lastmark = 1
  lastindex : m.lastindex = 1
  outcome : m.outcome = some .matched


noncomputable abbrev start0 (x : List Nat) (s last : Nat) (seen : Sre.Seen) : Sre.M :=
  { code := reCode, text := x.toArray, lim := x.length, start := s, lastStart := last, pc := 15, pos := s, handed := s, marks := Array.replicate 2 none, seen }
noncomputable abbrev fr (p : Nat) : Sre.Frame := { wait := .nextStart, pc := 15, pos := p, outermost := true }
noncomputable abbrev at0 (x : List Nat) (s last p : Nat) (seen : Sre.Seen) : Sre.M :=
  { code := reCode, text := x.toArray, lim := x.length, start := p, lastStart := last, pc := 15, pos := p, handed := p, marks := Array.replicate 2 none, seen, frames := [fr p], weight := 1 }
noncomputable abbrev at1 (x : List Nat) (s last p : Nat) (seen : Sre.Seen) : Sre.M :=
  { code := reCode, text := x.toArray, lim := x.length, start := p, lastStart := last, pc := 17, pos := p, handed := p, marks := #[some p, none], lastmark := 0, seen, frames := [fr p], weight := 1 }
noncomputable abbrev at2 (x : List Nat) (s last p : Nat) (seen : Sre.Seen) : Sre.M :=
  { code := reCode, text := x.toArray, lim := x.length, start := p, lastStart := last, pc := 29, pos := p + 1, handed := p, marks := #[some p, none], lastmark := 0, seen, frames := [fr p], weight := 1 }
noncomputable abbrev at3 (x : List Nat) (s last p : Nat) (seen : Sre.Seen) : Sre.M :=
  { code := reCode, text := x.toArray, lim := x.length, start := p, lastStart := last, pc := 31, pos := p + 1, handed := p, marks := #[some p, some (p + 1)], lastmark := 1, lastindex := 1, seen, frames := [fr p], weight := 1 }
noncomputable abbrev at4 (x : List Nat) (s last p : Nat) (seen : Sre.Seen) : Sre.M :=
  { code := reCode, text := x.toArray, lim := x.length, start := p, lastStart := last, pc := 31, pos := p + 1, handed := p + 1, marks := #[some p, some (p + 1)], lastmark := 1, lastindex := 1, seen, frames := [fr p], weight := 1, answer := some true }
theorem st0 (x : List Nat) (s last p : Nat) (seen : Sre.Seen) : (start0 x s last seen).attemptAt p true = at0 x s last p seen := rfl
theorem st1 (x : List Nat) (s last p : Nat) (seen : Sre.Seen) : (at0 x s last p seen).step = at1 x s last p (seen.add 17) := rfl
theorem st2 (x : List Nat) (s last p c : Nat) (seen : Sre.Seen) (hp : x[p]? = some c) (hc : c < 128) (ha : amp c = true) : ∃ seen', (at1 x s last p seen).step = at2 x s last p seen' := by
  have hlt : p < x.length := (List.getElem?_eq_some_iff.mp hp).1
  obtain ⟨seen', e⟩ := in_set19 c hc (seen.add 13) 30
  refine ⟨seen', ?_⟩
  have hget : x.toArray.getD p 0 = c := by
    have h2 := (List.getElem?_eq_some_iff.mp hp).2
    simp [hlt, h2]
  have hacc : Sre.accepts reCode 17 (x.toArray.getD p 0) (seen.add 13) = .ok (true, seen') := by
    rw [hget]
    have : Sre.accepts reCode 17 c (seen.add 13) = Sre.inSet reCode c reCode.size 19 true (seen.add 13) := rfl
    rw [this]; rw [ha] at e; exact e
  show (if p ≥ x.length then _ else match Sre.accepts reCode 17 (x.toArray.getD p 0) (seen.add 13) with | .error why => _ | .ok (false, seen) => _ | .ok (true, seen) => _ : Sre.M) = _
  rw [if_neg (by omega), hacc]
  rfl
theorem st3 (x : List Nat) (s last p : Nat) (seen : Sre.Seen) : (at2 x s last p seen).step = at3 x s last p (seen.add 17) := by with_unfolding_all rfl
theorem st4 (x : List Nat) (s last p : Nat) (seen : Sre.Seen) : (at3 x s last p seen).step = at4 x s last p (seen.add 1) := rfl
noncomputable abbrev at5 (x : List Nat) (s last p : Nat) (seen : Sre.Seen) : Sre.M :=
  { code := reCode, text := x.toArray, lim := x.length, start := p, lastStart := last, pc := 15, pos := p, handed := p + 1, marks := #[some p, some (p + 1)], lastmark := 1, lastindex := 1, seen, frames := [], weight := 0, answer := some true }
theorem st5 (x : List Nat) (s last p : Nat) (seen : Sre.Seen) : (at4 x s last p seen).step = at5 x s last p seen := rfl
noncomputable abbrev at6 (x : List Nat) (s last p : Nat) (seen : Sre.Seen) : Sre.M :=
  { code := reCode, text := x.toArray, lim := x.length, start := p, lastStart := last, pc := 15, pos := p, handed := p + 1, marks := #[some p, some (p + 1)], lastmark := 1, lastindex := 1, seen, frames := [], weight := 0, answer := some true, outcome := some .matched }
theorem st6 (x : List Nat) (s last p : Nat) (seen : Sre.Seen) : (at5 x s last p seen).step = at6 x s last p seen := rfl

section
variable {prog : Program} {w : World} {A : Around} {E : Value → Shared → Prop} {s : Shared}
theorem drive_found {M : Model} (x : List Nat) (s0 last p c : Nat) (seen : Sre.Seen) (hp : x[p]? = some c) (hc : c < 128) (ha : amp c = true) (t : Nat) {Q : Sre.M → Shared → Prop} (h : ∀ seen', Q (at6 x s0 last p seen') s) :
    wpAny M A (Builtin.Re.reDrive (t + 2) ((start0 x s0 last seen).attemptAt p true)) Q E s := by
  rw [st0]
  unfold Builtin.Re.reDrive
  obtain ⟨s2, e2⟩ := st2 x s0 last p c (seen.add 17) hp hc ha
  have e : (at0 x s0 last p seen).runFor Builtin.Re.reTurnSteps = at4 x s0 last p ((s2.add 17).add 1) := by
    show (at0 x s0 last p seen).runFor 4 = _
    have r1 : (at0 x s0 last p seen).runFor 4 = (at1 x s0 last p (seen.add 17)).runFor 3 := rfl
    have r2 : (at1 x s0 last p (seen.add 17)).runFor 3 = ((at1 x s0 last p (seen.add 17)).step).runFor 2 := rfl
    rw [r1, r2, e2]
    have r3 : (at2 x s0 last p s2).runFor 2 = ((at2 x s0 last p s2).step).runFor 1 := rfl
    rw [r3, st3]
    rfl
  rw [e]
  refine W.KFB.if_not rfl ?_
  refine wpAny_bind (wpAny_rule ?_)
  unfold Builtin.Re.reDrive
  have e' : (at4 x s0 last p ((s2.add 17).add 1)).runFor Builtin.Re.reTurnSteps = at6 x s0 last p ((s2.add 17).add 1) := rfl
  rw [e']
  refine W.KFB.if_so rfl (wpAny_pure (h _))

theorem rules_forIn {M : Model} (seen : Sre.Seen) {Q : PUnit → Shared → Prop} (h : Q PUnit.unit s) : ∀ l : List Nat, wpAny M A (forIn l PUnit.unit fun i _ => (if seen.has i = true then (do rule (Sre.names.getD i ""); pure (ForInStep.yield PUnit.unit)) else pure (ForInStep.yield PUnit.unit) : Sem (ForInStep PUnit))) Q E s
  | [] => wpAny_pure h
  | i :: r => by
    simp only [List.forIn_cons]
    refine wpAny_bind ?_
    cases seen.has i with
    | true => simp only [if_true]; exact wpAny_bind (wpAny_rule (wpAny_pure (rules_forIn seen h r)))
    | false => simp only [Bool.false_eq_true, if_false]; exact wpAny_pure (rules_forIn seen h r)

theorem runToEnd_found {M : Model} (x : List Nat) (s0 last p c : Nat) (seen : Sre.Seen) (hp : x[p]? = some c) (hc : c < 128) (ha : amp c = true) {Q : Option Sre.M → Shared → Prop} (h : ∀ seen', Q (some (at6 x s0 last p seen')) s) :
    wpAny M A (Builtin.Re.reRunToEnd ((start0 x s0 last seen).attemptAt p true)) Q E s := by
  unfold Builtin.Re.reRunToEnd
  have e64 : (2 : Nat) ^ 64 = (2 ^ 64 - 2) + 2 := by decide
  rw [e64]
  refine wpAny_bind (drive_found x s0 last p c seen hp hc ha _ fun seen' => ?_)
  refine wpAny_bind ?_
  refine rules_forIn (at6 x s0 last p seen').seen ?_ _
  exact wpAny_pure (h seen')
theorem runToEnd_none {M : Model} (m : Sre.M) (hm : m.answer = some false) (hf : m.frames = []) (ho : m.outcome = none) {Q : Option Sre.M → Shared → Prop} (h : Q none s) : wpAny M A (Builtin.Re.reRunToEnd m) Q E s := by
  unfold Builtin.Re.reRunToEnd
  have e64 : (2 : Nat) ^ 64 = (2 ^ 64 - 1) + 1 := by decide
  rw [e64]
  unfold Builtin.Re.reDrive
  obtain ⟨code, text, lim, start, lastStart, wt, ma, pc, pos, handed, om, marks, lm, li, loops, inner, frames, weight, answer, seen, outcome⟩ := m
  simp only at hm hf ho
  subst hm hf ho
  have e : Sre.M.runFor Builtin.Re.reTurnSteps ⟨code, text, lim, start, lastStart, wt, ma, pc, pos, handed, om, marks, lm, li, loops, inner, [], weight, some false, seen, none⟩ =
      ⟨code, text, lim, start, lastStart, wt, ma, pc, pos, handed, om, marks, lm, li, loops, inner, [], weight, some false, seen, some .failed⟩ := rfl
  rw [e]
  refine wpAny_bind (W.KFB.if_so rfl (wpAny_pure ?_))
  refine wpAny_bind ?_
  refine rules_forIn seen ?_ _
  exact wpAny_pure h

noncomputable abbrev target (pat str : Value) (x : List Nat) : Builtin.Re.ReTarget := { pattern := pat, string := str, code := reCode, text := x.toArray, kind := 0, groups := 1, pos := 0, lim := x.length }
theorem search_eq (x : List Nat) (s0 : Nat) (must : Bool) (hs : s0 + 1 ≤ x.length) : Sre.forSearch reCode x.toArray 1 s0 x.length must = ({ start0 x s0 x.length (({} : Sre.Seen).add 14) with mustAdvance := must } : Sre.M).attemptFrom s0 true := by
  unfold Sre.forSearch
  have h1 : (Sre.header reCode) = (1, 15) := rfl
  rw [h1]
  have hn : ¬ (s0 > x.length ∨ x.length - s0 < 1) := by omega
  have : (decide (s0 > x.length) || decide (x.length - s0 < 1)) = false := by
    simp; omega
  simp only
  rw [if_neg (by simp; omega)]
  rfl
theorem search_short (x : List Nat) (s0 : Nat) (must : Bool) (hs : ¬ s0 + 1 ≤ x.length) : (Sre.forSearch reCode x.toArray 1 s0 x.length must).answer = some false ∧ (Sre.forSearch reCode x.toArray 1 s0 x.length must).frames = [] ∧ (Sre.forSearch reCode x.toArray 1 s0 x.length must).outcome = none := by
  unfold Sre.forSearch
  have h1 : (Sre.header reCode) = (1, 15) := rfl
  rw [h1]
  simp only
  rw [if_pos (by simp; omega)]
  exact ⟨rfl, rfl, rfl⟩
theorem next_found {M : Model} (pat str : Value) (x : List Nat) (hx : ∀ c ∈ x, c < 128) (s0 : Nat) (must : Bool) (hs : s0 ≤ x.length) {Q : Option Sre.M → Shared → Prop}
    (h1 : ∀ p c seen', s0 ≤ p → x[p]? = some c → amp c = true → (∀ k, s0 ≤ k → k < p → ∀ d, x[k]? = some d → amp d = false) → Q (some (at6 x s0 x.length p seen')) s)
    (h2 : (∀ k, s0 ≤ k → ∀ d, x[k]? = some d → amp d = false) → Q none s) :
    wpAny M A (Builtin.Re.reNextFound (target pat str x) s0 must) Q E s := by
  unfold Builtin.Re.reNextFound
  show wpAny M A (Builtin.Re.reRunToEnd (Sre.forSearch reCode x.toArray 1 s0 x.length must)) Q E s
  by_cases hlt : s0 + 1 ≤ x.length
  · rw [search_eq x s0 must hlt]
    unfold Sre.M.attemptFrom
    rw [if_neg (show ¬ ((!Sre.M.hasFirstSet { start0 x s0 x.length (({} : Sre.Seen).add 14) with mustAdvance := must }) = true) from (by decide : ¬ (false = true)))]
    rcases admitted_spec ({ start0 x s0 x.length (({} : Sre.Seen).add 14) with mustAdvance := must } : Sre.M) rfl x rfl rfl hx (x.length + 1 - s0) s0 (({} : Sre.Seen).add 14) (by omega) hs with ⟨p, s2, e1, e2, c, e3, e4, e5⟩ | ⟨s2, e1, e2⟩
    · show wpAny M A (Builtin.Re.reRunToEnd (match Sre.M.admitted ({ start0 x s0 x.length (({} : Sre.Seen).add 14) with mustAdvance := must } : Sre.M) (x.length + 1 - s0) s0 (({} : Sre.Seen).add 14) with | .ok (some s, seen) => _ | .ok (none, seen) => _ | .error why => _)) Q E s
      rw [e1]
      exact runToEnd_found x s0 x.length p c s2 e3 (hx c (List.mem_of_getElem? e3)) e4 fun seen' => h1 p c seen' e2 e3 e4 e5
    · show wpAny M A (Builtin.Re.reRunToEnd (match Sre.M.admitted ({ start0 x s0 x.length (({} : Sre.Seen).add 14) with mustAdvance := must } : Sre.M) (x.length + 1 - s0) s0 (({} : Sre.Seen).add 14) with | .ok (some s, seen) => _ | .ok (none, seen) => _ | .error why => _)) Q E s
      rw [e1]
      exact runToEnd_none _ rfl rfl rfl (h2 e2)
  · obtain ⟨e1, e2, e3⟩ := search_short x s0 must hlt
    refine runToEnd_none _ e1 e2 e3 (h2 fun k hk d hd => ?_)
    have := (List.getElem?_eq_some_iff.mp hd).1
    omega
end
end Mine
end

section
set_option Elab.async false
set_option linter.unusedVariables false
set_option autoImplicit false
set_option maxRecDepth 100000
namespace Mine

noncomputable abbrev patObj (t1 t2 : Tok) : Obj := { cls := .type "re.Pattern", data := .fields #[.str (Str.ofString "([&~|])") t1, .int 32 t2, .int 1 0, .none, .none, .ref 42, .int 0 0] }
noncomputable abbrev codeObj (n : Nat) : Obj := { cls := .type "tuple", data := .seq #[.int 14 0, .int 14 0, .int 4 0, .int 1 0, .int 1 0, .int 9 0, .int 0 0, .int 64 0, .int 0 0, .int 1342177280 0, .int 0 0, .int 0 0, .int 0 0, .int 0 0, .int 0 0, .int 17 0, .int 0 0, .int 13 0, .int 11 0, .int 9 0, .int 0 0, .int 64 0, .int 0 0, .int 1342177280 0, .int 0 0, .int 0 0, .int 0 0, .int 0 0, .int 0 0, .int 17 0, .int 1 0, .int 1 0] n }
section
variable {prog : Program} {w : World} {A : Around} {E : Value → Shared → Prop} {h : Heap} {g : Array GenState} {d : Drawn} {tk : Nat} {os : OsState}
theorem whole_target {M : Model} {t1 t2 t : Tok} {n : Nat} {x : List Nat} {Q : Builtin.Re.ReTarget → Shared → Prop} (hp : h.get? 43 = some (patObj t1 t2)) (hc : h.get? 42 = some (codeObj n)) (hq : Q (target (.ref 43) (.str ⟨x.toArray⟩ t) x) ⟨h, g, d, tk, os⟩) :
    wpAny M A (Builtin.Re.reWholeTarget (.ref 43) (.str ⟨x.toArray⟩ t)) Q E ⟨h, g, d, tk, os⟩ := by
  unfold Builtin.Re.reWholeTarget
  repeat (any_goals (first | assumption | wp_step))
  have e : ∀ (c1 : Array Nat), c1 = reCode → Q { pattern := Value.ref 43, string := Value.str { cps := x.toArray } t, code := c1, text := x.toArray, kind := 0, groups := 1, pos := 0, lim := x.toArray.size } ⟨h, g, d, tk, os⟩ := fun c1 hc1 => by
    subst hc1; exact hq
  exact e _ (by decide +kernel)
end

section
variable {cx : Cx} {A : Around} {σ : CS} {env : Env} {E : Value → Shared → Prop}
noncomputable def cloak (x : List Nat) : List Nat := x.flatMap fun c => if amp c then [92, c] else [c]
theorem cloak_append (a b : List Nat) : cloak (a ++ b) = cloak a ++ cloak b := by simp [cloak]
theorem cloak_free : ∀ (l : List Nat), (∀ c ∈ l, amp c = false) → cloak l = l
  | [], _ => rfl
  | c :: r, h => by
    have := cloak_free r fun d hd => h d (.tail _ hd)
    simp only [cloak] at this ⊢
    rw [List.flatMap_cons, this, h c (.head _)]; rfl
theorem cloak_len (l : List Nat) : (cloak l).length ≤ 2 * l.length := by
  induction l with
  | nil => simp [cloak]
  | cons c r ih =>
    simp only [cloak] at ih ⊢
    rw [List.flatMap_cons, List.length_append, List.length_cons]
    split <;> simp only [List.length_cons, List.length_nil] <;> omega

theorem intercalate_nil : ∀ l : List (List Nat), List.intercalate [] l = l.flatten
  | [] => rfl
  | [x] => by simp [List.intercalate]
  | x :: y :: r => by
    have ih := intercalate_nil (y :: r)
    simp only [List.intercalate] at ih ⊢
    rw [List.intersperse_cons₂, List.flatten_cons, List.flatten_cons, ih]
    simp
theorem push_piece {S : List (Addr × CO)} {F : Fz} {l : Addr} {vs : List Value} {v : Value} {s : Shared} {Q : Unit → Shared → Prop} (R : Rep cx ⟨(l, .list vs) :: S, F⟩ s) (hz : vs.length ≤ 1000000)
    (h : ∀ s', Rep cx ⟨(l, .list (vs ++ [nv v])) :: S, F⟩ s' → Q () s') : wpAny (model cx.prog cx.w) A (updateSeq l (·.push v)) Q E s := by
  obtain ⟨xs, n, e, m⟩ := (R.at_ _ (.head _) : ORel _ _ _).plain
  have hlen : xs.length = vs.length := by rw [← m, List.length_map]
  refine wpAny_updateSeq e rfl (h _ (R.upm (co' := .list (vs ++ [nv v])) .head rfl (Heap.SameBut.update ..).extBut ⟨(xs ++ [v]).toArray, n + 1, ?_, by simp [m]⟩ s.toks R.pos)) (by rw [List.size_toArray, hlen, sizeLine_eq]; omega) (by rw [Array.size_push, List.size_toArray, hlen, sizeLine_eq]; omega)
  rw [Heap.get?_update_self _ e (by rw [Obj.mapSeq_push_plain]; rfl), Obj.mapSeq_push_plain]
  simp

noncomputable abbrev matchObj (x : List Nat) (t : Tok) (tup : Addr) : Obj := { cls := .type "re.Match", data := .fields #[.str ⟨x.toArray⟩ t, .ref 43, rawInt 0, rawInt x.length, rawInt 1, .ref tup] }
theorem slice_piece {S : List (Addr × CO)} {F : Fz} {s : Shared} {x : List Nat} {b e : Nat} {Q : Value → Shared → Prop} (R : Rep cx ⟨S, F⟩ s) (hx : x.length ≤ 1000000) (h : ∀ v s', nv v = St ((x.drop b).take (e - b)) → Rep cx ⟨S, F⟩ s' → Q v s') :
    wpAny (model cx.prog cx.w) A (Builtin.Re.reSlice x.toArray 0 b e) Q E s := by
  unfold Builtin.Re.reSlice
  refine W.KFB.if_so rfl ?_
  refine wpAny_mkStr (h _ _ ?_ (R.tok _ (Nat.succ_pos _))) ?_
  · show Value.str ⟨x.toArray.extract b e⟩ 0 = _
    congr 2
    simp
  · show (x.toArray.extract b e).size ≤ sizeLine
    rw [sizeLine_eq]
    simp; omega

theorem wp_meet {M : Model} {A : Around} {α : Type} {t r : Sem α} {Q : α → Shared → Prop} {E : Value → Shared → Prop} {s : Shared} (I : Shared → Prop) (hr : ∀ s', I s' → wpAny M A r Q E s')
    (h : (∀ s', I s' → wpAny M A r Q E s') → wpAny M A t Q E s) : wpAny M A t Q E s := h hr
theorem sub_loop {S : List (Addr × CO)} {F : Fz} {lam pieces : Addr} {x : List Nat} {t : Tok} {R : Result → Shared → Prop} (hF : ∀ h, F.p h → ∃ t1 t2 n, h.get? 43 = some (patObj t1 t2) ∧ h.get? 42 = some (codeObj n)) (hx : ∀ c ∈ x, c < 128) (hxl : x.length ≤ 10000)
    (hcall : ∀ (m tup : Addr) (p c : Nat) (ys : List (List Nat)), x[p]? = some c → amp c = true → Cal cx A.in1 (.ref lam) [.ref m] (fun v σ' => v = St [92, c] ∧ Back ((pieces, .list (ys.map St)) :: S) F σ')
      ⟨(m, .raw (matchObj x t tup)) :: (tup, .tuple [In p, In (p + 1), In p, In (p + 1)]) :: (pieces, .list (ys.map St)) :: S, F⟩)
    (hR : ∀ v s', nv v = St (cloak x) → Rep cx ⟨S, F⟩ s' → R (.ok (.ret v)) s') :
    ∀ (k s0 n : Nat) (ys : List (List Nat)) (s : Shared), x.length - s0 = k → s0 ≤ x.length → ys.length ≤ 2 * s0 → ys.flatten = cloak (x.take s0) → Rep cx ⟨(pieces, .list (ys.map St)) :: S, F⟩ s →
      codeAny (model cx.prog cx.w) A (.builtin "re.Pattern.sub.loop" ⟨[.ref 43, .str ⟨x.toArray⟩ t, .ref lam, rawInt 1, rawInt 0, rawInt n, rawInt s0, rawInt s0, .bool false, .ref pieces, .bool false], []⟩) R s := by
  intro k
  induction k using Nat.strongRecOn with
  | ind k ih =>
    intro s0 n ys s hk hs hyl hys Rs
    refine codeAny_builtin entry_loop ?_
    rw [Around.under_plainId plain_loop _]
    have hpat : ∃ t1 t2 n, s.heap.get? 43 = some (patObj t1 t2) ∧ s.heap.get? 42 = some (codeObj n) := by
      obtain ⟨B, f, e, _⟩ := Rs.fz
      obtain ⟨t1, t2, n, h1, h2⟩ := hF B f
      exact ⟨t1, t2, n, e _ _ h1, e _ _ h2⟩
    obtain ⟨t1, t2, nn, hp, hc⟩ := hpat
    show wpAny _ A.in1 (Builtin.Re.reWholeTarget (.ref 43) (.str ⟨x.toArray⟩ t) >>= _) _ _ s
    refine wpAny_bind ?_
    obtain ⟨hp0, g, d, tk, os⟩ := s
    refine whole_target hp hc ?_
    dsimp only
    refine W.KFB.if_not rfl ?_
    refine wpAny_bind (W.KFB.if_not rfl ?_)
    have hyz : ys.length ≤ 20000 := by omega
    refine next_found (.ref 43) (.str ⟨x.toArray⟩ t) x hx s0 false hs (fun p c seen' hsp hpc hac hbetween => ?_) (fun hnone => ?_)
    · dsimp only
      have hplt : p < x.length := (List.getElem?_eq_some_iff.mp hpc).1
      refine' wp_meet (fun s' => ∃ ys' : List (List Nat), ys'.length ≤ 2 * p + 1 ∧ ys'.length ≤ 2 * s0 + 1 ∧ ys'.flatten = cloak (x.take p) ∧ Rep cx ⟨(pieces, .list (ys'.map St)) :: S, F⟩ s') ?item fun item => ?main
      case main =>
        have hsl : ∀ q, q ≤ x.length → (∀ k, s0 ≤ k → k < q → ∀ d, x[k]? = some d → amp d = false) → s0 ≤ q → cloak (x.take q) = cloak (x.take s0) ++ (x.drop s0).take (q - s0) := by
          intro q hq hfree hsq
          have e : x.take q = x.take s0 ++ (x.drop s0).take (q - s0) := by
            rw [← List.drop_take]
            have := (List.take_append_drop s0 (x.take q)).symm
            rw [List.take_take, Nat.min_eq_left hsq] at this
            exact this
          rw [e, cloak_append, cloak_free ((x.drop s0).take (q - s0))]
          intro d hd
          obtain ⟨j, hj⟩ := List.mem_iff_getElem?.mp hd
          rw [List.getElem?_take] at hj
          split at hj
          · rw [List.getElem?_drop] at hj
            exact hfree (s0 + j) (by omega) (by omega) d hj
          · cases hj
        by_cases hlt : (s0 : Int).toNat < p
        · rw [if_pos hlt]
          have hlt' : s0 < p := hlt
          refine wpAny_bind (slice_piece Rs (by omega) fun v s1 hv R1 => ?_)
          refine wpAny_bind (push_piece R1 (by rw [List.length_map]; omega) fun s2 R2 => ?_)
          rw [hv, ← List.map_singleton (f := St), ← List.map_append] at R2
          refine item s2 ⟨ys ++ [(x.drop s0).take (p - s0)], by simp; omega, by simp; omega, ?_, R2⟩
          rw [List.flatten_append, hys, hsl p (by omega) hbetween hsp]
          simp
        · rw [if_neg hlt]
          have hge' : ¬ s0 < p := hlt
          obtain rfl : s0 = p := by omega
          exact item _ ⟨ys, by omega, by omega, hys, Rs⟩
      case item =>
        rintro s' ⟨ys', hl1, hl2, hfl, R1⟩
        refine wpAny_bind ?_
        unfold Builtin.Re.reNewMatch
        refine W.KFB.if_not (by simp [List.range, List.range.loop]) ?_
        refine wpAny_bind (wpAny_newTuple (items := [rawInt p, rawInt ((p + 1 : Nat) : Int), rawInt p, rawInt ((p + 1 : Nat) : Int)]) ?_ (by rw [sizeLine_eq]; simp))
        have R2 := R1.push (o := { cls := .type "tuple", data := .seq [rawInt p, rawInt ((p + 1 : Nat) : Int), rawInt p, rawInt ((p + 1 : Nat) : Int)].toArray }) (co := .tuple [In p, In (p + 1), In p, In (p + 1)]) ⟨_, _, Heap.get?_push_size _ rfl, rfl⟩ s'.toks R1.pos
        refine wpAny_newObj_type ?_
        have R3 := R2.push (o := matchObj x t s'.heap.objs.size) (co := .raw (matchObj x t s'.heap.objs.size)) (Heap.get?_push_size _ rfl) s'.toks R2.pos
        refine wpAny_bind (wpAny_holding (W.KFB.if_so rfl ?_))
        refine wpAny_mono (hcall _ _ p c ys' hpc hac [.ref _] rfl _ R3) (fun v s3 ⟨σ3, R4, hv, hb⟩ => ?_) fun _ _ x => x.elim
        obtain ⟨t3, rfl⟩ := nv_str hv
        refine W.KFB.if_so rfl ?_
        obtain ⟨S3, F3⟩ := σ3
        have R5 := R4.weak hb.1 hb.2
        refine wpAny_bind (push_piece R5 (by rw [List.length_map]; omega) fun s4 R6 => ?_)
        refine wpAny_pure ⟨Code.quiet_builtin _ (by decide +kernel), ?_⟩
        have hb2 : (p + 1 == p) = false := by simp
        rw [hb2]
        refine ih (x.length - (p + 1)) (by omega) (p + 1) (n + 1) (ys' ++ [[92, c]]) s4 rfl (by omega) (by simp; omega) ?_ ?_
        · rw [List.flatten_append, hfl]
          have e : x.take (p + 1) = x.take p ++ [c] := by rw [List.take_add_one, hpc]; rfl
          rw [e, cloak_append]
          simp [cloak, hac]
        · rw [List.map_append]
          exact R6
    · dsimp only
      refine' wp_meet (fun s' => ∃ ys' : List (List Nat), ys'.length ≤ 2 * x.length + 1 ∧ ys'.flatten = cloak x ∧ Rep cx ⟨(pieces, .list (ys'.map St)) :: S, F⟩ s') ?fin fun fin => ?main
      case main =>
        have hfree : ∀ d ∈ x.drop s0, amp d = false := fun d hd => by
          obtain ⟨j, hj⟩ := List.mem_iff_getElem?.mp hd
          rw [List.getElem?_drop] at hj
          exact hnone (s0 + j) (by omega) d hj
        have hcx : cloak x = cloak (x.take s0) ++ x.drop s0 := by
          conv => lhs; rw [← List.take_append_drop s0 x]
          rw [cloak_append, cloak_free _ hfree]
        by_cases hlt : (s0 : Int).toNat < x.length
        · rw [if_pos hlt]
          have hlt' : s0 < x.length := hlt
          refine wpAny_bind (slice_piece Rs (by omega) fun v s1 hv R1 => ?_)
          refine wpAny_bind (push_piece R1 (by rw [List.length_map]; omega) fun s2 R2 => ?_)
          rw [hv, ← List.map_singleton (f := St), ← List.map_append] at R2
          refine fin s2 ⟨ys ++ [(x.drop s0).take (x.length - s0)], by simp; omega, ?_, R2⟩
          rw [List.flatten_append, hys, hcx]
          simp only [List.flatten_cons, List.flatten_nil, List.append_nil, List.append_cancel_left_eq]
          exact List.take_of_length_le (by rw [List.length_drop]; exact Nat.le_refl _)
        · rw [if_neg hlt]
          have hge' : ¬ s0 < x.length := hlt
          refine fin _ ⟨ys, by omega, ?_, Rs⟩
          rw [hys, hcx, List.drop_eq_nil_of_le (by omega)]
          simp
      case fin =>
        rintro s' ⟨ys', hl1, hfl, R1⟩
        refine wpAny_bind (slice_piece R1 (by omega) fun v s1 hv R2 => ?_)
        obtain ⟨tj, rfl⟩ := nv_str hv
        obtain ⟨xs, nn2, e, m⟩ := (R2.at_ _ (.head _) : ORel _ _ _).plain
        refine wpAny_bind (wpAny_seqItems e rfl ?_)
        have hxs : xs.length = ys'.length := by have := congrArg List.length m; simpa using this
        cases ys' with
        | nil =>
          have : xs = [] := by simpa using hxs
          subst this
          refine W.KFB.if_so rfl ?_
          refine wpAny_bind (wpAny_pure (W.KFB.if_not rfl (wpAny_pure (hR _ _ ?_ ?_))))
          · rw [← hfl]; rfl
          · exact R2.weak (.skip (.refl _)) fun _ y => y
        | cons y r =>
          have hne : ((some xs.toArray).getD #[]).isEmpty = false := by
            cases xs with
            | nil => simp at hxs
            | cons => rfl
          refine W.KFB.if_not hne ?_
          have hsum : (((y :: r) : List (List Nat)).map (·.length)).sum = (cloak x).length := by rw [← hfl, List.length_flatten]
          have hcl := cloak_len x
          have hj := cal_join_list (cx := cx) (A := A.in1) (σ := ⟨(pieces, .list ((y :: r).map St)) :: S, F⟩) (a := pieces) (sep := []) (ys := y :: r) (Q := fun v σ' => v = St (cloak x) ∧ σ' = ⟨(pieces, .list ((y :: r).map St)) :: S, F⟩)
            ⟨by rw [intercalate_nil, hfl], rfl⟩ (.own (.head _)) (by rw [hsum]; simp; omega) [.str ⟨((x.drop 0).take (0 - 0)).toArray⟩ tj, .ref pieces] (by simp [nv]) s1 R2
          refine wpAny_bind (wpAny_mono hj (fun v s3 ⟨σ3, R3, hv3, hσ3⟩ => ?_) fun _ _ x => x.elim)
          subst hσ3
          exact W.KFB.if_not rfl (wpAny_pure (hR _ _ hv3 (R3.weak (.skip (.refl _)) fun _ y => y)))
end
end Mine
end

section
set_option Elab.async false
set_option linter.unusedVariables false
set_option autoImplicit false
set_option maxRecDepth 100000
namespace Mine
section
variable {cx : Cx} {A : Around} {σ : CS} {env : Env} {E : Value → Shared → Prop}

theorem meth_pattern {name : Str} {pos : Pos} {args : List Expr} {Q : Value → CS → Prop} {a : Addr} (hF : ∀ h, σ.F.p h → ∃ t1 t2, h.get? a = some (patObj t1 t2)) (h : CWith cx A env pos (.builtin "re.Pattern.sub") [.ref a] args Q σ) (hn : name = Str.ofString "sub") :
    Meth cx A env pos name (.ref a) args Q σ := fun v s hv R => by
  subst hn
  obtain rfl := nv_ref hv
  obtain ⟨B, f, e, _⟩ := R.fz
  obtain ⟨t1, t2, hp⟩ := hF B f
  exact ⟨"re.Pattern", _, plain_Pattern, slot_sub, type_sub, ⟨_, e _ _ hp, rfl⟩, fun a' q => by cases q; exact ⟨_, e _ _ hp, rfl⟩, h _ _ rfl rfl s R⟩
theorem meth_match {name : Str} {pos : Pos} {args : List Expr} {Q : Value → CS → Prop} {x : List Nat} {t : Tok} {m tup : Addr} (hm : Sees σ m (.raw (matchObj x t tup))) (h : CWith cx A env pos (.builtin "re.Match.group") [.ref m] args Q σ) (hn : name = Str.ofString "group") :
    Meth cx A env pos name (.ref m) args Q σ := fun v s hv R => by
  subst hn
  obtain rfl := nv_ref hv
  have e : s.heap.get? m = some (matchObj x t tup) := hm.get R
  exact ⟨"re.Match", _, plain_Match, slot_group, type_group, ⟨_, e, rfl⟩, fun a' q => by cases q; exact ⟨_, e, rfl⟩, h _ _ rfl rfl s R⟩

theorem group_run {M : Model} {h : Heap} {g : Array GenState} {d : Drawn} {tk : Nat} {os : OsState} {x : List Nat} {t u : Tok} {m tup : Addr} {n : Nat} {xs : Array Value} {P : Fin → Shared → Prop} (p : Nat) (hm : h.get? m = some (matchObj x t tup)) (ht : h.get? tup = some (seqObj "tuple" xs n))
    (hxs : xs.map Builtin.Re.reRawOf = #[(p : Int), (p : Int) + 1, (p : Int), (p : Int) + 1]) (hP : ∀ v tk', nv v = St ((x.drop p).take 1) → P (.done (.ret v)) ⟨h, g, d, tk', os⟩) (hx : x.length ≤ 1000000) :
    wpAny M A (Builtin.«re.Match.group» ⟨[.ref m, .int 1 u], []⟩) P E ⟨h, g, d, tk, os⟩ := by
  unfold Builtin.«re.Match.group»
  repeat (any_goals (first | assumption | wp_step))
  have hsp : Array.map Builtin.Re.reRawOf ((some xs).getD #[]) = #[(p : Int), (p : Int) + 1, (p : Int), (p : Int) + 1] := hxs
  rw [hsp]
  have g1 : (#[(p : Int), (p : Int) + 1, (p : Int), (p : Int) + 1] : Array Int).getD (2 * Int.toNat 1) (-1) = (p : Int) := rfl
  have g2 : (#[(p : Int), (p : Int) + 1, (p : Int), (p : Int) + 1] : Array Int).getD (2 * Int.toNat 1 + 1) (-1) = (p : Int) + 1 := rfl
  rw [g1, g2]
  refine W.KFB.if_not (by simp; omega) ?_
  show wpAny M A (Builtin.Re.reTextOf (.str ⟨x.toArray⟩ t) >>= _) _ _ _
  refine wpAny_bind ?_
  unfold Builtin.Re.reTextOf
  repeat (any_goals (first | assumption | wp_step))
  have e2 : ((p : Int) + 1).toNat = p + 1 := by omega
  have hs : (⟨x.toArray.extract p (p + 1)⟩ : Str) = ⟨((x.drop p).take 1).toArray⟩ := by
    congr 1
    simp
  show wpAny M A (Builtin.Re.reSlice x.toArray 0 (p : Int).toNat ((p : Int) + 1).toNat) _ _ _
  rw [e2]
  show wpAny M A (Builtin.Re.reSlice x.toArray 0 p (p + 1)) _ _ _
  unfold Builtin.Re.reSlice
  refine W.KFB.if_so rfl ?_
  rw [hs]
  refine wpAny_mkStr (wpAny_pure (hP _ _ rfl)) ?_
  show ((x.drop p).take 1).toArray.size ≤ sizeLine
  rw [sizeLine_eq]; simp; omega
theorem cal_group {x : List Nat} {t : Tok} {m tup : Addr} {p c : Nat} {Q : Value → CS → Prop} (hm : Sees σ m (.raw (matchObj x t tup))) (ht : Sees σ tup (.tuple [In p, In (p + 1), In p, In (p + 1)])) (hp : x[p]? = some c) (hx : x.length ≤ 1000000) (h : Q (St [c]) σ) :
    Cal cx A (.builtin "re.Match.group") [.ref m, In 1] Q σ := fun vs' hv s R => by
  obtain ⟨v1, v2, rfl, e1, e2⟩ := map2 hv
  obtain rfl := nv_ref e1
  obtain ⟨u, rfl⟩ := nv_int e2
  have hm' : s.heap.get? m = some (matchObj x t tup) := hm.get R
  obtain ⟨xs, n, ht', hxs⟩ := (ht.get R : ORel _ _ _)
  have hT : s.TypeIs (.ref m) "re.Match" := ⟨_, hm', rfl⟩
  refine leaf R.pos (wpAny_call (codeAny_call_builtin slot_group.plain entry_group (slot_group.check _ _ _ _ _ _ _ _ hT (args_group _ _) ?_)))
  obtain ⟨hp0, g, d, tk, os⟩ := s
  refine group_run p hm' ht' ?_ (fun v tk' hv' htk => ⟨σ, R.tok tk' htk, ?_⟩) hx
  · have conv : ∀ v : Value, Builtin.Re.reRawOf (nv v) = Builtin.Re.reRawOf v := fun v => by cases v <;> rfl
    apply Array.toList_inj.mp
    rw [Array.toList_map]
    have : xs.toList.map Builtin.Re.reRawOf = (xs.toList.map nv).map Builtin.Re.reRawOf := by simp [Function.comp_def, conv]
    rw [this, hxs]; rfl
  · show Q (nv v) σ
    have : (x.drop p).take 1 = [c] := by
      have hlt := (List.getElem?_eq_some_iff.mp hp)
      rw [List.drop_eq_getElem_cons hlt.1, hlt.2]; rfl
    rw [hv', this]; exact h

theorem fn_call : typeLookup (.type "function") "__call__" = pure (some (.builtin "function.__call__")) := by rw [typeLookup_type, builtinLookup_eq_fast]; kernel_rfl
theorem cal_sub {S : List (Addr × CO)} {F : Fz} {lam : Addr} {mk : Value → Value → Value → FuncData} {x : List Nat} {Q : Value → CS → Prop} (hF : ∀ h, F.p h → ∃ t1 t2 n, h.get? 43 = some (patObj t1 t2) ∧ h.get? 42 = some (codeObj n)) (hx : ∀ c ∈ x, c < 128) (hxl : x.length ≤ 10000)
    (hlam : (lam, CO.fn mk) ∈ S)
    (hcall : ∀ (m tup pieces : Addr) (p c : Nat) (t : Tok) (ys : List (List Nat)), x[p]? = some c → amp c = true → Cal cx A.in1 (.ref lam) [.ref m] (fun v σ' => v = St [92, c] ∧ Back ((pieces, .list (ys.map St)) :: S) F σ')
      ⟨(m, .raw (matchObj x t tup)) :: (tup, .tuple [In p, In (p + 1), In p, In (p + 1)]) :: (pieces, .list (ys.map St)) :: S, F⟩)
    (h : Q (St (cloak x)) ⟨S, F⟩) : Cal cx A (.builtin "re.Pattern.sub") [.ref 43, .ref lam, St x] Q ⟨S, F⟩ := fun vs' hv s R => by
  obtain ⟨v1, v2, v3, rfl, e1, e2, e3⟩ := map3 hv
  obtain rfl := nv_ref e1
  obtain rfl := nv_ref e2
  obtain ⟨t, rfl⟩ := nv_str e3
  obtain ⟨B, f, e, _⟩ := R.fz
  obtain ⟨t1, t2, n, hp, hc⟩ := hF B f
  have hp := e _ _ hp
  have hc := e _ _ hc
  obtain ⟨ol, pm, cv, ctv, hol, hcl, hdl, _⟩ := (R.at_ _ hlam : ORel _ _ _)
  have hT : s.TypeIs (.ref 43) "re.Pattern" := ⟨_, hp, rfl⟩
  refine wpAny_call (codeAny_call_builtin slot_sub.plain entry_sub (slot_sub.check _ _ _ _ _ _ _ _ hT (args_sub _ _ _) ?_))
  obtain ⟨hp0, g, d, tk, os⟩ := s
  unfold Builtin.«re.Pattern.sub» Builtin.Re.reSubstitute
  refine wpAny_bind (wpAny_of_eq (a := [some (.ref lam), some (.str ⟨x.toArray⟩ t), none]) (by first | rfl | kernel_rfl) ?_)
  have hTf : (⟨hp0, g, d, tk, os⟩ : Shared).TypeIs (.ref lam) "function" := ⟨_, hol, hcl⟩
  have fcall := fn_call
  refine wpAny_bind (wpAny_pure ?_)
  refine wpAny_bind (wpAny_specialOf hTf fn_call ?_)
  refine W.KFB.if_so rfl ?_
  refine wpAny_bind (wpAny_pure ?_)
  refine W.KFB.if_so rfl ?_
  refine wpAny_bind (wpAny_pure ?_)
  refine wpAny_bind (wpAny_holding (whole_target hp hc ?_))
  refine W.KFB.if_so rfl ?_
  refine wpAny_bind ?_
  unfold Builtin.Re.reNotHeld
  refine wpAny_bind (wpAny_isInstance (b := false) (typeIs_str _ _ _) (by rw [isSubtype_type]; kernel_rfl) ?_)
  refine W.KFB.if_not rfl (wpAny_pure ?_)
  refine wpAny_bind (wpAny_newObj_type ?_)
  have R1 := R.push (o := { cls := .type "list", data := .seq ([] : List Value).toArray }) (co := .list []) ⟨_, _, Heap.get?_push_size _ rfl, rfl⟩ tk R.pos
  refine wpAny_pure ⟨Code.quiet_builtin _ (by decide +kernel), ?_⟩
  refine sub_loop (t := t) hF hx hxl (fun m tup p c ys => hcall m tup _ p c t ys) (fun v s' hv R' => ?_) (x.length - 0) 0 0 [] _ rfl (Nat.zero_le _) (by simp) rfl R1
  refine ⟨⟨S, F⟩, R', ?_⟩
  show Q (nv v) ⟨S, F⟩
  rw [hv]; exact h
end
end Mine
end

section
set_option Elab.async false
set_option linter.unusedVariables false
set_option autoImplicit false
set_option maxRecDepth 100000
namespace Mine
section
variable {cx : Cx} {A : Around} {σ : CS} {env : Env}
noncomputable def chr : Value → Nat
  | .str s _ => s.cps.getD 0 0
  | _ => 0
theorem chr_St (c : Nat) : chr (St [c]) = c := rfl
theorem fm_chr (p : Nat → Bool) : ∀ m : List Nat, (m.map fun c => St [c]).filterMap (fun v => if p (chr v) then some v else none) = (m.filter p).map fun c => St [c]
  | [] => rfl
  | c :: r => by
    rw [List.map_cons, List.filterMap_cons, chr_St, List.filter_cons]
    cases p c with
    | true => simp only [if_true, List.map_cons]; rw [fm_chr p r]
    | false => simp only [Bool.false_eq_true, if_false]; rw [fm_chr p r]
theorem item_St {m : List Nat} {k : Nat} {v : Value} (h : (m.map fun c => St [c])[k]? = some v) : ∃ c, v = St [c] ∧ c ∈ m := by
  rw [List.getElem?_map] at h
  obtain ⟨c, h1, h2⟩ := Option.map_eq_some_iff.mp h
  exact ⟨c, h2.symm, List.mem_of_getElem? h1⟩
theorem wbO {f : Value → Value → Sem Value} {a b : Value} {Q : Value → CS → Prop} {S' : List (Addr × CO)} {F' : Fz} (hb : Back S' F' σ) (h : Op2 cx A f a b Q ⟨S', F'⟩) : Op2 cx A f a b Q σ := fun v w hv hw => weak_back hb (h v w hv hw)
theorem cf_cutP {t : Sem Flow} {Q : Flow → CS → Prop} (P : CS → Prop) (h1 : CF cx A t (fun f σ₁ => f = .next ∧ P σ₁) σ) (h2 : ∀ σ₁, P σ₁ → Q .next σ₁) : CF cx A t Q σ :=
  CW.mono h1 fun f σ₁ ⟨e1, e2⟩ => by rw [e1]; exact h2 σ₁ e2
theorem cv_cutP {t : Sem Value} {Q : Value → CS → Prop} (P : Value → CS → Prop) (h1 : CV cx A t P σ) (h2 : ∀ v σ₁, P v σ₁ → Q v σ₁) : CV cx A t Q σ :=
  CW.mono h1 fun f σ₁ e => h2 _ σ₁ e
theorem op_in_mem {a : Addr} {c : Nat} {m : List Nat} {Q : Value → CS → Prop} (ha : Sees σ a (.list (m.map fun c => St [c]))) (h : Q (.bool (decide (c ∈ m))) σ) : Op2 cx A (compareOp .In) (St [c]) (.ref a) Q σ := by
  have e : m.map (fun c => St [c]) = (m.map fun c => [c]).map St := by rw [List.map_map]; rfl
  have e2 : decide ([c] ∈ m.map fun c => [c]) = decide (c ∈ m) := by simp
  exact op_in_list (ys := m.map fun c => [c]) (by rw [e2]; exact h) (e ▸ ha)
theorem sees_mono {S S' : List (Addr × CO)} {F F' : Fz} {a : Addr} {co : CO} (h : Sees ⟨S, F⟩ a co) (hs : ∀ p ∈ S, p ∈ S') (hf : Fz.Le F' F) : Sees ⟨S', F'⟩ a co := by
  cases h with
  | own h => exact .own (hs _ h)
  | frozen h => exact .frozen fun h' y => h h' (hf h' y)
theorem joined_cons {e : Expr} {r : List Expr} {acc : List Nat} {Q : List Nat → CS → Prop} (h : CV cx A (eval e env) (fun v σ₁ => ∃ y, v = St y ∧ (acc ++ y).length ≤ 16777216 ∧ Joined cx A env r (acc ++ y) Q σ₁) σ) : Joined cx A env (e :: r) acc Q σ := h
theorem joined_nil {acc : List Nat} {Q : List Nat → CS → Prop} (h : Q acc σ) : Joined cx A env [] acc Q σ := h
theorem binds_cons {n : Str} {v : Value} {r : List (Str × Value)} {K : CS → Prop} (h : Store cx A env n v (fun σ₁ => Binds cx A env r K σ₁) σ) : Binds cx A env ((n, v) :: r) K σ := h
theorem binds_nil {K : CS → Prop} (h : K σ) : Binds cx A env [] K σ := h
theorem cells_nil {acc : List (Str × Addr)} {K : List (Str × Addr) → CS → Prop} (h : K acc σ) : Cells [] acc K σ := h
theorem cal_KC {K : Frag} {p : Program} {loose : List Str} {a : Addr} {o : Obj} {fd : FuncData} {body : List Stmt} {vs : List Value} {S : List (Addr × CO)} {F : Fz} {Q : Value → CS → Prop} {n : Nat} (names xs : List Str)
    (hF : Fz.Le F (Fz.top p loose K)) (hK : K.lookup a = some o) (ho : o.data = .func fd) (hc : codeIn K fd.code fd.qualname = true) (hbody : fd.body = .stmts body) (room : Room A (n + 1))
    (hb : ∀ vs' : List Value, vs'.length = vs.length → bindArgs fd ⟨vs', []⟩ = pure (names.zip vs')) (hx : xs.Nodup)
    (hco : fd.scope.isCoroutine = false) (hgen : fd.scope.isGenerator = false)
    (h : ∀ L, Cells fd.scope.names fd.closure (fun cells σ₁ => ∀ A₁ A', Room A' n → Binds cx A₁ (newEnv fd.scope L fd.globals cells (fd.qualname ++ ".<locals>.") (some a) fd.code none fd.builtins) (names.zip vs) (fun σ₂ =>
        Fz.Le σ₂.F (Fz.top p loose K) ∧ CF cx A' (execs body (newEnv fd.scope L fd.globals cells (fd.qualname ++ ".<locals>.") (some a) fd.code none fd.builtins)) (fun f σ₃ => Q (match f with | .ret v => v | _ => .none) σ₃) σ₂) σ₁) ⟨(L, .ns (nones xs)) :: S, F⟩) :
    Cal cx A (.ref a) vs Q ⟨S, F⟩ := by
  refine cal_code names xs (by have := room.d; show A.depth < 1000; omega) (fun s R => fn_of hF hK ho hc R) hbody hb hx hco hgen fun L => ?_
  have monoC : ∀ {names acc} {K K' : List (Str × Addr) → CS → Prop} {σ}, (∀ cs σ, K cs σ → K' cs σ) → Cells names acc K σ → Cells names acc K' σ := by
    intro names
    induction names with
    | nil => intro acc K K' σ hk h; exact hk _ _ h
    | cons x r ih =>
      intro acc K K' σ hk h
      obtain ⟨n, k⟩ := x
      unfold Cells at h ⊢
      split
      · rename_i q; rw [if_pos q] at h; exact fun c => ih hk (h c)
      · rename_i q; rw [if_neg q] at h; exact ih hk h
  have monoB : ∀ {l : List (Str × Value)} {env : Env} {K K' : CS → Prop} {σ}, (∀ σ, K σ → K' σ) → Binds cx A.in1 env l K σ → Binds cx A.in1 env l K' σ := by
    intro l
    induction l with
    | nil => intro env K K' σ hk h; exact hk _ h
    | cons x r ih => intro env K K' σ hk h; exact fun v' hv => CW.mono (h v' hv) fun _ σ₁ h₁ => ih hk h₁
  refine monoC (fun cells σ₁ h₁ => monoB (fun σ₂ h₂ => ⟨fun s' R => ?_, h₂.2⟩) (h₁ A.in1 (A.deeper (newEnv fd.scope L fd.globals cells (fd.qualname ++ ".<locals>.") (some a) fd.code none fd.builtins)) room.deeper)) (h L)
  obtain ⟨X, mg, mb, T⟩ := top_at h₂.1 R
  exact T.nolimit
end
end Mine
end

section
set_option Elab.async false
set_option linter.unusedVariables false
set_option autoImplicit false
namespace Mine
noncomputable def cutD : Nat → List Nat → List Nat → List (List Nat) × List Nat
  | _, cur, [] => ([], cur)
  | 0, cur, c :: r => if c = 45 then (cur :: (cutD 2 [] r).1, (cutD 2 [] r).2) else cutD 0 (cur ++ [c]) r
  | s + 1, cur, c :: r => cutD s (cur ++ [c]) r
theorem cutD_none : ∀ (s : List Nat) (k : Nat) (cur : List Nat), (∀ n, k ≤ n → s[n]? ≠ some 45) → cutD k cur s = ([], cur ++ s)
  | [], k, cur, _ => by cases k <;> simp [cutD]
  | c :: r, 0, cur, h => by
    have hc : c ≠ 45 := fun e => h 0 (Nat.le_refl _) (by simp [e])
    rw [cutD, if_neg hc, cutD_none r 0 (cur ++ [c]) fun n hn => by simpa using h (n + 1) (by omega)]
    simp
  | c :: r, k + 1, cur, h => by
    rw [cutD, cutD_none r k (cur ++ [c]) fun n hn => by simpa using h (n + 1) (by omega)]
    simp
theorem cutD_some : ∀ (s : List Nat) (k m : Nat) (cur : List Nat), k ≤ m → s[m]? = some 45 → (∀ n, k ≤ n → n < m → s[n]? ≠ some 45) → cutD k cur s = ((cur ++ s.take m) :: (cutD 2 [] (s.drop (m + 1))).1, (cutD 2 [] (s.drop (m + 1))).2)
  | [], k, m, cur, _, h, _ => by simp at h
  | c :: r, 0, 0, cur, _, h, _ => by
    have hc : c = 45 := by simpa using h
    rw [cutD, if_pos hc]; simp
  | c :: r, 0, m + 1, cur, _, h, hn => by
    have hc : c ≠ 45 := fun e => hn 0 (Nat.le_refl _) (by omega) (by simp [e])
    rw [cutD, if_neg hc, cutD_some r 0 m (cur ++ [c]) (Nat.zero_le _) (by simpa using h) fun n h1 h2 => by simpa using hn (n + 1) (by omega) (by omega)]
    simp
  | c :: r, k + 1, 0, cur, hk, _, _ => by omega
  | c :: r, k + 1, m + 1, cur, hk, h, hn => by
    rw [cutD, cutD_some r k m (cur ++ [c]) (by omega) (by simpa using h) fun n h1 h2 => by simpa using hn (n + 1) (by omega) (by omega)]
    simp
noncomputable def chunksOf (skip : Nat) (s : List Nat) : List (List Nat) :=
  if (cutD skip [] s).2 = [] then (cutD skip [] s).1.dropLast ++ [(cutD skip [] s).1.getLastD [] ++ [45]] else (cutD skip [] s).1 ++ [(cutD skip [] s).2]
noncomputable def mergeB : List (List Nat) → List (List Nat)
  | [] => []
  | c :: r => match mergeB r with
    | [] => [c]
    | d :: r' => if d.headD 0 < c.getLastD 0 then (c.dropLast ++ d.tail) :: r' else c :: d :: r'
noncomputable def mergeOk : List (List Nat) → Bool
  | [] => true
  | c :: r => c != [] && mergeOk r && (match mergeB r with | [] => true | d :: _ => d != [])
noncomputable def esc (s : List Nat) : List Nat := rep 45 [92, 45] (rep 92 [92, 92] s)
noncomputable def trans2 (skip : Nat) (s : List Nat) : List Nat := if 45 ∈ s then List.intercalate [45] ((mergeB (chunksOf skip s)).map esc) else rep 92 [92, 92] s
noncomputable def fin3 : List Nat → List Nat
  | 33 :: r => 94 :: r
  | 94 :: r => 92 :: 94 :: r
  | 91 :: r => 92 :: 91 :: r
  | s => s
noncomputable def trans3 (skip : Nat) (s : List Nat) : List Nat := fin3 (cloak (trans2 skip s))
theorem mergeB_ne {c : List Nat} {r : List (List Nat)} : mergeB (c :: r) ≠ [] := by
  unfold mergeB
  split
  · simp
  · split <;> simp

section
variable {cx : Cx} {A : Around} {σ : CS} {env : Env}
theorem op_neg_int {a : Int} {Q : Value → CS → Prop} (h : Q (In (-a)) σ) : Op1 cx A (unaryOp .USub) (In a) Q σ := fun v hv s R => by
  obtain ⟨t, rfl⟩ := nv_int hv
  exact PyProof.Rows.neg_int ⟨σ, R.tok _ (Nat.succ_pos _), h⟩
theorem sub_listL {value slice : Expr} {a : Addr} {vs : List Value} {y : Value} {Q : Value → CS → Prop} (ha : Sees σ a (.list vs)) (hy : vs.getLast? = some y) (hx : vs.length ≤ 1000000) (h : Q y σ) (hs : Plainly slice) :
    Sub cx A value slice (.ref a) (In (-1)) Q σ := by
  have hne : vs ≠ [] := fun z => by rw [z] at hy; cases hy
  have hpos : 0 < vs.length := List.length_pos_iff.mpr hne
  refine sub_list_neg h ha (by decide) (by omega) (by decide) ?_ hs
  rw [List.getLast?_eq_getElem?] at hy
  have : ((-1 : Int) + (vs.length : Int)).toNat = vs.length - 1 := by omega
  rw [this]; exact hy
theorem sub_strL {value slice : Expr} {x : List Nat} {c : Nat} {Q : Value → CS → Prop} (hc : x.getLast? = some c) (hx : x.length ≤ 1000000) (h : Q (St [c]) σ) (hs : Plainly slice) :
    Sub cx A value slice (St x) (In (-1)) Q σ := by
  have hne : x ≠ [] := fun z => by rw [z] at hc; cases hc
  have hpos : 0 < x.length := List.length_pos_iff.mpr hne
  rw [List.getLast?_eq_getElem?] at hc
  refine sub_str (k := x.length - 1) h (by decide) ?_ hc hs
  unfold seqIndex?
  have : ((-1 : Int) + (x.length : Int)).toNat = x.length - 1 := by omega
  first
    | (simp; omega)
    | (split <;> simp <;> omega)
end
end Mine
end

section
set_option Elab.async false
set_option linter.unusedVariables false
set_option autoImplicit false
set_option maxRecDepth 100000
namespace Mine
section
variable {prog : Program} {w : World} {A : Around} {E : Value → Shared → Prop} {env : Env}
theorem replace_raw {s : Shared} {x z : List Nat} {c : Nat} {t : Tok} {y zz : Str} {k1 k2 : Nat} {p1 p2 pos : Pos} {Q : Value → Shared → Prop} (hpos : 0 < s.toks) (hy : y = ⟨#[c]⟩) (hz : zz = ⟨z.toArray⟩) (hne : z ≠ [c])
    (hb : x.length + (x.length + 1) * z.length ≤ 16777216) (h : ∀ t' tk, 0 < tk → Q (.str ⟨(rep c z x).toArray⟩ t') { s with toks := tk }) :
    wpAny (model prog w) A (callWith pos (.builtin "str.replace") [.str ⟨x.toArray⟩ t] (backTo pos (starEach [.Constant (.str y) k1 p1, .Constant (.str zz) k2 p2] env)) []) Q E s := by
  refine Calls.callWith_builtin rfl (Calls.evalArgs_plain ?_)
  refine Calls.spliced_cons (Calls.Constant_str (k := k1) (pos := p1) (Calls.spliced_cons (Calls.Constant_str (k := k2) (pos := p2) (Calls.spliced_nil ?_))))
  subst hy hz
  have hbl : ((⟨#[c]⟩ : Str) == ⟨z.toArray⟩) = false := by
    rw [beq_eq_false_iff_ne]
    intro q
    have q' : #[c] = z.toArray := congrArg Str.cps q
    exact hne (by simpa using (congrArg Array.toList q').symm)
  have hl : Builtin.Str.tooLong ((⟨x.toArray⟩ : Str).length + (Builtin.Str.occurrences ⟨x.toArray⟩ ⟨#[c]⟩ 0 (⟨x.toArray⟩ : Str).length ((⟨x.toArray⟩ : Str).length + 1)).length * (⟨z.toArray⟩ : Str).length) = false := by
    have h1 := StrLaws.occ_length_le ⟨x.toArray⟩ ⟨#[c]⟩ 0 (⟨x.toArray⟩ : Str).length ((⟨x.toArray⟩ : Str).length + 1)
    have h2 := Nat.mul_le_mul_right (⟨z.toArray⟩ : Str).length h1
    have e1 : (⟨x.toArray⟩ : Str).length = x.length := by simp [Str.length]
    have e2 : (⟨z.toArray⟩ : Str).length = z.length := by simp [Str.length]
    unfold Builtin.Str.tooLong sizeLine
    rw [e1, e2] at h2
    rw [e1, e2]
    exact decide_eq_false (by omega)
  have hne0 : (s.toks == 0 || s.toks + 1 == 0) = false := by
    have : s.toks ≠ 0 := by omega
    simp [this]
  refine call_gives PySem.F.slot_str_replace (typeIs_str _ _ _) PySem.F.entry_str_replace (PySem.F.args_str_replace_3 _ _ _)
    (gives_str_replace ⟨x.toArray⟩ ⟨#[c]⟩ ⟨z.toArray⟩ t s.toks (s.toks + 1) fun _ => ⟨hne0, by simp, hbl, hl⟩) ?_
  have hrep := str_of_toList (replace_rep x z c)
  unfold Txt.replace at hrep
  cases hc : ((Builtin.Str.occurrences ⟨x.toArray⟩ ⟨#[c]⟩ 0 (⟨x.toArray⟩ : Str).length ((⟨x.toArray⟩ : Str).length + 1)).isEmpty || ((⟨#[c]⟩ : Str).length == 0 && (⟨z.toArray⟩ : Str).length == 0))
  · rw [hc] at hrep
    simp only [Bool.false_eq_true, if_false] at hrep ⊢
    refine ⟨?_, ?_⟩
    · rw [hrep]
      have hlen := rep_len c z x
      simp [Str.length, sizeLine]; omega
    · rw [hrep]; exact h _ _ (Nat.succ_pos _)
  · rw [hc] at hrep
    simp only [if_true] at hrep ⊢
    rw [hrep]; exact h _ _ (Nat.succ_pos _)
theorem esc_run {s : Shared} {m : Str → Option Value} {n : Str} {y : List Nat} {t : Tok} {np a1 c1 a2 c2 p1 p2 p3 p4 : Pos} {k1 k2 k3 k4 : Nat} (hpos : 0 < s.toks) (hk : env.scope.kind = .function) (ho : env.kindOf n = some .local) (hd : (n == ("__debug__" : Str)) = false) (hn : s.heap.Ns env.locals m) (hm : m n = some (.str ⟨y.toArray⟩ t)) (hl : y.length ≤ 2000)
    (hl1 : (a1.endLine == c1.line) = true) (hl2 : (a2.endLine == c2.line) = true) (z1 z2 z3 z4 : Str) (e1 : z1 = ⟨#[92]⟩) (e2 : z2 = ⟨[92, 92].toArray⟩) (e3 : z3 = ⟨#[45]⟩) (e4 : z4 = ⟨[92, 45].toArray⟩)
    (hf1 : ((backTo c1 (starEach [.Constant (.str z1) k1 p1, .Constant (.str z2) k2 p2] env)).all (fun x => !x.1) && (backToKw c1 (keywordEach [] env)).all (fun x => x.1.isSome) && decide (2 + ([] : List Keyword).length + (if ([] : List Keyword).isEmpty then 0 else 1) < 30)) = true)
    (hf2 : ((backTo c2 (starEach [.Constant (.str z3) k3 p3, .Constant (.str z4) k4 p4] env)).all (fun x => !x.1) && (backToKw c2 (keywordEach [] env)).all (fun x => x.1.isSome) && decide (2 + ([] : List Keyword).length + (if ([] : List Keyword).isEmpty then 0 else 1) < 30)) = true)
    (hb1 : attributeBase (.Name n np) (Str.ofString "replace") env (eval (.Name n np) env) = eval (.Name n np) env)
    (hb2 : attributeBase (.Call (.Attribute (.Name n np) (Str.ofString "replace") a1) [.Constant (.str z1) k1 p1, .Constant (.str z2) k2 p2] [] c1) (Str.ofString "replace") env (eval (.Call (.Attribute (.Name n np) (Str.ofString "replace") a1) [.Constant (.str z1) k1 p1, .Constant (.str z2) k2 p2] [] c1) env) = eval (.Call (.Attribute (.Name n np) (Str.ofString "replace") a1) [.Constant (.str z1) k1 p1, .Constant (.str z2) k2 p2] [] c1) env) :
    wpAny (model prog w) A (eval (.Call (.Attribute (.Call (.Attribute (.Name n np) (Str.ofString "replace") a1) [.Constant (.str z1) k1 p1, .Constant (.str z2) k2 p2] [] c1) (Str.ofString "replace") a2) [.Constant (.str z3) k3 p3, .Constant (.str z4) k4 p4] [] c2) env)
      (fun v s₃ => (∃ u, v = .str ⟨(esc y).toArray⟩ u) ∧ Keeps s s₃) E s := by
  refine wpAny_Call_method_late hb2 hf2 hl2 rfl ?_
  refine wpAny_Call_method_late hb1 hf1 hl1 rfl ?_
  refine wpAny_Name (wpAny_loadName_local hk ho hn hm ?_) hd
  have l1 := rep_len 92 [92, 92] y
  refine ⟨"str", _, PySem.F.plainAttrs_str, PySem.F.slot_str_replace, PySem.F.type_str_replace, typeIs_str _ _ _, fun a' q => (by cases q), ?_⟩
  refine replace_raw hpos e1 e2 (by decide) (by simp; omega) fun t' tk htk => ?_
  refine ⟨"str", _, PySem.F.plainAttrs_str, PySem.F.slot_str_replace, PySem.F.type_str_replace, typeIs_str _ _ _, fun a' q => (by cases q), ?_⟩
  refine replace_raw htk e3 e4 (by decide) (by simp at l1 ⊢; omega) fun t2 tk2 htk2 => ?_
  exact ⟨⟨t2, rfl⟩, s.heap, tk2, rfl, fun _ _ e => e⟩
end
end Mine
end

section
set_option Elab.async false
set_option linter.unusedVariables false
set_option autoImplicit false
namespace Mine
theorem and_new {l : List Value} {co : CO} {S : List (Addr × CO)} {F : Fz} {Q : Value → CS → Prop} (h : ∀ d, Q (.ref d) ⟨(d, co) :: S, F⟩) (hn : l.length ≤ 16777216) : l.length ≤ 16777216 ∧ New co Q ⟨S, F⟩ := ⟨hn, h⟩
theorem cf_hide {cx : Cx} {A : Around} {σ : CS} {t : Sem Flow} {Q : Flow → CS → Prop} (h : ∀ G : Flow → CS → Prop, (∀ f σ, Q f σ → G f σ) → CF cx A t G σ) : CF cx A t Q σ := h Q fun _ _ x => x
theorem fz_id {F : Fz} : ∀ h, F.p h → F.p h := fun _ y => y
end Mine
end

section
set_option Elab.async false
set_option linter.unusedVariables false
set_option autoImplicit false
namespace Mine
section
open SeqAt
open AutoSeq1 (wpAny_loadPart')
open MeetsSeq MeetsSeq2 MeetsSeq3 SeqRoads2
noncomputable def LtAt (A : Around) (s : Shared) (x y : Value) (b : Bool) : Prop :=
  ∀ (prog : Program) (w : World) (E : Value → Shared → Prop) (Q : Value → Shared → Prop), Q (.bool b) s → wpAny (model prog w) A (richCompare .Lt x y) Q E s
inductive LexAt (A : Around) (s : Shared) : List Value → List Value → Bool → Prop where
  | nilL {ys : List Value} : LexAt A s [] ys (decide (0 < ys.length))
  | nilR {x : Value} {xs : List Value} : LexAt A s (x :: xs) [] false
  | eq {x y : Value} {xs ys : List Value} {b : Bool} : EqAt A s x y true → LexAt A s xs ys b → LexAt A s (x :: xs) (y :: ys) b
  | ne {x y : Value} {xs ys : List Value} {b : Bool} : EqAt A s x y false → LtAt A s x y b → LexAt A s (x :: xs) (y :: ys) b

theorem lt_loop (l b : Addr) (items items2 : Array Value) (n n2 : Nat) (dd dd2 : Option Addr) (sl sl2 : Array (Option Value)) (k : Nat) :
    ∀ i : Nat, items.size - i = k → i ≤ items.size → i ≤ items2.size → Meets (Builtin.«list.__eq__.loop» ⟨[.ref l, .ref b, rawInt i, rawInt 0], []⟩)
      (fun A R s => s.heap.get? l = some { cls := .type "list", dict := dd, data := .seq items n, slots := sl } ∧ s.heap.get? b = some { cls := .type "list", dict := dd2, data := .seq items2 n2, slots := sl2 } ∧
        ∃ r, LexAt A.in1 s (items.toList.drop i) (items2.toList.drop i) r ∧ R (.ok (.ret (.bool r))) s) := by
  induction k with
  | zero =>
    intro i hk hi0 hi00 prog w A R s h
    obtain ⟨hp, g, d, tk, os⟩ := s; obtain ⟨hl, hb, r, he, h⟩ := h
    have hd : items.toList.drop i = [] := by simp; omega
    rw [hd] at he
    have hie : i = items.size := by omega
    wp_walk using wpAny_loadPart' hl, wpAny_loadPart' hb
    have hi1 : items[((i : Nat) : Int).toNat]? = none := by simp; omega
    rw [hi1]
    have hr : r = decide (items.size < items2.size) := by
      cases he with
      | nilL =>
        have : (0 < (items2.toList.drop i).length) ↔ items.size < items2.size := by simp; omega
        exact decide_eq_decide.mpr this
    subst hr
    cases hi2 : items2[((i : Nat) : Int).toNat]? with
    | none =>
      wp_walk using wpAny_loadPart' hl, wpAny_loadPart' hb
      exact h
    | some y =>
      wp_walk using wpAny_loadPart' hl, wpAny_loadPart' hb
      exact h
  | succ k ih =>
    intro i hk hi0 hi00 prog w A R s h
    obtain ⟨hp, g, d, tk, os⟩ := s; obtain ⟨hl, hb, r, he, h⟩ := h
    wp_walk using wpAny_loadPart' hl, wpAny_loadPart' hb
    have hlt : i < items.size := by omega
    have hi1 : items[((i : Nat) : Int).toNat]? = some items[i] := by simp [hlt]
    have hd : items.toList.drop i = items[i] :: items.toList.drop (i + 1) := by simp [List.drop_eq_getElem_cons, hlt]
    have hc : ((i : Int) + 1) = ((i + 1 : Nat) : Int) := by push_cast; rfl
    rw [hd] at he
    rw [hi1]
    by_cases hlt2 : i < items2.size
    · have hi2 : items2[((i : Nat) : Int).toNat]? = some items2[i] := by simp [hlt2]
      have hd2 : items2.toList.drop i = items2[i] :: items2.toList.drop (i + 1) := by simp [List.drop_eq_getElem_cons, hlt2]
      rw [hd2] at he
      rw [hi2]
      cases he with
      | eq h1 h2 =>
        refine wpAny_bind (h1 prog w _ _ ?_)
        wp_walk
        rw [hc]
        exact ⟨plainId_quiet plain_eq_loop _, codeAny_builtin entry_eq_loop (by
          rw [Around.under_plainId plain_eq_loop _]
          exact ih (i + 1) (by omega) (by omega) (by omega) prog w A R _ ⟨hl, hb, r, h2, h⟩)⟩
      | ne h1 h2 =>
        refine wpAny_bind (h1 prog w _ _ ?_)
        wp_walk using wpAny_loadPart' hl, wpAny_loadPart' hb
        rw [hi1, hi2]
        refine wpAny_bind (h2 prog w _ _ ?_)
        wp_walk
        exact h
    · have hi2 : items2[((i : Nat) : Int).toNat]? = none := by simp; omega
      have hd2 : items2.toList.drop i = [] := by simp; omega
      rw [hd2] at he
      rw [hi2]
      cases he with
      | nilR =>
        wp_walk using wpAny_loadPart' hl, wpAny_loadPart' hb
        have e : decide (items.size < items2.size) = false := by simp; omega
        show R (.ok (.ret (.bool (decide (items.size < items2.size))))) _
        rw [e]
        exact h
theorem list_lt (l b : Addr) (items items2 : Array Value) (n n2 : Nat) (dd dd2 : Option Addr) (sl sl2 : Array (Option Value)) :
    Meets (Builtin.«list.__lt__» ⟨[.ref l, .ref b], []⟩)
      (fun A R s => s.heap.get? l = some { cls := .type "list", dict := dd, data := .seq items n, slots := sl } ∧ s.heap.get? b = some { cls := .type "list", dict := dd2, data := .seq items2 n2, slots := sl2 } ∧
        ∃ r, LexAt A.in1 s items.toList items2.toList r ∧ R (.ok (.ret (.bool r))) s) := by
  intro prog w A R s h
  obtain ⟨hp, g, d, tk, os⟩ := s; obtain ⟨hl, hb, r, he, h⟩ := h
  have f3 := AutoSeq1.sub_list_list
  wp_walk using wpAny_loadPart' hl, wpAny_loadPart' hb
  exact ⟨plainId_quiet plain_eq_loop _, codeAny_builtin entry_eq_loop (by
    rw [Around.under_plainId plain_eq_loop _]
    exact lt_loop l b items items2 n n2 dd dd2 sl sl2 _ 0 rfl (Nat.zero_le _) (Nat.zero_le _) prog w A R _ ⟨hl, hb, r, by simpa using he, h⟩)⟩
end
end Mine
end

section
set_option Elab.async false
set_option linter.unusedVariables false
set_option autoImplicit false
namespace Mine
section
open SeqAt
open AutoSeq1 (wpAny_loadPart')
open MeetsSeq MeetsSeq2 MeetsSeq3 SeqRoads2
theorem LtAt.int {A : Around} {s : Shared} (a : Int) (t : Tok) (b : Int) (u : Tok) : LtAt A s (.int a t) (.int b u) (decide (a < b)) := fun prog w E Q h =>
  show wpAny (model prog w) A (compareOp .Lt (.int a t) (.int b u)) Q E s from PyProof.Rows.lt_int h
theorem LtAt.lists {A : Around} {s : Shared} {l b : Addr} {items items2 : Array Value} {r : Bool} (hl : s.heap.IsList l items) (hb : s.heap.IsList b items2) (hu : A.units < cLine)
    (he : LexAt A.in1 s items.toList items2.toList r) : LtAt A s (.ref l) (.ref b) r := fun prog w E Q h => by
  obtain ⟨⟨cls, dd, data, sl⟩, ho, hc, n, hd⟩ := id hl
  obtain ⟨⟨cls2, dd2, data2, sl2⟩, ho2, hc2, n2, hd2⟩ := id hb
  simp only at hc hd hc2 hd2
  subst hc hd hc2 hd2
  exact richCompare_meets_room (op := .Lt) ⟨_, ho, rfl⟩ ⟨_, ho2, rfl⟩ F.slot_list_lt F.entry_list_lt (F.args_list_lt_2 _ _) (list_lt l b items items2 n n2 dd dd2 sl sl2)
    ⟨ho, ho2, r, he, show Value.bool r ≠ Value.notImplemented ∧ Q (.bool r) s from ⟨(fun x => nomatch x), h⟩⟩ hu
theorem keyLt_lists {prog : Program} {w : World} {A : Around} {E : Value → Shared → Prop} {s : Shared} {l b : Addr} {items items2 : Array Value} {r : Bool} {Q : Bool → Shared → Prop} (hl : s.heap.IsList l items) (hb : s.heap.IsList b items2) (hu : A.units < cLine)
    (he : LexAt A.in1 s items.toList items2.toList r) (h : Q r s) : wpAny (model prog w) A (keyLt' oneType' (.ref l) (.ref b)) Q E s := by
  rw [keyLt'_oneType, oneLt'_eq]
  simp only [if_true]
  refine wpAny_bind (wpAny_cRoomFor hu ?_)
  obtain ⟨⟨cls, dd, data, sl⟩, ho, hc, n, hd⟩ := id hl
  obtain ⟨⟨cls2, dd2, data2, sl2⟩, ho2, hc2, n2, hd2⟩ := id hb
  simp only at hc hd hc2 hd2
  subst hc hd hc2 hd2
  refine wpAny_bind (wpAny_callSpecialIfBound?_slot ⟨_, ho, rfl⟩ F.slot_list_lt (call_meets F.slot_list_lt ⟨_, ho, rfl⟩ F.entry_list_lt (F.args_list_lt_2 _ _) (list_lt l b items items2 n n2 dd dd2 sl sl2) ⟨ho, ho2, r, he, ?_⟩))
  show wpAny _ _ _ _ _ _
  exact wpAny_truthy_bool h
end
noncomputable def KRes {α : Type} (n : Nat) (r : Nat → Nat) : KasT α → (α → Prop) → Prop
  | .ret a, Q => Q a
  | .ask i j k, Q => i < n ∧ j < n ∧ KRes n r (k (decide (r i < r j))) Q
theorem KRes.bind {α β : Type} {n : Nat} {r : Nat → Nat} {f : α → KasT β} {Q : β → Prop} : ∀ {t : KasT α}, KRes n r t (fun a => KRes n r (f a) Q) → KRes n r (t.bind f) Q
  | .ret a, h => h
  | .ask i j k, h => ⟨h.1, h.2.1, KRes.bind (t := k _) h.2.2⟩
theorem KRes.mono {α : Type} {n : Nat} {r : Nat → Nat} {Q Q' : α → Prop} (k : ∀ a, Q a → Q' a) : ∀ {t : KasT α}, KRes n r t Q → KRes n r t Q'
  | .ret a, h => k a h
  | .ask i j k', h => ⟨h.1, h.2.1, KRes.mono k (t := k' _) h.2.2⟩
theorem KRes.wp {α : Type} {n : Nat} {r : Nat → Nat} {cmp : Nat → Nat → (Bool → Shared → Prop) → Shared → Prop} {s : Shared} (hc : ∀ i j C, i < n → j < n → C (decide (r i < r j)) s → cmp i j C s) {Q : α → Shared → Prop} : ∀ {t : KasT α}, KRes n r t (fun a => Q a s) → t.kasWp cmp Q s
  | .ret a, h => h
  | .ask i j k, h => hc i j _ h.1 h.2.1 (KRes.wp hc (t := k _) h.2.2)

structure PIn (n : Nat) (r : Nat → Nat) (p : Array Nat) : Prop where
  sz : p.size = n
  lt : ∀ i, i < n → p.getD i 0 < n
  inj : ∀ i j, i < n → j < n → i ≠ j → r (p.getD i 0) ≠ r (p.getD j 0)
noncomputable def Asc (r : Nat → Nat) (p : Array Nat) (k : Nat) : Prop := ∀ i j, i < j → j < k → r (p.getD i 0) < r (p.getD j 0)
noncomputable def Dsc (r : Nat → Nat) (p : Array Nat) (k : Nat) : Prop := ∀ i j, i < j → j < k → r (p.getD j 0) < r (p.getD i 0)
theorem pin_of {n : Nat} {r : Nat → Nat} {p : Array Nat} (hr : ∀ i j, i < n → j < n → r i = r j → i = j) (hp : p.toList.Perm (List.range n)) : PIn n r p := by
  have hs : p.size = n := by have := hp.length_eq; simpa using this
  have hnd : p.toList.Nodup := hp.nodup_iff.mpr List.nodup_range
  have hget : ∀ i, (h : i < n) → p.getD i 0 = p.toList[i]'(by simpa [hs] using h) := fun i h => by simp [Array.getD, hs, h]
  have hlt : ∀ i, i < n → p.getD i 0 < n := fun i h => by
    have hm : p.getD i 0 ∈ p.toList := by rw [hget i h]; exact List.getElem_mem _
    exact List.mem_range.mp (hp.mem_iff.mp hm)
  refine ⟨hs, hlt, fun i j hi hj hne e => ?_⟩
  have e2 := hr _ _ (hlt i hi) (hlt j hj) e
  rw [hget i hi, hget j hj] at e2
  exact hne ((List.getElem_inj hnd).mp e2)
theorem asc_res {n : Nat} {r : Nat → Nat} {p : Array Nat} (P : PIn n r p) : ∀ (f k : Nat), 1 ≤ k → k + f ≤ n → Asc r p k → KRes n r (kas_asc p f k) (fun m => Asc r p m ∧ k ≤ m ∧ m ≤ k + f ∧ (m < k + f → r (p.getD m 0) < r (p.getD (m - 1) 0)))
  | 0, k, _, _, h => ⟨h, Nat.le_refl _, Nat.le_refl _, fun x => absurd x (Nat.lt_irrefl _)⟩
  | f + 1, k, h1, hk, h => by
    refine ⟨P.lt _ (by omega), P.lt _ (by omega), ?_⟩
    by_cases q : r (p.getD k 0) < r (p.getD (k - 1) 0)
    · rw [decide_eq_true q]; dsimp only; rw [if_pos rfl]
      exact ⟨h, Nat.le_refl _, by omega, fun _ => q⟩
    · rw [decide_eq_false q]; dsimp only; rw [if_neg (by decide)]
      have q2 : r (p.getD (k - 1) 0) < r (p.getD k 0) := by have := P.inj (k - 1) k (by omega) (by omega) (by omega); omega
      refine KRes.mono ?_ (asc_res P f (k + 1) (by omega) (by omega) fun i j hij hj => ?_)
      · rintro m ⟨a, b, c, d⟩
        exact ⟨a, by omega, by omega, fun x => d (by omega)⟩
      · by_cases hjk : j = k
        · subst hjk
          by_cases hi : i = j - 1
          · subst hi; exact q2
          · exact Nat.lt_trans (h i (j - 1) (by omega) (by omega)) q2
        · exact h i j hij (by omega)
theorem desc_res {n : Nat} {r : Nat → Nat} {p : Array Nat} (P : PIn n r p) : ∀ (f k : Nat), 1 ≤ k → k + f ≤ n → Dsc r p k → KRes n r (kas_desc f p k 0) (fun x => ∃ m, x = (p, m, 0) ∧ Dsc r p m ∧ k ≤ m ∧ m ≤ k + f)
  | 0, k, _, _, h => ⟨k, rfl, h, Nat.le_refl _, Nat.le_refl _⟩
  | f + 1, k, h1, hk, h => by
    refine ⟨P.lt _ (by omega), P.lt _ (by omega), ?_⟩
    by_cases q : r (p.getD k 0) < r (p.getD (k - 1) 0)
    · rw [decide_eq_true q]; dsimp only; rw [if_pos rfl, if_neg (by decide)]
      refine KRes.mono ?_ (desc_res P f (k + 1) (by omega) (by omega) fun i j hij hj => ?_)
      · rintro x ⟨m, a, b, c, d⟩
        exact ⟨m, a, b, by omega, by omega⟩
      · by_cases hjk : j = k
        · subst hjk
          by_cases hi : i = j - 1
          · subst hi; exact q
          · exact Nat.lt_trans q (h i (j - 1) (by omega) (by omega))
        · exact h i j hij (by omega)
    · rw [decide_eq_false q]; dsimp only; rw [if_neg (by decide)]
      have q2 : r (p.getD (k - 1) 0) < r (p.getD k 0) := by have := P.inj (k - 1) k (by omega) (by omega) (by omega); omega
      refine ⟨P.lt _ (by omega), P.lt _ (by omega), ?_⟩
      rw [decide_eq_true q2]; dsimp only; rw [if_pos rfl]
      exact ⟨k, rfl, h, Nat.le_refl _, by omega⟩
theorem getD_of {p q : Array Nat} {i j : Nat} (h : p[i]? = q[j]?) : p.getD i 0 = q.getD j 0 := by
  rw [Array.getD_eq_getD_getElem?, Array.getD_eq_getD_getElem?, h]
theorem perm_list {p q : Array Nat} {l : List Nat} (h : p.Perm q) (k : q.toList.Perm l) : p.toList.Perm l := (Array.perm_iff_toList_perm.mp h).trans k
theorem rev_res {n m : Nat} {r : Nat → Nat} {p : Array Nat} (P : PIn n r p) (hm : m ≤ n) (h : Dsc r p m) : Asc r (kas_rev p 0 m) m := by
  intro i j hij hj
  have e : ∀ k, k < m → (kas_rev p 0 m).getD k 0 = p.getD (m - 1 - k) 0 := fun k hk => by
    unfold kas_rev
    refine getD_of ?_
    rw [getElem?_mirror_all (by rw [P.sz]; omega), if_pos ⟨Nat.zero_le _, hk⟩]
    congr 1; omega
  rw [e i (by omega), e j hj]
  exact h _ _ (by omega) (by omega)
theorem count_res {n : Nat} {r : Nat → Nat} (hr : ∀ i j, i < n → j < n → r i = r j → i = j) (hn : 2 ≤ n) (p : Array Nat) (hp : p.toList.Perm (List.range n)) :
    KRes n r (kas_count n p) (fun x => x.2.toList.Perm (List.range n) ∧ 1 ≤ x.1 ∧ x.1 ≤ n ∧ Asc r x.2 x.1) := by
  have P := pin_of hr hp
  unfold kas_count
  refine KRes.bind (KRes.mono ?_ (asc_res P (n - 1) 1 (Nat.le_refl _) (by omega) fun i j hij hj => by omega))
  rintro m ⟨h1, h2, h3, h4⟩
  by_cases q : m = n
  · subst q
    rw [if_pos (by simp)]
    exact ⟨hp, h2, Nat.le_refl _, h1⟩
  · rw [if_neg (by simpa using q)]
    by_cases q1 : m > 1
    · rw [if_pos q1]
      refine ⟨P.lt _ (by omega), P.lt _ (by omega), ?_⟩
      rw [decide_eq_true (h1 0 (m - 1) (by omega) (by omega))]; dsimp only; rw [if_pos rfl]
      exact ⟨hp, by omega, by omega, h1⟩
    · have hm : m = 1 := by omega
      subst hm
      rw [if_neg q1]
      unfold kas_descPart
      have h5 := h4 (by omega)
      refine KRes.bind (KRes.mono ?_ (desc_res P (n - (1 + 1)) (1 + 1) (by omega) (by omega) fun i j hij hj => ?_))
      · rintro x ⟨m, rfl, g1, g2, g3⟩
        dsimp only
        rw [if_neg (by decide)]
        unfold kas_tail3
        have hp2 : (kas_rev p 0 m).toList.Perm (List.range n) := perm_list (mirror_perm _ _ _ _) hp
        have P2 := pin_of hr hp2
        refine KRes.bind (KRes.mono ?_ (asc_res P2 (n - m) m (by omega) (by omega) (rev_res P (by omega) g1)))
        rintro k ⟨k1, k2, k3, _⟩
        exact ⟨hp2, by show 1 ≤ k; omega, by show k ≤ n; omega, k1⟩
      · have : i = 0 := by omega
        have : j = 1 := by omega
        subst i j
        exact h5
theorem place_res {n : Nat} {r : Nat → Nat} {p : Array Nat} (P : PIn n r p) {k : Nat} (hk : k < n) : ∀ (f l u : Nat), l ≤ u → u ≤ k → u - l ≤ f → (∀ i, i < l → r (p.getD i 0) < r (p.getD k 0)) → (∀ i, u ≤ i → i < k → r (p.getD k 0) < r (p.getD i 0)) → Asc r p k →
    KRes n r (kas_place p k f l u) (fun m => m ≤ k ∧ (∀ i, i < m → r (p.getD i 0) < r (p.getD k 0)) ∧ ∀ i, m ≤ i → i < k → r (p.getD k 0) < r (p.getD i 0))
  | 0, l, u, h1, h2, h3, h4, h5, _ => ⟨by omega, h4, fun i hi hik => h5 i (by omega) hik⟩
  | f + 1, l, u, h1, h2, h3, h4, h5, ha => by
    unfold kas_place
    by_cases q : l ≥ u
    · rw [if_pos q]
      exact ⟨by omega, h4, fun i hi hik => h5 i (by omega) hik⟩
    · rw [if_neg q]
      refine ⟨P.lt _ (by omega), P.lt _ (by omega), ?_⟩
      by_cases c : r (p.getD k 0) < r (p.getD ((l + u) / 2) 0)
      · rw [decide_eq_true c]; dsimp only; rw [if_pos rfl]
        refine place_res P hk f l ((l + u) / 2) (by omega) (by omega) (by omega) h4 (fun i hi hik => ?_) ha
        by_cases e : i = (l + u) / 2
        · subst e; exact c
        · exact Nat.lt_trans c (ha _ i (by omega) hik)
      · rw [decide_eq_false c]; dsimp only; rw [if_neg (by decide)]
        have c2 : r (p.getD ((l + u) / 2) 0) < r (p.getD k 0) := by have := P.inj ((l + u) / 2) k (by omega) (by omega) (by omega); omega
        refine place_res P hk f ((l + u) / 2 + 1) u (by omega) (by omega) (by omega) (fun i hi => ?_) h5 ha
        by_cases e : i = (l + u) / 2
        · subst e; exact c2
        · exact Nat.lt_trans (ha i _ (by omega) (by omega)) c2
theorem bin_res {n : Nat} {r : Nat → Nat} (hr : ∀ i j, i < n → j < n → r i = r j → i = j) : ∀ (f k : Nat) (p : Array Nat), p.toList.Perm (List.range n) → k + f ≤ n → Asc r p k →
    KRes n r (kas_bin f p k) (fun q => q.toList.Perm (List.range n) ∧ Asc r q (k + f))
  | 0, k, p, hp, _, h => ⟨hp, h⟩
  | f + 1, k, p, hp, hk, h => by
    have P := pin_of hr hp
    unfold kas_bin
    refine KRes.bind (KRes.mono ?_ (place_res P (by omega : k < n) k 0 k (by omega) (by omega) (by omega) (fun i hi => by omega) (fun i h1 h2 => by omega) h))
    rintro l ⟨h1, h2, h3⟩
    have hp2 : (bubble p k (k - l)).toList.Perm (List.range n) := perm_list (bubble_perm _ _ _) hp
    have e : ∀ i, (bubble p k (k - l)).getD i 0 = if i = l then p.getD k 0 else if l < i ∧ i ≤ k then p.getD (i - 1) 0 else p.getD i 0 := fun i => by
      have e1 := getElem?_bubble (xs := p) (src := k) (by rw [P.sz]; omega) (k - l) (by omega) i
      have e2 : k - (k - l) = l := by omega
      rw [e2] at e1
      by_cases c1 : i = l
      · rw [if_pos c1] at e1 ⊢; exact getD_of e1
      · rw [if_neg c1] at e1 ⊢
        by_cases c2 : l < i ∧ i ≤ k
        · rw [if_pos c2] at e1 ⊢; exact getD_of e1
        · rw [if_neg c2] at e1 ⊢; exact getD_of e1
    have := bin_res hr f (k + 1) (bubble p k (k - l)) hp2 (by omega) fun i j hij hj => ?_
    · refine KRes.mono ?_ this
      rintro q ⟨a, b⟩
      exact ⟨a, by have e : k + 1 + f = k + (f + 1) := by omega
                   rw [← e]; exact b⟩
    · rw [e i, e j]
      by_cases c1 : i = l
      · rw [if_pos c1, if_neg (by omega), if_pos (by omega)]
        exact h3 _ (by omega) (by omega)
      · rw [if_neg c1]
        by_cases c2 : j = l
        · rw [if_pos c2, if_neg (by omega)]
          exact h2 _ (by omega)
        · rw [if_neg c2]
          by_cases c3 : l < i ∧ i ≤ k
          · rw [if_pos c3, if_pos (by omega)]
            exact h _ _ (by omega) (by omega)
          · rw [if_neg c3]
            by_cases c4 : l < j ∧ j ≤ k
            · rw [if_pos c4]
              exact h _ _ (by omega) (by omega)
            · rw [if_neg c4]
              exact h _ _ (by omega) (by omega)
theorem sort_res {n : Nat} {r : Nat → Nat} (hr : ∀ i j, i < n → j < n → r i = r j → i = j) (hn : 2 ≤ n) : KRes n r (kas_sort n) (fun q => q.toList.Perm (List.range n) ∧ Asc r q n) := by
  unfold kas_sort
  refine KRes.bind (KRes.mono ?_ (count_res hr hn _ (by simp)))
  rintro ⟨m, p⟩ ⟨h1, h2, h3, h4⟩
  dsimp only at h1 h2 h3 h4 ⊢
  by_cases q : m < n
  · rw [if_pos q]
    have e : max m 1 = m := by omega
    rw [e]
    refine KRes.mono ?_ (bin_res hr (n - m) m p h1 (by omega) h4)
    rintro q ⟨a, b⟩
    exact ⟨a, by have e : m + (n - m) = n := by omega
                 rw [e] at b; exact b⟩
  · rw [if_neg q]
    have e : m = n := by omega
    subst e
    exact ⟨h1, h4⟩
end Mine
end

section
set_option Elab.async false
set_option linter.unusedVariables false
set_option autoImplicit false
namespace Mine
noncomputable def lexI : List Int → List Int → Bool
  | [], ms => decide (0 < ms.length)
  | _ :: _, [] => false
  | a :: r, b :: t => if a = b then lexI r t else decide (a < b)
theorem lexAt_ints {A : Around} {s : Shared} : ∀ (xs ys : List Value) (ns ms : List Int), xs.map nv = ns.map In → ys.map nv = ms.map In → LexAt A s xs ys (lexI ns ms)
  | [], ys, [], ms, _, h => by
    have e : ms.length = ys.length := by have := congrArg List.length h; simpa using this.symm
    show LexAt A s [] ys (decide (0 < ms.length))
    rw [e]; exact .nilL
  | [], ys, _ :: _, ms, h, _ => by cases h
  | _ :: _, ys, [], ms, h, _ => by cases h
  | x :: xs, [], n :: ns, [], _, _ => .nilR
  | x :: xs, [], n :: ns, _ :: _, _, h => by cases h
  | x :: xs, y :: ys, n :: ns, [], _, h => by cases h
  | x :: xs, y :: ys, n :: ns, m :: ms, h1, h2 => by
    rw [List.map_cons, List.map_cons, List.cons.injEq] at h1 h2
    obtain ⟨t, rfl⟩ := nv_int h1.1
    obtain ⟨u, rfl⟩ := nv_int h2.1
    have hE := SeqAt.EqAt.int_int (A := A) (s := s) n t m u
    unfold lexI
    by_cases q : n = m
    · rw [if_pos q]
      have e : (n == m) = true := by simp [q]
      rw [e] at hE
      exact .eq hE (lexAt_ints xs ys ns ms h1.2 h2.2)
    · rw [if_neg q]
      have e : (n == m) = false := by simp [q]
      rw [e] at hE
      exact .ne hE (LtAt.int n t m u)
theorem intsAre_of : ∀ {xs : List Value} {ns : List Int}, xs.map nv = ns.map In → IntsAre xs ns
  | [], [], _ => .nil
  | [], _ :: _, h => by cases h
  | _ :: _, [], h => by cases h
  | x :: xs, n :: ns, h => by
    rw [List.map_cons, List.map_cons, List.cons.injEq] at h
    obtain ⟨t, rfl⟩ := nv_int h.1
    exact .cons n t (intsAre_of h.2)
theorem pair_lt {cx : Cx} {A : Around} {σ : CS} {s : Shared} {n : Nat} (room : Room A n) (R : Rep cx σ s) {a b f g : Addr} {i j : Int} {x y : List Int} (ha : Sees σ a (.list [.ref f, In i])) (hb : Sees σ b (.list [.ref g, In j]))
    (hf : Sees σ f (.list (x.map In))) (hg : Sees σ g (.list (y.map In))) {prog : Program} {w : World} {E : Value → Shared → Prop} {Q : Bool → Shared → Prop} (h : Q (if x = y then decide (i < j) else lexI x y) s) :
    wpAny (model prog w) A (keyLt' oneType' (.ref a) (.ref b)) Q E s := by
  obtain ⟨xs, hla, hx⟩ := (ha.get R).isList
  obtain ⟨ys, hlb, hy⟩ := (hb.get R).isList
  obtain ⟨x1, x2, rfl, e1, e2⟩ := map2 hx
  obtain ⟨y1, y2, rfl, e3, e4⟩ := map2 hy
  obtain rfl := nv_ref e1
  obtain ⟨t2, rfl⟩ := nv_int e2
  obtain rfl := nv_ref e3
  obtain ⟨t4, rfl⟩ := nv_int e4
  obtain ⟨fs, hlf, hfe⟩ := (hf.get R).isList
  obtain ⟨gs, hlg, hge⟩ := (hg.get R).isList
  have hu : A.units < cLine := by have := room.u; show A.units < 9900; omega
  have hu1 : A.in1.units < cLine := by have := room.u; show A.units + 1 < 9900; omega
  have hu2 : A.in1.units + 64 < cLine := by have := room.u; show A.units + 1 + 64 < 9900; omega
  refine keyLt_lists hla hlb hu ?_ h
  have hEq : SeqAt.EqAt A.in1 s (.ref f) (.ref g) (decide (x = y)) := keq_ints hlf (intsAre_of hfe) hlg (intsAre_of hge) hu2
  by_cases q : x = y
  · rw [decide_eq_true q] at hEq
    rw [if_pos q]
    have hI := SeqAt.EqAt.int_int (A := A.in1) (s := s) i t2 j t4
    refine .eq hEq ?_
    by_cases q2 : i = j
    · have e : (i == j) = true := by simp [q2]
      rw [e] at hI
      have e2 : decide (i < j) = decide (0 < ([] : List Value).length) := by subst q2; simp
      rw [e2]
      exact .eq hI .nilL
    · have e : (i == j) = false := by simp [q2]
      rw [e] at hI
      exact .ne hI (LtAt.int i t2 j t4)
  · rw [decide_eq_false q] at hEq
    rw [if_neg q]
    exact .ne hEq (LtAt.lists hlf hlg hu1 (lexAt_ints _ _ _ _ (by simpa using hfe) (by simpa using hge)))
noncomputable def allBut (h : Heap) (L : Addr) : List (Addr × Obj) := (List.range h.objs.size).filterMap fun b => if b = L then none else (h.get? b).map fun o => (b, o)
theorem mem_allBut {h : Heap} {L : Addr} {p : Addr × Obj} : p ∈ allBut h L ↔ h.get? p.1 = some p.2 ∧ p.1 ≠ L := by
  obtain ⟨b, o⟩ := p
  unfold allBut
  rw [List.mem_filterMap]
  constructor
  · rintro ⟨c, hc, e⟩
    by_cases q : c = L
    · rw [if_pos q] at e; cases e
    · rw [if_neg q] at e
      cases hg : h.get? c with
      | none => rw [hg] at e; cases e
      | some o' =>
        rw [hg] at e
        simp only [Option.map_some, Option.some.injEq, Prod.mk.injEq] at e
        obtain ⟨rfl, rfl⟩ := e
        exact ⟨hg, q⟩
  · rintro ⟨h1, h2⟩
    exact ⟨b, List.mem_range.mpr (Heap.lt_size h1), by rw [if_neg h2, h1]; rfl⟩
theorem Rep.big {cx : Cx} {S : List (Addr × CO)} {F : Fz} {s : Shared} {h' : Heap} {L a : Addr} {m : List (Str × Option Value)} {co : CO} (R : Rep cx ⟨S, F⟩ s) (hL : (L, CO.ns m) ∈ S) (k : Heap.ExtBut L s.heap h')
    (ho : ORel h' L (.ns m)) (hn : s.heap.get? a = none) (ha : ORel h' a co) (t : Tok) (ht : 0 < t) : Rep cx ⟨(a, co) :: S, F⟩ { s with heap := h', toks := t } := by
  have up : ∀ {S : List (Addr × CO)}, (L, CO.ns m) ∈ S → Up S L (.ns m) (.ns m) S := by
    intro S
    induction S with
    | nil => intro h; cases h
    | cons p r ih =>
      intro h
      rcases List.mem_cons.mp h with rfl | h
      · exact .head
      · exact .tail (ih h)
  have R' := R.upm (up hL) rfl k ho t ht
  refine ⟨R'.os, R'.gens, ht, ?_, ?_, ?_⟩
  · refine List.nodup_cons.mpr ⟨fun hm => ?_, R'.nodup⟩
    obtain ⟨p, hp, e⟩ := List.mem_map.mp hm
    obtain ⟨o, q⟩ := (R.at_ p hp).there
    rw [e, hn] at q; cases q
  · obtain ⟨B, f, e, n⟩ := R.fz
    have hLB : B.get? L = none := n _ hL
    refine ⟨B, f, fun b o q => k b o (fun z => by subst z; rw [hLB] at q; cases q) (e b o q), fun p hp => ?_⟩
    rcases List.mem_cons.mp hp with rfl | hp
    · cases q : B.get? a with
      | none => rfl
      | some o => have := e _ _ q; rw [hn] at this; cases this
    · exact n p hp
  · intro p hp
    rcases List.mem_cons.mp hp with rfl | hp
    · exact ha
    · exact R'.at_ p hp
theorem map_refs : ∀ {xs : List Value} {rs : List Addr}, xs.map nv = rs.map Value.ref → xs = rs.map Value.ref := by
  intro xs
  induction xs with
  | nil => intro rs h; cases rs with
    | nil => rfl
    | cons => cases h
  | cons x r ih => intro rs h; cases rs with
    | nil => cases h
    | cons y q =>
      rw [List.map_cons, List.map_cons, List.cons.injEq] at h
      rw [List.map_cons, ih h.2, nv_ref h.1]
theorem cal_sorted {cx : Cx} {A : Around} {S : List (Addr × CO)} {F : Fz} {Q : Value → CS → Prop} {k : Nat} (room : Room A (k + 2)) {l L : Addr} {m : List (Str × Option Value)} (hL : (L, CO.ns m) ∈ S) (as : List Addr) (fig : Nat → List Int) (r : Nat → Nat)
    (hl : Sees ⟨S, F⟩ l (.list (as.map .ref))) (h2 : 2 ≤ as.length) (h64 : as.length < 64)
    (hp : ∀ i, i < as.length → ∃ a f, as[i]? = some a ∧ Sees ⟨S, F⟩ a (.list [.ref f, In i]) ∧ Sees ⟨S, F⟩ f (.list ((fig i).map In)))
    (hr : ∀ i j, i < as.length → j < as.length → r i = r j → i = j)
    (hlt : ∀ i j, i < as.length → j < as.length → (if fig i = fig j then decide ((i : Int) < j) else lexI (fig i) (fig j)) = decide (r i < r j))
    (h : ∀ D (is : List Nat), is.Perm (List.range as.length) → (∀ i j, i < j → j < as.length → r (is.getD i 0) < r (is.getD j 0)) → Q (.ref D) ⟨(D, .list (is.map fun i => .ref (as.getD i 0))) :: S, F⟩) :
    Cal cx A (.builtin "sorted") [.ref l] Q ⟨S, F⟩ := fun vs' hv s R => by
  obtain ⟨x, rfl, ex⟩ := map1 hv
  obtain rfl := nv_ref ex
  obtain ⟨xs, hlx, hx⟩ := (hl.get R).isList
  obtain rfl := map_refs hx
  obtain ⟨hnd, m', hns, hmm⟩ := R.at_ _ hL
  have F0 : Fr ({} : Heap) L s.heap m' := ⟨hns, fun b o e => by simp [Heap.get?] at e, Nat.zero_le _⟩
  have N0 : News ({} : Heap) L s.heap (allBut s.heap L) := fun p hp => by
    have := mem_allBut.mp hp
    exact ⟨this.1, this.2, by simp [Heap.get?]⟩
  have keep : ∀ {h' : Heap} {pre : List (Addr × Obj)}, News ({} : Heap) L h' (pre ++ allBut s.heap L) → Heap.ExtBut L s.heap h' := fun {h' pre} N b o hne e => (N (b, o) (List.mem_append_right _ (mem_allBut.mpr ⟨e, hne⟩))).1
  have rep : ∀ {h' : Heap}, Heap.ExtBut L s.heap h' → h'.Ns L m' → ∀ D co, s.heap.get? D = none → ORel h' D co → Rep cx ⟨(D, co) :: S, F⟩ { s with heap := h' } := fun {h'} k n D co hD hco => by
    have := R.big hL k ⟨hnd, m', n, hmm⟩ hD hco s.toks R.pos
    exact this
  have hDn : ∀ D, (∀ q ∈ allBut s.heap L, q.1 < D) → D ≠ L → s.heap.get? D = none := fun D hq hne => by
    cases q : s.heap.get? D with
    | none => rfl
    | some o => exact absurd (hq (D, o) (mem_allBut.mpr ⟨q, hne⟩)) (Nat.lt_irrefl _)
  have room1 : Room A.in1.in1 k := (Room.in1 (Room.in1 room))
  refine kas_sorted (T := .type "list") F0 N0 hlx (by simpa using h2) (by simpa using h64) (fun h' F' N' v hv => ?_) (by decide) fun D e1 h' F' N' hlt' => ?_
  · obtain ⟨a, ha, rfl⟩ := List.mem_map.mp hv
    obtain ⟨i, hi, ei⟩ := List.getElem_of_mem ha
    obtain ⟨a', f, e1, hs, _⟩ := hp i hi
    have : a' = a := by rw [List.getElem?_eq_getElem hi] at e1; injection e1 with e1; rw [← e1, ei]
    subst this
    obtain ⟨zs, nn, hg, _⟩ := (hs.get R)
    have hne : a' ≠ L := fun z => by
      subst z
      obtain ⟨o, es, ep, q, d, _⟩ := hns
      rw [hg] at q; cases q; cases d
    have hg' : h'.get? a' = some (seqObj "list" zs nn) := (N' (a', _) (mem_allBut.mpr ⟨hg, hne⟩)).1
    exact (Looks.ld hg').andThen .now
  have hDL : D ≠ L := (N' (D, seqObj "list" #[] e1) (.head _)).2.1
  have hDnone := hDn D hlt' hDL
  have k1 : Heap.ExtBut L s.heap h' := keep (pre := [_]) N'
  have hDo : ORel h' D (.list []) := ⟨#[], e1, (N' (D, seqObj "list" #[] e1) (.head _)).1, rfl⟩
  have R1 : Rep cx ⟨(D, .list []) :: S, F⟩ { s with heap := h' } := rep k1 F'.ns D _ hDnone hDo
  have len : (as.map Value.ref).length = as.length := by simp
  rw [len]
  refine KRes.wp (n := as.length) (r := r) (fun i j C hi hj hc => ?_) (KRes.mono ?_ (sort_res hr h2))
  · unfold kas_ask
    obtain ⟨a, f, e1, hs, hf⟩ := hp i hi
    obtain ⟨b, g, e2, hs2, hg⟩ := hp j hj
    have g1 : (as.map Value.ref).getD i Value.none = .ref a := by simp [List.getD, e1]
    have g2 : (as.map Value.ref).getD j Value.none = .ref b := by simp [List.getD, e2]
    rw [g1, g2]
    have mono : ∀ {a : Addr} {co : CO}, Sees ⟨S, F⟩ a co → Sees ⟨(D, .list []) :: S, F⟩ a co := fun {a co} h => by
      cases h with
      | own h => exact .own (.tail _ h)
      | frozen h => exact .frozen h
    exact pair_lt room1 R1 (mono hs) (mono hs2) (mono hf) (mono hg) (by rw [hlt i j hi hj]; exact hc)
  · rintro p ⟨hp1, hp2⟩
    refine ⟨_, _, F', N', .head (fun q hq => Nat.ne_of_lt (hlt' q hq)), fun h'' c F'' N'' => ?_⟩
    have k2 : Heap.ExtBut L s.heap h'' := keep (pre := [_]) N''
    have hDo2 : ORel h'' D (.list (p.toList.map fun i => .ref (as.getD i 0))) := by
      refine ⟨_, c, (N'' (D, _) (.head _)).1, ?_⟩
      rw [List.map_map]
      refine List.map_congr_left fun i hi => ?_
      have hi' : i < as.length := List.mem_range.mp (hp1.mem_iff.mp hi)
      simp [List.getD, hi', nv]
    refine ⟨_, rep k2 F''.ns D _ hDnone hDo2, ?_⟩
    refine h D p.toList hp1 fun i j hij hj => ?_
    have := hp2 i j hij hj
    simpa [Array.getD_eq_getD_getElem?, List.getD] using this
end Mine
end

section
set_option Elab.async false
set_option linter.unusedVariables false
set_option autoImplicit false
namespace Mine
section
variable {cx : Cx} {A : Around} {σ : CS} {env : Env}
theorem iop_div_int {a b : Int} {Q : Value → CS → Prop} (hb : 0 < b) (hb2 : b < 1000000) (h : Q (In (a / b)) σ) : Op2 cx A (inplaceOp .FloorDiv) (In a) (In b) Q σ := fun v w hv hw s R => by
  obtain ⟨t, rfl⟩ := nv_int hv; obtain ⟨u, rfl⟩ := nv_int hw
  refine PySem.AutoIntOps.ifloordiv_1 (by simp; omega) (by rw [smallDiv hb hb2]; decide) ⟨σ, R.tok _ (Nat.succ_pos _), ?_⟩
  rw [Int.fdiv_eq_ediv_of_nonneg _ (Int.le_of_lt hb)]; exact h
noncomputable def Turns (σ σ' : CS) : Prop := ∀ (cx : Cx) (s : Shared), Rep cx σ s → Rep cx σ' s
theorem Turns.back {S' : List (Addr × CO)} {F' : Fz} (h : Back S' F' σ) : Turns σ ⟨S', F'⟩ := fun cx s R => by
  obtain ⟨S, F⟩ := σ
  exact R.weak h.1 h.2
theorem Turns.freeze {S S' : List (Addr × CO)} {F : Fz} {a : Addr} {co : CO} (d : Del S (a, co) S') (hc : co.isTab = false) : Turns ⟨S, F⟩ ⟨S', F.and (.obj a co)⟩ := fun cx s R => R.freeze d hc
theorem Turns.trans {σ₁ σ₂ σ₃ : CS} (h : Turns σ₁ σ₂) (k : Turns σ₂ σ₃) : Turns σ₁ σ₃ := fun cx s R => k cx s (h cx s R)
theorem cw_turn {α : Type} {t : Sem α} {Q Q' : α → CS → Prop} (h : CW cx A t Q σ) (k : ∀ v σ₁, Q v σ₁ → ∃ σ₂, Turns σ₁ σ₂ ∧ Q' v σ₂) : CW cx A t Q' σ := fun s R =>
  wpAny_mono (h s R) (fun v s' ⟨σ₁, R₁, q⟩ => let ⟨σ₂, t, q'⟩ := k v σ₁ q; ⟨σ₂, t cx s' R₁, q'⟩) fun _ _ x => x
theorem cw_pre {α : Type} {t : Sem α} {Q : α → CS → Prop} {σ' : CS} (h : Turns σ σ') (k : CW cx A t Q σ') : CW cx A t Q σ := fun s R => k s (h cx s R)
theorem cvT {t : Sem Value} {Q Q' : Value → CS → Prop} (h : CV cx A t Q σ) (k : ∀ v σ₁, Q v σ₁ → ∃ σ₂, Turns σ₁ σ₂ ∧ Q' v σ₂) : CV cx A t Q' σ := cw_turn h fun v σ₁ q => k _ σ₁ q
theorem cfT {t : Sem Flow} {Q Q' : Flow → CS → Prop} (h : CF cx A t Q σ) (k : ∀ v σ₁, Q v σ₁ → ∃ σ₂, Turns σ₁ σ₂ ∧ Q' v σ₂) : CF cx A t Q' σ := cw_turn h fun v σ₁ q => k _ σ₁ q
theorem gen_body {scope : Scope} {cl : List (Str × Addr)} {elt iter : Expr} {x : Str} {px : Pos} {ifs : List Expr} {src : Src} {K : Addr → Addr → CS → Prop} {it : Addr} {S : List (Addr × CO)} {F : Fz}
    (Inv : Nat → List Value → Fz → Prop) (hc : scope.names.all (fun x => !(x.2 == .cell)) = true) (hkind : scope.kind = .function) (hx : scope.names.lookup x = some .local) (hsz : src.items.length ≤ 100000) (h0 : Inv 0 [] F)
    (hP : ∀ S' F', Fz.Le F' F → (∀ p ∈ S, p ∈ S') → src.P ⟨S', F'⟩)
    (body : ∀ (C acc : Addr) (k : Nat) (v : Value) (ys : List Value) (F' : Fz), Fz.Le F' F → Inv k ys F' → ys.length ≤ k → src.items[k]? = some v →
      Tests cx A (compEnvC scope cl C env) ifs (fun ok σ₂ => if ok then CV cx A (eval elt (compEnvC scope cl C env)) (fun y σ₃ => ∃ F'', Fz.Le F'' F' ∧ Inv (k + 1) (ys ++ [y]) F'' ∧ Turns σ₃ ⟨(it, .iter (src.k (k + 1))) :: (C, .ns [(x, some v)]) :: (acc, .list ys) :: S, F''⟩) σ₂
        else Inv (k + 1) ys F' ∧ Turns σ₂ ⟨(it, .iter (src.k (k + 1))) :: (C, .ns [(x, some v)]) :: (acc, .list ys) :: S, F'⟩) ⟨(it, .iter (src.k (k + 1))) :: (C, .ns [(x, some v)]) :: (acc, .list ys) :: S, F'⟩)
    (hK : ∀ acc C o ys F', Fz.Le F' F → Inv src.items.length ys F' → ys.length ≤ src.items.length → K acc C ⟨(C, .ns [(x, o)]) :: (acc, .list ys) :: S, F'⟩) :
    CompBody cx A env scope cl elt (.Name x px) iter ifs src [x] K it S F := fun acc C => by
  refine cells_none hc ⟨fun k S' F' => Fz.Le F' F ∧ ∃ o ys, Inv k ys F' ∧ ys.length ≤ k ∧ S' = (C, .ns [(x, o)]) :: (acc, .list ys) :: S, ?_, ?_, ?_, ?_⟩
  · refine ⟨_, F, ?_, fun _ x => x, fun _ x => x, none, [], h0, Nat.le_refl _, rfl⟩
    exact .cons (.tail (.tail .head)) (.refl _)
  · rintro k S' F' ⟨hle, o, ys, hI, hy, rfl⟩
    exact hP _ _ hle fun p hp => .tail _ (.tail _ (.tail _ hp))
  · rintro k S' F' v ⟨hle, o, ys, hI, hy, rfl⟩ hi v' hv
    have hk : (compEnvC scope cl C env).kindOf x = some .local := lookup_relabel_local hx
    refine cu_assign_name hv (store_local (m := [(x, o)]) (m' := [(x, some v)]) ?_ .head (.tail .head) rfl (by simpa [compEnvC, relabel] using hkind) hk)
    have hkl : k < src.items.length := (List.getElem?_eq_some_iff.mp hi).1
    refine cw_turn (body C acc k v _ _ hle hI hy hi) fun b σ₂ h₂ => ?_
    cases b with
    | true =>
      simp only [if_true] at h₂ ⊢
      refine ⟨σ₂, fun _ _ x => x, ?_⟩
      refine CW.mono h₂ fun y σ₃ ⟨F'', hf, hI', ht⟩ => ?_
      intro vs' hvs
      refine cw_pre ht ?_
      have ha := cal_append (cx := cx) (A := A) (F := F'') (S := (it, .iter (src.k (k + 1))) :: (C, .ns [(x, some v)]) :: (acc, .list ys) :: S) (a := acc) (vs := ys) (v := nv y)
        (Q := fun _ σ₄ => LoopEnd it (src.k (k + 1)) (fun S' F' => Fz.Le F' F ∧ ∃ o ys, Inv (k + 1) ys F' ∧ ys.length ≤ k + 1 ∧ S' = (C, .ns [(x, o)]) :: (acc, .list ys) :: S) σ₄) ?_ (.tail (.tail .head)) (by omega) vs' hvs
      · exact ha
      · exact ⟨_, _, .refl _, fun _ x => x, fun h y => hle h (hf h y), _, _, hI', by simp; omega, rfl⟩
    | false =>
      simp only [Bool.false_eq_true, if_false] at h₂ ⊢
      exact ⟨_, h₂.2, _, _, .refl _, fun _ x => x, hle, _, _, h₂.1, by omega, rfl⟩
  · rintro S' F' ⟨hle, o, ys, hI, hy, rfl⟩
    exact hK acc C o ys F' hle hI hy
theorem cell_loop {cenv : Env} {elt iter : Expr} {x : Str} {px : Pos} {ifs : List Expr} {src : Src} {K : CS → Prop} {it acc C c : Addr} {S : List (Addr × CO)} {F : Fz}
    (Inv : Nat → List Value → Prop) (hxc : cenv.cells.lookup x = some c) (hkc : cenv.scope.kind = .function) (hoc : cenv.kindOf x = some .cell) (hsz : src.items.length ≤ 100000) (h0 : Inv 0 [])
    (hP : ∀ S', (∀ p ∈ S, p ∈ S') → src.P ⟨S', F⟩)
    (body : ∀ (k : Nat) (v : Value) (ys : List Value), Inv k ys → ys.length ≤ k → src.items[k]? = some v →
      Tests cx A cenv ifs (fun ok σ₂ => if ok then CV cx A (eval elt cenv) (fun y σ₃ => Inv (k + 1) (ys ++ [y]) ∧ Back ((it, .iter (src.k (k + 1))) :: (c, .cell (some v)) :: (C, .ns []) :: (acc, .list ys) :: S) F σ₃) σ₂
        else Inv (k + 1) ys ∧ Back ((it, .iter (src.k (k + 1))) :: (c, .cell (some v)) :: (C, .ns []) :: (acc, .list ys) :: S) F σ₂) ⟨(it, .iter (src.k (k + 1))) :: (c, .cell (some v)) :: (C, .ns []) :: (acc, .list ys) :: S, F⟩)
    (hK : ∀ o ys, Inv src.items.length ys → ys.length ≤ src.items.length → K ⟨(c, .cell o) :: (C, .ns []) :: (acc, .list ys) :: S, F⟩) :
    ∃ J, CompLoop cx A cenv elt (.Name x px) iter ifs src it acc J K ⟨(c, .cell none) :: (C, .ns []) :: (acc, .list []) :: (it, .iter (src.k 0)) :: S, F⟩ := by
  refine ⟨fun k S' F' => F' = F ∧ ∃ o ys, Inv k ys ∧ ys.length ≤ k ∧ S' = (c, .cell o) :: (C, .ns []) :: (acc, .list ys) :: S, ?_, ?_, ?_, ?_⟩
  · refine ⟨_, F, ?_, fun _ x => x, rfl, none, [], h0, Nat.le_refl _, rfl⟩
    exact .cons (.tail (.tail (.tail .head))) (.refl _)
  · rintro k S' F' ⟨rfl, o, ys, hI, hy, rfl⟩
    exact hP _ fun p hp => .tail _ (.tail _ (.tail _ (.tail _ hp)))
  · rintro k S' F' v ⟨rfl, o, ys, hI, hy, rfl⟩ hi v' hv
    refine cu_assign_name hv (store_cell ?_ (.tail .head) hxc hkc hoc)
    have hkl : k < src.items.length := (List.getElem?_eq_some_iff.mp hi).1
    refine CW.mono (body k v _ hI hy hi) fun b σ₂ h₂ => ?_
    cases b with
    | true =>
      simp only [if_true] at h₂ ⊢
      refine CW.mono h₂ fun y σ₃ ⟨hI', ht⟩ => ?_
      intro vs' hvs
      refine cw_pre (Turns.back ht) ?_
      have ha := cal_append (cx := cx) (A := A) (F := F') (S := (it, .iter (src.k (k + 1))) :: (c, .cell (some v)) :: (C, .ns []) :: (acc, .list ys) :: S) (a := acc) (vs := ys) (v := nv y)
        (Q := fun _ σ₄ => LoopEnd it (src.k (k + 1)) (fun S' F'' => F'' = F' ∧ ∃ o ys, Inv (k + 1) ys ∧ ys.length ≤ k + 1 ∧ S' = (c, .cell o) :: (C, .ns []) :: (acc, .list ys) :: S) σ₄) ?_ (.tail (.tail (.tail .head))) (by omega) vs' hvs
      · exact ha
      · exact ⟨_, _, .refl _, fun _ x => x, rfl, _, _, hI', by simp; omega, rfl⟩
    | false =>
      simp only [Bool.false_eq_true, if_false] at h₂ ⊢
      exact ⟨_, _, h₂.2.1, h₂.2.2, rfl, _, _, h₂.1, by omega, rfl⟩
  · rintro S' F' ⟨rfl, o, ys, hI, hy, rfl⟩
    exact hK o ys hI hy
end
end Mine
end

section
set_option Elab.async false
set_option linter.unusedVariables false
set_option autoImplicit false
namespace Mine
section
variable {cx : Cx} {A : Around} {σ : CS} {env : Env}
theorem comp_run2 {elt target iter : Expr} {ifs : List Expr} {scope : Scope} {pos : Pos} {cl : List (Str × Addr)} (xs : List Str) {use : Option (Value → Sem Unit)} {K : Addr → Addr → CS → Prop} {Q : Value → Shared → Prop} {s : Shared}
    (hx : xs.Nodup) (hh : A.handled = none) (hclos : closureFor scope env = pure cl) (hkind : scope.kind = .function) (hnames : ∀ x ∈ scope.names, x.2 = .local → scope.names.lookup x.1 = some .local)
    (hs : ∀ x, foldedSetIterable iter env x = pure x) (ht : ∀ it v, letOwnedTupleGo target it v = pure ())
    (h : CV cx A (eval iter env) (fun x σ₁ => ∃ src, SrcOk cx src ∧ Iter cx A x src (CompBody cx A env scope cl elt target iter ifs src xs K) σ₁) σ) (R : Rep cx σ s)
    (hK : ∀ acc C σ' s', Rep cx σ' s' → K acc C σ' → compPost (model cx.prog cx.w) A (fun _ _ => False) use Q (.ref acc) C (.ok .next) s') :
    wpAny (model cx.prog cx.w) A (comprehension (.ListComp elt [⟨target, iter, ifs, 0⟩] scope pos) scope env (firstIterPos [⟨target, iter, ifs, 0⟩] pos) (newList []) false (eval iter env) use) Q (fun _ _ => False) s := by
  refine wpAny_comprehension_free rfl hs hclos hkind hnames (wpAny_mono (h s R) (fun x s₁ ⟨σ₁, R₁, src, ok, h₁⟩ => wpAny_mono (Q := fun itv s₂ => ∃ src, SrcOk cx src ∧ ∃ it S F, itv = .ref it ∧ Rep cx ⟨(it, .iter (src.k 0)) :: S, F⟩ s₂ ∧ CompBody cx A env scope cl elt target iter ifs src xs K it S F) (wpAny_mono (h₁ x s₁ rfl R₁) (fun _ _ q => ⟨src, ok, q⟩) fun _ _ x => x) (fun itv s₂ h₂ => ?_) fun _ _ x => x) fun _ _ x => x)
  obtain ⟨src, ok, it, S, F, rfl, R₂, hB⟩ := h₂
  refine wpAny_newObj_type ?_
  have R₃ := R₂.push (o := { cls := .type "list", dict := none, data := .seq ([] : List Value).toArray }) (co := .list []) ⟨#[], _, Heap.get?_push_size _ rfl, rfl⟩ s₂.toks R₂.pos
  refine wpAny_mono (new_env (A := A) (binds := []) (Q := fun cenv σ₁ => ∃ C cells J, cenv = newEnv scope C env.globals cells env.qual none .none (some env) builtinsNs ∧ CompLoop cx A (compEnvC scope cells C env) elt target iter ifs src it s₂.heap.objs.size J (K s₂.heap.objs.size C) σ₁) R₃ xs hx (fun L => ?_)) (fun cenv s₄ h₄ => ?_) fun _ _ x => x
  · have := hB s₂.heap.objs.size L
    have mono : ∀ {names acc} {K K' : List (Str × Addr) → CS → Prop} {σ}, (∀ cs σ, K cs σ → K' cs σ) → Cells names acc K σ → Cells names acc K' σ := by
      intro names
      induction names with
      | nil => intro acc K K' σ hk h; exact hk _ _ h
      | cons x r ih =>
        intro acc K K' σ hk h
        obtain ⟨n, k⟩ := x
        unfold Cells at h ⊢
        split
        · rename_i q; rw [if_pos q] at h; exact fun c => ih hk (h c)
        · rename_i q; rw [if_neg q] at h; exact ih hk h
    exact mono (fun cells σ₁ ⟨J, h⟩ => ⟨L, cells, J, rfl, h⟩) this
  · obtain ⟨σ₄, R₄, C, cells, J, rfl, hL⟩ := h₄
    exact codeAny_mono (compLoop_run (R := fun r s' => match r with
      | .ok .next => compPost (model cx.prog cx.w) A (fun _ _ => False) use Q (.ref s₂.heap.objs.size) C (.ok .next) s'
      | _ => False) ok hh hL R₄ (fun σ' s' R' k => hK _ _ _ _ R' k) (ht _)) fun r s' hr => by
        rcases r with x | f
        · exact hr.elim
        · cases f with
          | next => exact hr
          | _ => exact hr.elim

theorem cv_listcomp2 {elt target iter : Expr} {ifs : List Expr} {scope : Scope} {pos : Pos} {cl : List (Str × Addr)} {Q : Value → CS → Prop} (xs : List Str)
    (h : CV cx A (eval iter env) (fun x σ₁ => ∃ src, SrcOk cx src ∧ Iter cx A x src (CompBody cx A env scope cl elt target iter ifs src xs (fun acc C => DropNs C (fun σ₂ => Q (.ref acc) σ₂))) σ₁) σ)
    (hx : xs.Nodup) (hh : A.handled = none) (hclos : closureFor scope env = pure cl) (hkind : scope.kind = .function) (hnames : ∀ x ∈ scope.names, x.2 = .local → scope.names.lookup x.1 = some .local)
    (hs : ∀ x, foldedSetIterable iter env x = pure x) (ht : ∀ it v, letOwnedTupleGo target it v = pure ()) :
    CV cx A (eval (.ListComp elt [⟨target, iter, ifs, 0⟩] scope pos) env) Q σ := fun s R => by
  rw [eval_ListComp]
  exact comp_run2 xs (use := none) hx hh hclos hkind hnames hs ht h R fun acc C σ' s' R' k => dropNs k R'
theorem cf_assign_comp2 {x : Str} {pos' spos : Pos} {elt target iter : Expr} {ifs : List Expr} {scope : Scope} {pos : Pos} {cl : List (Str × Addr)} {Q : Flow → CS → Prop} (xs : List Str)
    (h : CV cx A (eval iter env) (fun x' σ₁ => ∃ src, SrcOk cx src ∧ Iter cx A x' src (CompBody cx A env scope cl elt target iter ifs src xs (fun acc C σ₂ => Store cx A env x (.ref acc) (fun σ₃ => DropNs C (fun σ₄ => Q .next σ₄) σ₃) σ₂)) σ₁) σ)
    (hsw : swapsWith (.ListComp elt [⟨target, iter, ifs, 0⟩] scope pos) (some (.Name x pos')) spos.line env = pure true)
    (hx : xs.Nodup) (hh : A.handled = none) (hclos : closureFor scope env = pure cl) (hkind : scope.kind = .function) (hnames : ∀ x ∈ scope.names, x.2 = .local → scope.names.lookup x.1 = some .local)
    (hs : ∀ x, foldedSetIterable iter env x = pure x) (ht : ∀ it v, letOwnedTupleGo target it v = pure ()) :
    CF cx A (exec (.Assign [.Name x pos'] (.ListComp elt [⟨target, iter, ifs, 0⟩] scope pos) spos) env) Q σ := fun s R => by
  rw [exec_Assign_Name_used _ _ _ _ hsw]
  refine wpAny_bind (wpAny_standAt (wpAny_bind ?_))
  show wpAny _ A (do let _ ← comprehension (.ListComp elt [⟨target, iter, ifs, 0⟩] scope pos) scope env _ (newList []) false (eval iter env) (some (assign (.Name x pos') env))) _ _ s
  refine wpAny_bind (wpAny_mono (comp_run2 xs (use := some (assign (.Name x pos') env)) (Q := fun _ s' => ∃ σ', Rep cx σ' s' ∧ Q .next σ') hx hh hclos hkind hnames hs ht h R fun acc C σ' s' R' k => ?_) (fun _ s' hq => wpAny_pure (wpAny_pure hq)) fun _ _ e => e)
  exact wpAny_assign_Name (wpAny_mono (k (.ref acc) rfl s' R') (fun _ s₂ ⟨σ₂, R₂, h₂⟩ => dropNs h₂ R₂) fun _ _ x => x)
theorem cf_for2 {target iter : Expr} {body orelse : List Stmt} {pos : Pos} {Q : Flow → CS → Prop} (items : List Value) (J : Src → Nat → List (Addr × CO) → Fz → Prop) (hh : A.handled = none)
    (h : CV cx A (eval iter env) (fun x σ₁ => ∃ src, SrcOk cx src ∧ src.items = items ∧ Iter cx A x src (fun _ S F => J src 0 S F) σ₁) σ)
    (hP : ∀ src k it S F, J src k S F → src.P ⟨(it, .iter (src.k k)) :: S, F⟩)
    (turn : ∀ src k it S F v, J src k S F → items[k]? = some v → ∀ v', nv v' = v → CU cx A (assign target env v') (fun σ₁ => CF cx A (execs body env) (fun f σ₂ => match f with
        | .next | .cont => LoopEnd it (src.k (k + 1)) (J src (k + 1)) σ₂
        | .brk => Q .next σ₂
        | .ret v => Q (.ret v) σ₂) σ₁) ⟨(it, .iter (src.k (k + 1))) :: S, F⟩)
    (fin : ∀ src S F, J src items.length S F → CF cx A (execs orelse env) Q ⟨S, F⟩)
    (hs : ∀ x, foldedSetIterable iter env x = pure x) (ht : ∀ it v, letOwnedTupleGo target it v = pure ()) :
    CF cx A (exec (.For target iter body orelse pos) env) Q σ := fun s R => by
  refine wpAny_For (wpAny_mono (h s R) (fun x s₁ ⟨σ₁, R₁, src, ok, he, h₁⟩ => wpAny_mono (Q := fun itv s₂ => ∃ src, SrcOk cx src ∧ src.items = items ∧ ∃ it S F, itv = .ref it ∧ Rep cx ⟨(it, .iter (src.k 0)) :: S, F⟩ s₂ ∧ J src 0 S F) (wpAny_mono (h₁ x s₁ rfl R₁) (fun _ _ q => ⟨src, ok, he, q⟩) fun _ _ x => x) (fun itv s₂ h₂ => ?_) fun _ _ x => x) fun _ _ x => x) hs
  obtain ⟨src, ok, rfl, it, S, F, rfl, R₂, hJ⟩ := h₂
  refine codeAny_forLoop (fun n s => ∃ k S F, n = src.items.length - k ∧ k ≤ src.items.length ∧ Rep cx ⟨(it, .iter (src.k k)) :: S, F⟩ s ∧ J src k S F) ?_ src.items.length ⟨0, S, F, rfl, Nat.zero_le _, R₂, hJ⟩ (fun v => ht _ v)
  rintro n s ⟨k, S, F, rfl, hk, R, hJ⟩
  rcases Nat.lt_or_ge k src.items.length with hlt | hge
  · have hi : src.items[k]? = some src.items[k] := List.getElem?_eq_getElem hlt
    refine wpAny_mono (ok.item (hP src k it S F hJ) R hi) (fun r s₁ h₁ => ?_) fun _ _ x => x.elim
    obtain ⟨w, rfl, e, R₁⟩ := h₁
    refine wpAny_mono (turn src k it S F _ hJ hi w e s₁ R₁) (fun _ s₂ ⟨σ₂, R₂, h₂⟩ => ?_) fun _ _ x => x.elim
    refine wpAny_mono (h₂ s₂ R₂) (fun f s₃ ⟨σ₃, R₃, h₃⟩ => ?_) fun _ _ x => x.elim
    have again : LoopEnd it (src.k (k + 1)) (J src (k + 1)) σ₃ → ∃ m, m < src.items.length - k ∧ ∃ k S F, m = src.items.length - k ∧ k ≤ src.items.length ∧ Rep cx ⟨(it, .iter (src.k k)) :: S, F⟩ s₃ ∧ J src k S F := by
      rintro ⟨S', F', hp, hf, hj⟩
      exact ⟨src.items.length - (k + 1), by omega, k + 1, S', F', rfl, hlt, R₃.weak hp hf, hj⟩
    cases f with
    | next => exact again h₃
    | cont => exact again h₃
    | brk => exact ⟨σ₃, R₃, h₃⟩
    | ret v => exact ⟨σ₃, R₃, h₃⟩
  · obtain rfl : k = src.items.length := Nat.le_antisymm hk hge
    refine wpAny_mono (ok.fin hh (hP _ _ it S F hJ) R (List.getElem?_eq_none (Nat.le_refl _))) (fun r s₁ h₁ => ?_) fun _ _ x => x.elim
    obtain ⟨rfl, R₁⟩ := h₁
    exact wpAny_mono (fin src S F hJ s₁ R₁) (fun f s₂ ⟨σ₂, R₂, h₂⟩ => ⟨σ₂, R₂, h₂⟩) fun _ _ x => x.elim
end
end Mine
end

section
set_option Elab.async false
set_option linter.unusedVariables false
set_option autoImplicit false
namespace Mine
noncomputable def Rep0 (cx : Cx) (σ : CS) (s : Shared) : Prop := Rep cx σ { s with toks := s.toks + 1 }
noncomputable def CWu (cx : Cx) (A : Around) {α : Type} (t : Sem α) (Q : α → CS → Prop) (σ : CS) : Prop :=
  ∀ s, Rep0 cx σ s → wpAny (model cx.prog cx.w) A t (fun v s' => ∃ σ', Rep cx σ' s' ∧ Q v σ') (fun _ _ => False) s
noncomputable def CVu (cx : Cx) (A : Around) (t : Sem Value) (Q : Value → CS → Prop) (σ : CS) : Prop := CWu cx A t (fun v σ' => Q (nv v) σ') σ
noncomputable def CFu (cx : Cx) (A : Around) (t : Sem Flow) (Q : Flow → CS → Prop) (σ : CS) : Prop := CWu cx A t (fun f σ' => Q (nf f) σ') σ
noncomputable def CU0 (cx : Cx) (A : Around) (t : Sem Unit) (Q : CS → Prop) (σ : CS) : Prop :=
  ∀ s, Rep0 cx σ s → wpAny (model cx.prog cx.w) A t (fun _ s' => ∃ σ', Rep0 cx σ' s' ∧ Q σ') (fun _ _ => False) s
section
variable {cx : Cx} {A : Around} {σ : CS} {env : Env}
noncomputable def Binds0 (cx : Cx) (A : Around) (env : Env) : List (Str × Value) → (CS → Prop) → CS → Prop
  | [], K, σ => K σ
  | (n, v) :: r, K, σ => ∀ v', nv v' = v → CU0 cx A (storeName env n v') (fun σ₁ => Binds0 cx A env r K σ₁) σ
theorem store_local0 {x : Str} {v v' : Value} {L : Addr} {m m' : List (Str × Option Value)} {o : Option Value} {S S' : List (Addr × CO)} {F : Fz} {Q : CS → Prop} (hv : nv v' = v) (h : Q ⟨S', F⟩)
    (hm : Up m x o (some v) m') (hS : Up S L (.ns m) (.ns m') S') (hl : env.locals = L) (hk : env.scope.kind = .function) (ho : env.kindOf x = some .local) :
    CU0 cx A (storeName env x v') Q ⟨S, F⟩ := fun s R => by
  obtain ⟨hn, m₁, hns, hmm⟩ := Rep.at_ R _ hS.old
  refine wpAny_storeName_local ho (hl ▸ hns) (fun h' hns' hsb => ?_) (by rw [hk]; rfl)
  subst hl
  refine ⟨⟨S', F⟩, Rep.upm R hS rfl hsb.extBut ⟨by rw [hm.keys]; exact hn, _, hns', fun p hp => ?_⟩ _ (Nat.succ_pos _), h⟩
  rcases hm.mem hn p hp with rfl | ⟨hp, hne⟩
  · simp [hv]
  · rw [if_neg hne]; exact hmm p hp
theorem binds_run0 {M : List (Str × Value)} : ∀ {K : CS → Prop} {σ : CS} {s : Shared} {P : Unit → Shared → Prop}, Binds0 cx A env (M.map fun p => (p.1, nv p.2)) K σ → Rep0 cx σ s → (∀ σ' s', Rep0 cx σ' s' → K σ' → P () s') →
    wpAny (model cx.prog cx.w) A (forIn M PUnit.unit fun x _ => do storeName env x.1 x.2; pure (ForInStep.yield PUnit.unit)) P (fun _ _ => False) s := by
  induction M with
  | nil => intro K σ s P h R hP; simp only [List.forIn_nil]; exact wpAny_pure (hP _ _ R h)
  | cons x r ih =>
    intro K σ s P h R hP
    simp only [List.forIn_cons]
    refine wpAny_bind (wpAny_bind (wpAny_mono (h x.2 rfl s R) (fun _ s₁ ⟨σ₁, R₁, h₁⟩ => wpAny_pure ?_) fun _ _ x => x))
    exact ih h₁ R₁ hP
theorem cells_run0 {names : List (Str × NameKind)} : ∀ {acc : List (Str × Addr)} {K : List (Str × Addr) → CS → Prop} {σ : CS} {s : Shared} {P : List (Str × Addr) → Shared → Prop}, Cells names acc K σ → Rep0 cx σ s → (∀ cs σ' s', Rep0 cx σ' s' → K cs σ' → P cs s') →
    wpAny (model cx.prog cx.w) A (forIn names acc fun x r => if x.2 == NameKind.cell then do let c ← alloc { cls := .type "cell", data := .cell none }; pure (ForInStep.yield ((x.1, c) :: r)) else pure (ForInStep.yield r)) P (fun _ _ => False) s := by
  induction names with
  | nil => intro acc K σ s P h R hP; simp only [List.forIn_nil]; exact wpAny_pure (hP _ _ _ R h)
  | cons x r ih =>
    intro acc K σ s P h R hP
    obtain ⟨n, k⟩ := x
    unfold Cells at h
    simp only [List.forIn_cons]
    cases hk : (k == NameKind.cell) with
    | true =>
      rw [hk] at h
      simp only [if_true] at h ⊢
      refine wpAny_bind (wpAny_bind (wpAny_alloc (wpAny_pure ?_)))
      exact ih (h _) (Rep.push R (co := .cell none) ⟨none, ⟨_, Heap.get?_push_size _ rfl, rfl⟩, rfl⟩ (s.toks + 1) (Nat.succ_pos _)) hP
    | false =>
      rw [hk] at h
      simp only [Bool.false_eq_true, if_false] at h ⊢
      exact wpAny_bind (wpAny_pure (ih h R hP))
theorem call_KC0 {K : Frag} {p : Program} {loose : List Str} {a : Addr} {o : Obj} {fd : FuncData} {body : List Stmt} {vs vs' : List Value} {S : List (Addr × CO)} {F : Fz} {Q : Value → CS → Prop} {n : Nat} (names xs : List Str)
    (hv : vs'.map nv = vs)
    (hF : Fz.Le F (Fz.top p loose K)) (hK : K.lookup a = some o) (ho : o.data = .func fd) (hc : codeIn K fd.code fd.qualname = true) (hbody : fd.body = .stmts body) (room : Room A (n + 1))
    (hb : ∀ vs' : List Value, vs'.length = vs.length → bindArgs fd ⟨vs', []⟩ = pure (names.zip vs')) (hx : xs.Nodup)
    (hco : fd.scope.isCoroutine = false) (hgen : fd.scope.isGenerator = false)
    (h : ∀ L, Cells fd.scope.names fd.closure (fun cells σ₁ => ∀ A₁ A', Room A' n → Binds0 cx A₁ (newEnv fd.scope L fd.globals cells (fd.qualname ++ ".<locals>.") (some a) fd.code none fd.builtins) (names.zip vs) (fun σ₂ =>
        Fz.Le σ₂.F (Fz.top p loose K) ∧ CFu cx A' (execs body (newEnv fd.scope L fd.globals cells (fd.qualname ++ ".<locals>.") (some a) fd.code none fd.builtins)) (fun f σ₃ => Q (match f with | .ret v => v | _ => .none) σ₃) σ₂) σ₁) ⟨(L, .ns (nones xs)) :: S, F⟩) :
    CVu cx A (call (.ref a) vs') Q ⟨S, F⟩ := fun s R => by
  obtain ⟨hlim, hcd, o', ho', hfd⟩ := fn_of hF hK ho hc R
  refine wpAny_call (codeAny_call_function (by have := room.d; show A.depth < 1000; omega) ho' hfd hco hgen hbody hcd ?_)
  rw [hb vs' (by rw [← hv, List.length_map])]
  refine wpAny_pure ?_
  have hz : (names.zip vs').map (fun p => (p.1, nv p.2)) = names.zip vs := by
    rw [← hv, List.zip_map_right]; rfl
  simp only [newFunctionEnv, Option.isSome_none, Bool.false_eq_true, if_false]
  refine wpAny_bind (wpAny_alloc ?_)
  have R₁ := Rep.push R (o := { cls := .type "frame", data := .dict #[] }) (nones_rel hx (Heap.Ns.new ..)) (s.toks + 1) (Nat.succ_pos _)
  have h2 := h s.heap.objs.size
  simp only [newEnv] at h2
  refine wpAny_bind (cells_run0 h2 R₁ fun cs σ' s' R' h' => ?_)
  have h3 := h' A.in1 (A.deeper (newEnv fd.scope s.heap.objs.size fd.globals cs (fd.qualname ++ ".<locals>.") (some a) fd.code none fd.builtins)) room.deeper
  rw [← hz] at h3
  refine wpAny_bind (binds_run0 h3 R' fun σ₂ s₂ R₂ h₂ => wpAny_pure ?_)
  obtain ⟨X, mg, mb, T⟩ := top_at h₂.1 R₂
  refine ⟨T.nolimit, codeAny_func (wpAny_mono (h₂.2 s₂ R₂) (fun f s₃ ⟨σ₃, R₃, h₃⟩ => ?_) fun _ _ x => x.elim)⟩
  refine ⟨σ₃, R₃, ?_⟩
  cases f <;> exact h₃
theorem cfu_cons {st : Stmt} {rest : List Stmt} {Q : Flow → CS → Prop} (h : CFu cx A (exec st env) (Then cx A rest env Q) σ) : CFu cx A (execs (st :: rest) env) Q σ := fun s R =>
  wpAny_execs_cons (wpAny_mono (h s R) (fun f _ ⟨σ₁, R₁, h₁⟩ => by
    cases f with
    | next => exact h₁ _ R₁
    | _ => exact ⟨σ₁, R₁, h₁⟩) fun _ _ x => x)
theorem cfu_cutP {t : Sem Flow} {Q : Flow → CS → Prop} (P : CS → Prop) (h1 : CFu cx A t (fun f σ₁ => f = .next ∧ P σ₁) σ) (h2 : ∀ σ₁, P σ₁ → Q .next σ₁) : CFu cx A t Q σ := fun s R =>
  wpAny_mono (h1 s R) (fun f s' ⟨σ₁, R₁, e, q⟩ => ⟨σ₁, R₁, by show Q (nf f) σ₁; rw [e]; exact h2 σ₁ q⟩) fun _ _ x => x
theorem cvu_slice {x : Str} {xpos p pos cpos : Pos} {i : Int} {k : Nat} {L : Addr} {m : List (Str × Option Value)} {v : Value} {Q : Value → CS → Prop} (h : Cut cx A (.Name x xpos) v .none (In i) Q σ)
    (hL : (L, CO.ns m) ∈ σ.S) (hx : (x, some v) ∈ m) (hl : env.locals = L) (hk : env.scope.kind = .function) (ho : env.kindOf x = some .local) (hd : (x == ("__debug__" : Str)) = false) :
    CVu cx A (eval (.Subscript (.Name x xpos) (.Slice none (some (.Constant (.int i) k cpos)) none p) pos) env) Q σ := fun s R => by
  obtain ⟨_, m', hn, hm⟩ := Rep.at_ R _ hL
  have e := hm _ hx
  obtain ⟨v', e1, e2⟩ := Option.map_eq_some_iff.mp e
  refine PyProof.Rows.Subscript_ (wpAny_Name (wpAny_loadName_local hk ho (hl ▸ hn) e1 ?_) hd)
  refine wpAny_Slice (wpAny_evalPart_none (wpAny_evalPart_some (wpAny_Constant_int (wpAny_evalPart_none ?_))))
  have R₃ : Rep cx σ { s with toks := s.toks + 1 } := R
  exact h v' .none _ _ s.heap.objs.size _ _ p e2 rfl rfl (R₃.grow (fun _ _ e => Heap.get?_push_of_some _ e) _ R₃.pos) ⟨_, Heap.get?_push_size _ rfl, rfl, rfl⟩
theorem comp_run3 {elt target iter : Expr} {ifs : List Expr} {scope : Scope} {pos : Pos} {cl : List (Str × Addr)} (xs : List Str) {use : Option (Value → Sem Unit)} {K : Addr → Addr → CS → Prop} {Q : Value → Shared → Prop} {s : Shared}
    (hx : xs.Nodup) (hh : A.handled = none) (hclos : closureFor scope env = pure cl) (hkind : scope.kind = .function) (hnames : ∀ x ∈ scope.names, x.2 = .local → scope.names.lookup x.1 = some .local)
    (hs : ∀ x, foldedSetIterable iter env x = pure x) (ht : ∀ it v, letOwnedTupleGo target it v = pure ())
    (h : wpAny (model cx.prog cx.w) A (eval iter env) (fun x s₁ => ∃ σ₁, Rep cx σ₁ s₁ ∧ ∃ src, SrcOk cx src ∧ Iter cx A (nv x) src (CompBody cx A env scope cl elt target iter ifs src xs K) σ₁) (fun _ _ => False) s)
    (hK : ∀ acc C σ' s', Rep cx σ' s' → K acc C σ' → compPost (model cx.prog cx.w) A (fun _ _ => False) use Q (.ref acc) C (.ok .next) s') :
    wpAny (model cx.prog cx.w) A (comprehension (.ListComp elt [⟨target, iter, ifs, 0⟩] scope pos) scope env (firstIterPos [⟨target, iter, ifs, 0⟩] pos) (newList []) false (eval iter env) use) Q (fun _ _ => False) s := by
  refine wpAny_comprehension_free rfl hs hclos hkind hnames (wpAny_mono h (fun x s₁ ⟨σ₁, R₁, src, ok, h₁⟩ => wpAny_mono (Q := fun itv s₂ => ∃ src, SrcOk cx src ∧ ∃ it S F, itv = .ref it ∧ Rep cx ⟨(it, .iter (src.k 0)) :: S, F⟩ s₂ ∧ CompBody cx A env scope cl elt target iter ifs src xs K it S F) (wpAny_mono (h₁ x s₁ rfl R₁) (fun _ _ q => ⟨src, ok, q⟩) fun _ _ x => x) (fun itv s₂ h₂ => ?_) fun _ _ x => x) fun _ _ x => x)
  obtain ⟨src, ok, it, S, F, rfl, R₂, hB⟩ := h₂
  refine wpAny_newObj_type ?_
  have R₃ := R₂.push (o := { cls := .type "list", dict := none, data := .seq ([] : List Value).toArray }) (co := .list []) ⟨#[], _, Heap.get?_push_size _ rfl, rfl⟩ s₂.toks R₂.pos
  refine wpAny_mono (new_env (A := A) (binds := []) (Q := fun cenv σ₁ => ∃ C cells J, cenv = newEnv scope C env.globals cells env.qual none .none (some env) builtinsNs ∧ CompLoop cx A (compEnvC scope cells C env) elt target iter ifs src it s₂.heap.objs.size J (K s₂.heap.objs.size C) σ₁) R₃ xs hx (fun L => ?_)) (fun cenv s₄ h₄ => ?_) fun _ _ x => x
  · have := hB s₂.heap.objs.size L
    have mono : ∀ {names acc} {K K' : List (Str × Addr) → CS → Prop} {σ}, (∀ cs σ, K cs σ → K' cs σ) → Cells names acc K σ → Cells names acc K' σ := by
      intro names
      induction names with
      | nil => intro acc K K' σ hk h; exact hk _ _ h
      | cons x r ih =>
        intro acc K K' σ hk h
        obtain ⟨n, k⟩ := x
        unfold Cells at h ⊢
        split
        · rename_i q; rw [if_pos q] at h; exact fun c => ih hk (h c)
        · rename_i q; rw [if_neg q] at h; exact ih hk h
    exact mono (fun cells σ₁ ⟨J, h⟩ => ⟨L, cells, J, rfl, h⟩) this
  · obtain ⟨σ₄, R₄, C, cells, J, rfl, hL⟩ := h₄
    exact codeAny_mono (compLoop_run (R := fun r s' => match r with
      | .ok .next => compPost (model cx.prog cx.w) A (fun _ _ => False) use Q (.ref s₂.heap.objs.size) C (.ok .next) s'
      | _ => False) ok hh hL R₄ (fun σ' s' R' k => hK _ _ _ _ R' k) (ht _)) fun r s' hr => by
        rcases r with x | f
        · exact hr.elim
        · cases f with
          | next => exact hr
          | _ => exact hr.elim

theorem cfu_assign_comp {x : Str} {pos' spos : Pos} {elt target iter : Expr} {ifs : List Expr} {scope : Scope} {pos : Pos} {cl : List (Str × Addr)} {Q : Flow → CS → Prop} (xs : List Str)
    (h : CVu cx A (eval iter env) (fun x' σ₁ => ∃ src, SrcOk cx src ∧ Iter cx A x' src (CompBody cx A env scope cl elt target iter ifs src xs (fun acc C σ₂ => Store cx A env x (.ref acc) (fun σ₃ => DropNs C (fun σ₄ => Q .next σ₄) σ₃) σ₂)) σ₁) σ)
    (hsw : swapsWith (.ListComp elt [⟨target, iter, ifs, 0⟩] scope pos) (some (.Name x pos')) spos.line env = pure true)
    (hx : xs.Nodup) (hh : A.handled = none) (hclos : closureFor scope env = pure cl) (hkind : scope.kind = .function) (hnames : ∀ x ∈ scope.names, x.2 = .local → scope.names.lookup x.1 = some .local)
    (hs : ∀ x, foldedSetIterable iter env x = pure x) (ht : ∀ it v, letOwnedTupleGo target it v = pure ()) :
    CFu cx A (exec (.Assign [.Name x pos'] (.ListComp elt [⟨target, iter, ifs, 0⟩] scope pos) spos) env) Q σ := fun s R => by
  rw [exec_Assign_Name_used _ _ _ _ hsw]
  refine wpAny_bind (wpAny_standAt (wpAny_bind ?_))
  show wpAny _ A (do let _ ← comprehension (.ListComp elt [⟨target, iter, ifs, 0⟩] scope pos) scope env _ (newList []) false (eval iter env) (some (assign (.Name x pos') env))) _ _ s
  refine wpAny_bind (wpAny_mono (comp_run3 xs (use := some (assign (.Name x pos') env)) (Q := fun _ s' => ∃ σ', Rep cx σ' s' ∧ Q .next σ') hx hh hclos hkind hnames hs ht (h s R) fun acc C σ' s' R' k => ?_) (fun _ s' hq => wpAny_pure (wpAny_pure hq)) fun _ _ e => e)
  exact wpAny_assign_Name (wpAny_mono (k (.ref acc) rfl s' R') (fun _ s₂ ⟨σ₂, R₂, h₂⟩ => dropNs h₂ R₂) fun _ _ x => x)
end
end Mine
end

section
set_option autoImplicit false
set_option maxRecDepth 100000
set_option maxHeartbeats 4000000
namespace Mine
set_option compiler.extract_closed false
-- the walker's words. «: a b» one of these lemmas, one goal left; «; a b» one of these, none left; «= l c ..» the lemma l, its holes by their words ('.': the goal that stays; '!': this hole first; '@a,b': «; a b»; '_': found);
-- «~»: the same, all may be unfolded; «? t ? c» where t stands: c; «|a|b» the first that goes; «&a&b» one behind the other; «* c» again and again; «% c» with_reducible; «a l» apply; «f c» focus; «c h c» the case h; «L c» c, read late
local macro_rules | `(tactic| walk_at $s:str) => do
  let wordOf : String → String := fun
    | "e" => "|? CV/5 ? ev|? CF/5 ? ef|? Store/7 ? es|? CB/5 ? eb|? Op2/7 ? : op_add_int op_sub_int op_eq_int op_lt_int op_gt_int op_ge_int iop_add_int op_eq_str op_ne_str op_eq_bool op_ne_bool op_gt_str op_le_str op_isNot_str_ref op_isNot_self op_is_self|: then_next args_nil|= args_cons . w|: tr_bool part_some part_none|? CWith/9 _ _ _ _ PySem.Value.builtin/1 'str.replace ? crep|= cwith_builtin . w|= cwith_type . w|: op_neg_int binds_cons binds_nil cells_nil cells_cell|= cells_step r .|? Meth/9 ? em|? Cal/6 _ _ PySem.Value.builtin/1 'len ? len|= and_new . n|: allT_and_cons allT_and_nil allT_or_cons allT_or_nil then_ret then_brk|= cl_local . m2 m w w k"
    | "ev" => "|? CV/5 _ _ PySem.eval/2 PySem.Expr.Name/2 ? en|? CV/5 _ _ PySem.eval/2 PySem.Expr.Constant/3 ? ec|: cv_binop cv_call|= cv_compare . K|: cv_slice cv_subscript|= cv_method . w w K|: cv_list cv_tuple cv_joined cv_formatted cv_unary"
    | "en" => "|loc|L cel|= cv_bi . F K !@bi_len,bi_sum,bi_sorted,bi_isinstance D w w w k K|= cv_ty . F K !@bi_range,bi_list,bi_object,bi_str D w w w k K"
    | "ec" => "|: cv_int cv_bool|= cv_strL !@ls_0,ls_1,ls_2,ls_3,ls_4,ls_5,ls_6,ls_7,ls_8,ls_9,ls_10,ls_11,ls_12,ls_13,ls_14,ls_15,ls_16,ls_17,ls_18,ls_19,ls_20,ls_21,ls_22,ls_23,ls_24 ."
    | "ef" => "|: cf_cons cf_nil|= cf_assign . k|= cf_expr . k k|: cf_return cf_assert cf_break cf_aug|= cf_setitem . k|= cf_augsub . w|: cf_delete"
    | "es" => "|= store_local . u !u w w k|= store_cell . u2 !A w k"
    | "eb" => "|: cb_not cb_boolop|= cb_compare . K|= cb_chain . K|= cb_plain . w"
    | "em" => "|~ meth_list . s !@PySem.F.slot_list_append @PySem.F.type_list_append|~ meth_str . !@PySem.F.slot_str_join,PySem.F.slot_str_find,PySem.F.slot_str_replace @PySem.F.type_str_join,PySem.F.type_str_find,PySem.F.type_str_replace"
    | "len" => "|~ cal_len_list s n .|~ cal_len_str n ."
    | "crep" => "~ cwith_replace . @ls_3,ls_4 @ls_11,ls_12 D n"
    | "loc" => "= cv_local . m2 m w w k K"
    | "cel" => "|= cv_cell . s !A w k K|= cv_free . s !A w k K K"
    | "capp" => "~ cal_append . u2 n"
    | "cbnd" => "&~ And.intro so .&~ cal_bound . so u2 n"
    | "E" => "* e"
    | "m1" => "|; List.mem_cons_self|= List.mem_cons_of_mem _ ."
    | "m" => "&* m1&done"
    | "m2" => "&ds&m"
    | "u" => "&* u1&done"
    | "u1" => "|; Up.head|a Up.tail"
    | "u2" => "&ds&u"
    | "d1" => "|; Del.head|a Del.tail"
    | "d" => "&* d1&done"
    | "pc" => "&a Pick.cons&f d"
    | "p1" => "|= Pick.refl _|; Pick.nil|pc|: Pick.skip"
    | "p" => "&* p1&done"
    | "b" => "~ And.intro p2 @fz_id"
    | "p2" => "&ds&p"
    | "s" => "|as|so"
    | "so" => "~ Sees.own m2"
    | "w" => "|w1|w2"
    | "w1" => "&V&wr"
    | "w2" => "&sv&wr"
    | "k" => "|k1|k2"
    | "k1" => "&V&k3"
    | "k2" => "&sv&k3"
    | "k3" => "|r|K"
    | "V" => "* V1"
    | "A" => "% as"
    | "F" => "|as|F1"
    | "F1" => "&: Fz.le_and&L F"
    | "done" => "! Lean.Parser.Tactic.done done"
    | "as" => "! Lean.Parser.Tactic.assumption assumption"
    | "sv" => "! Lean.Parser.Tactic.substVars subst_vars"
    | "r" => "! Lean.Parser.Tactic.tacticRfl rfl"
    | "n" => "|as|o|n1|n2"
    | "n1" => "&sl&o"
    | "n2" => "&sa&o"
    | s => s
  let walkStep (go : String → Lean.MacroM (Lean.TSyntax `tactic)) (s : String) : Lean.MacroM (Lean.TSyntax `tactic) := do
    let id (x : String) : Lean.Ident := Lean.mkIdent x.toName
    let lens := #[id "List.length_append", id "List.length_cons", id "List.length_nil", id "List.length_map"]
    match s with
    | "ds" => `(tactic| try dsimp only)
    | "wr" => `(tactic| with_unfolding_all rfl)
    | "K" => `(tactic| kernel_rfl)
    | "D" => `(tactic| decide +kernel)
    | "V1" => `(tactic| ((with_reducible rename @Eq Env _ _ => q); subst q))
    | "o" => `(tactic| omega)
    | "sl" => `(tactic| simp only [$[$lens:ident],*])
    | "sa" => `(tactic| simp only [$[$lens:ident],*] at *)
    | _ =>
    let s := wordOf s
    let hole : Lean.Term ← `(_)
    let many (c : String) : Bool := c != "." && c != "_"
    let (k, xs) ← (match s.splitOn " " with
      | k :: xs => pure (k, xs)
      | [] => Lean.Macro.throwUnsupported)
    if s.startsWith "|" || s.startsWith "&" || k == ":" || k == ";" then
      let ws := if k == ":" then xs.map ("= " ++ · ++ " .") else if k == ";" then xs.map ("= " ++ ·) else (s.drop 1).toString.splitOn (s.take 1).toString
      let ts := (← ws.mapM go).toArray
      if s.startsWith "&" then `(tactic| ($[$ts:tactic];*)) else `(tactic| first $[| $ts:tactic]*)
    else if k == "!" then
      match xs with
      | [kd, a] => return ⟨Lean.Syntax.node .none kd.toName #[Lean.Syntax.atom .none a]⟩
      | _ => Lean.Macro.throwUnsupported
    else if k == "?" then
      let ts := xs.takeWhile (· != "?")
      let t ← go (" ".intercalate (xs.drop (ts.length + 1)))
      let p : List Lean.Term := ts.foldr (init := []) fun w st =>
        if w == "_" then hole :: st
        else if w.startsWith "'" then Lean.Syntax.mkStrLit (w.drop 1).toString :: st
        else match w.splitOn "/" with
          | [f, n] => let n := n.toNat?.getD 0; Lean.Syntax.mkApp (id f) ((st ++ List.replicate n hole).take n).toArray :: st.drop n
          | _ => st
      `(tactic| ((with_reducible show $(p.headD hole)); $t:tactic))
    else match xs with
    | l :: cs =>
      if k == "a" then `(tactic| with_reducible apply $(id l):ident)
      else if k == "L" then `(tactic| walk_at $(Lean.Syntax.mkStrLit l):str)
      else if k == "=" || k == "~" then
        let iw := cs.zipIdx
        let as : List Lean.Term := iw.map fun (c, i) => if c == "_" then hole else ⟨Lean.Syntax.node .none ``Lean.Parser.Term.syntheticHole #[Lean.Syntax.atom .none "?", if c == "." then hole else id s!"h{i}"]⟩
        let (now, late) := (iw.filter fun (c, _) => many c).partition fun (c, _) => c.startsWith "!"
        let t ← `(tactic| refine' $(⟨Lean.Syntax.mkApp (id l) as.toArray⟩))
        let t ← if k == "~" then pure t else `(tactic| with_reducible $t:tactic)
        let ts := (← ((now ++ late).map fun (c, i) =>
          let c := if c.startsWith "!" then (c.drop 1).toString else c
          s!"c h{i} " ++ (if c.startsWith "@" then "; " ++ ((c.drop 1).toString.replace "," " ") else c)).mapM go).toArray
        if ts.isEmpty then pure t else `(tactic| ($t:tactic; $[$ts:tactic];*))
      else
        let t ← go (" ".intercalate (if k == "c" then cs else xs))
        if k == "c" then `(tactic| case $(id l):ident => $t:tactic)
        else if k == "f" then `(tactic| focus ($t:tactic))
        else if k == "%" then `(tactic| with_reducible $t:tactic)
        else if k == "*" then `(tactic| repeat ($t:tactic))
        else Lean.Macro.throwUnsupported
    | _ => Lean.Macro.throwUnsupported
  Nat.repeat walkStep 40 (fun _ => Lean.Macro.throwUnsupported) s.getString

noncomputable abbrev LS (x : List Nat) (k : Value) (tu sig sla ra at_ wi : Option Value) : List (Str × Option Value) :=
  [(Str.ofString "text", some (St x)), (Str.ofString "k", some k), (Str.ofString "turned", tu), (Str.ofString "signs", sig), (Str.ofString "slash", sla), (Str.ofString "ranges", ra), (Str.ofString "at", at_), (Str.ofString "wide", wi)]
inductive SetA (x : List Nat) (sg : List (Nat × Nat)) (rest : List Nat) (turned : Bool) (L sl : Addr) (S : List (Addr × CO)) (F : Fz) (m : Nat) (σ : CS) : Prop where
  | mk (k : Nat) (dn td : List (Nat × Nat)) (refs : List Addr) (sla : Option Value) (F' : Fz) (h1 : m = td.length) (h2 : dn ++ td = sg) (h3 : x.drop k = td.flatMap enc ++ 93 :: rest) (h4 : Fz.Le F' F) (h5 : RowsF F' refs (dn.map signV))
      (h6 : σ = ⟨(sl, .list (refs.map .ref)) :: (L, .ns (LS x (In k) (some (.bool turned)) (some (.ref sl)) sla none none none)) :: S, F'⟩) : SetA x sg rest turned L sl S F m σ
inductive SetB (x : List Nat) (dn : List (Nat × Nat)) (k : Nat) (turned : Bool) (L sl rg : Addr) (refs : List Addr) (sla : Option Value) (S : List (Addr × CO)) (F : Fz) (m : Nat) (σ : CS) : Prop where
  | mk (i : Nat) (dr : List (Nat × Nat)) (rrefs : List Addr) (wi : Option Value) (F'' : Fz) (h1 : m = dn.length - i) (h2 : i ≤ dn.length) (h3 : dr ++ rangesOf (dn.drop i) = rangesOf dn) (h4 : dr.length ≤ i) (h5 : Fz.Le F'' F) (h6 : RowsF F'' rrefs (dr.map rangeV))
      (h7 : σ = ⟨(rg, .list (rrefs.map .ref)) :: (sl, .list (refs.map .ref)) :: (L, .ns (LS x (In k) (some (.bool turned)) (some (.ref sl)) sla (some (.ref rg)) (some (In i)) wi)) :: S, F''⟩) : SetB x dn k turned L sl rg refs sla S F m σ
theorem law_set_spec {cx : Cx} {A : Around} {P : Params} {p : Program} {loose : List Str} {S : List (Addr × CO)} {F : Fz} {n : Nat} (hF : Fz.Le F (Fz.top p loose (hd.heap_39 P))) (room : Room A (n + 3)) (x : List Nat) (k : Nat) (turned : Bool) (sg : List (Nat × Nat)) (rest : List Nat)
    (hx : x.length ≤ 1000) (ht : x.drop k = (if turned then [94] else []) ++ (sg.flatMap enc ++ 93 :: rest)) (hne : sg ≠ []) (hsl : sg.length ≤ 1000)
    (hok : ∀ i p, sg[i]? = some p → okS (i == 0) p) (hnt : turned = false → ∀ p, sg.head? = some p → p.2 = 0 → p.1 ≠ 94) (Q : Value → CS → Prop)
    (h : ∀ t rg refs F' σ', Fz.Le F' F → RowsF F' refs ((rangesOf sg).map rangeV) → Back ((t, .tuple [.bool turned, .ref rg, St rest]) :: (rg, .list (refs.map .ref)) :: S) F' σ' → Q (.ref t) σ') :
    Cal cx A (.ref 88) [St x, In k] Q ⟨S, F⟩ := by
  refine cal_K [Str.ofString "text", Str.ofString "k"] [Str.ofString "turned", Str.ofString "signs", Str.ofString "slash", Str.ofString "ranges", Str.ofString "at", Str.ofString "wide"] hF (by rfl) (by rfl) (by kernel_rfl) (by rfl) room (fun vs' e => ?_) rfl (by decide +kernel) (by rfl) (by rfl) (by rfl) (by decide +kernel) (by decide +kernel) fun L A' room' => ?_
  · obtain ⟨v1, v2, rfl⟩ : ∃ v1 v2, vs' = [v1, v2] := by
      match vs', e with
      | [v1, v2], _ => exact ⟨v1, v2, rfl⟩
    rfl
  generalize hE : fnEnv _ L 88 = env
  dsimp only [zipS, nones, List.zip, List.zipWith, List.map, List.append, HAppend.hAppend, Append.append]
  have hc0 : ∃ c0, x[k]? = some c0 ∧ decide ([c0] = [94]) = turned := by
    have e : x[k]? = (x.drop k)[0]? := by rw [List.getElem?_drop]; rfl
    rw [e, ht]
    cases turned with
    | true => exact ⟨94, rfl, rfl⟩
    | false =>
      cases sg with
      | nil => exact absurd rfl hne
      | cons p r =>
        obtain ⟨c, s⟩ := p
        by_cases hs : s = 0
        · subst hs
          exact ⟨c, by simp [enc], by simpa using hnt rfl _ rfl rfl⟩
        · exact ⟨92, by simp [enc, hs], rfl⟩
  obtain ⟨c0, hc0, htn⟩ := hc0
  walk_at "E"
  refine sub_strN k c0 rfl hc0 (by omega) ?_ (fun _ _ => by with_unfolding_all rfl)
  walk_at "e"
  walk_at "e"
  rw [htn]
  walk_at "E"
  obtain ⟨k', hk', htx⟩ : ∃ k' : Nat, (if turned then (k : Int) + 1 else (k : Int)) = (k' : Int) ∧ x.drop k' = sg.flatMap enc ++ 93 :: rest := by
    cases turned with
    | true =>
      refine ⟨k + 1, by simp, ?_⟩
      rw [← List.drop_drop, ht]; rfl
    | false => exact ⟨k, rfl, by simpa using ht⟩
  refine cf_cut ⟨(L, .ns (LS x (In k') (some (.bool turned)) none none none none none)) :: S, F⟩ ?_ ?_
  · refine cf_if ?_
    walk_at "E"
    rw [← hk']
    cases turned with
    | true => simp only [if_true]; walk_at "E"; exact ⟨rfl, rfl⟩
    | false => simp only [Bool.false_eq_true, if_false]; walk_at "E"; exact ⟨rfl, rfl⟩
  walk_at "E"
  intro sl
  walk_at "E"
  refine cf_while (SetA x sg rest turned L sl S F) sg.length ⟨k', [], sg, [], none, F, rfl, rfl, htx, fun _ y => y, .nil, rfl⟩ ?_
  rintro m σ ⟨k, dn, td, refs, sla, F', rfl, hdt, hxk, hle, hrows, rfl⟩
  have hF' : Fz.Le F' (Fz.top p loose (hd.heap_39 P)) := fun h y => hF h (hle h y)
  have hkx : ∃ c, x[k]? = some c ∧ (dn ≠ [] → decide ([c] ≠ [93]) = decide (td ≠ [])) ∧ (∀ p r, td = p :: r → c = if p.2 = 0 then p.1 else 92) := by
    have e : x[k]? = (x.drop k)[0]? := by rw [List.getElem?_drop]; rfl
    rw [e, hxk]
    cases td with
    | nil => exact ⟨93, rfl, by simp, by simp⟩
    | cons p r =>
      obtain ⟨c, s⟩ := p
      by_cases hs : s = 0
      · subst hs
        refine ⟨c, by simp [enc], fun hd => ?_, fun p r hp => by cases hp; simp⟩
        have hi : sg[dn.length]? = some (c, 0) := by rw [← hdt]; simp
        have := hok _ _ hi
        have hd0 : dn.length ≠ 0 := by cases dn with | nil => exact absurd rfl hd | cons => simp
        rcases this with h1 | ⟨_, _, h2 | h2⟩
        · cases h1
        · exact absurd (by simpa using h2) hd0
        · simp; exact h2
      · exact ⟨92, by simp [enc, hs], fun _ => by simp, fun p r hp => by cases hp; simp [hs]⟩
  obtain ⟨c, hc, hcn, hce⟩ := hkx
  have hlen := hrows.len
  have hrl : refs.length ≤ 1000 := by
    rw [hlen, List.length_map]
    have : (dn ++ td).length ≤ 1000 := by rw [hdt]; exact hsl
    rw [List.length_append] at this; omega
  refine cb_cut (decide (td ≠ [])) ((sl, .list (refs.map .ref)) :: (L, .ns (LS x (In k) (some (.bool turned)) (some (.ref sl)) sla none none none)) :: S) F' ?_ fun σ₁ hb => ?_
  · walk_at "E"
    intro d0
    refine op_eq_nil room' (.own (by walk_at "m")) (.own (by walk_at "m")) ?_
    walk_at "E"
    by_cases hd : dn = []
    · subst hd
      have : refs = [] := by simpa using hlen
      subst this
      have htd : td ≠ [] := by rw [List.nil_append] at hdt; rw [hdt]; exact hne
      simp only [List.map_nil, decide_true, if_true]
      exact ⟨by simp [htd], by walk_at "b"⟩
    · have : ¬ (List.map Value.ref refs = []) := by
        intro q
        have : refs = [] := by simpa using q
        subst this
        simp at hlen
        exact hd (by simpa using hlen.symm)
      simp only [this, decide_false, Bool.false_eq_true, if_false]
      walk_at "E"
      refine sub_strN k c rfl hc (by omega) ?_ (fun _ _ => by with_unfolding_all rfl)
      walk_at "E"
      rw [hcn hd]
      refine cb_ite (fun q => ?_) fun q => ?_
      · exact ⟨q.symm, by walk_at "b"⟩
      · refine allT_or_nil ?_
        exact ⟨q.symm, by walk_at "b"⟩
  · cases td with
    | nil =>
      simp only [ne_eq, not_true_eq_false, decide_false, Bool.false_eq_true, if_false]
      refine wbF hb ?_
      walk_at "E"
      refine cf_swapped (names := [Str.ofString "ranges", Str.ofString "at"]) ?_ room'.hh (by walk_at "k") (by walk_at "k")
      walk_at "E"
      intro rg
      walk_at "E"
      intro tp
      refine ⟨tp, _, rfl, .own (by walk_at "m"), rfl, ?_⟩
      dsimp only [List.reverse, List.reverseAux, Stores]
      walk_at "E"
      rw [List.append_nil] at hdt
      subst hdt
      refine wbF (S' := (rg, .list []) :: (sl, .list (refs.map .ref)) :: (L, .ns (LS x (In k) (some (.bool turned)) (some (.ref sl)) sla (some (.ref rg)) (some (In 0)) none)) :: S) (F' := F') (by walk_at "b") ?_
      refine cf_while (SetB x dn k turned L sl rg refs sla S F') dn.length ?_ ?_
      · exact ⟨0, [], [], none, F', rfl, Nat.zero_le _, rfl, Nat.le_refl _, fun _ y => y, .nil, rfl⟩
      rintro m σ ⟨i, dr, rrefs, wi, F'', rfl, hi, hdr, hdl, hle2, hrr, rfl⟩
      have hF'' : Fz.Le F'' (Fz.top p loose (hd.heap_39 P)) := fun h y => hF' h (hle2 h y)
      walk_at "E"
      refine cb_ite (fun q => ?_) fun q => ?_
      · have hlt : i < refs.length := by simpa using q
        have hid : i < dn.length := by rw [hlen, List.length_map] at hlt; exact hlt
        have hdi : dn.drop i = dn[i] :: dn.drop (i + 1) := List.drop_eq_getElem_cons hid
        have hget : dn[i]? = some dn[i] := List.getElem?_eq_getElem hid
        obtain ⟨q2, hq2, hro, hwl⟩ := wideOf_spec dn i _ hget
        have rowAt : ∀ {j : Nat} {p : Nat × Nat}, dn[j]? = some p → ∃ r, refs[j]? = some r ∧ Fz.Le F'' (.obj r (.list (signV p))) := by
          intro j p hj
          obtain ⟨r, e1, e2⟩ := hrows.get (i := j) (v := signV p) (by rw [List.getElem?_map, hj]; rfl)
          exact ⟨r, e1, fun h y => e2 h (hle2 h y)⟩
        walk_at "E"
        refine cv_cutb (In (wideOf dn i)) ((rg, .list (rrefs.map .ref)) :: (sl, .list (refs.map .ref)) :: (L, .ns (LS x (In k) (some (.bool turned)) (some (.ref sl)) sla (some (.ref rg)) (some (In i)) wi)) :: S) F'' ?_ fun σ₁ hb => wbS hb ?_
        · refine cv_ifexp ?_
          walk_at "E"
          refine cb_ite (fun q => ?_) fun q => ?_
          · have hl2 : i + 2 < dn.length := by
              have : (i : Int) + 2 < (refs.length : Int) := by simpa using q
              rw [hlen, List.length_map] at this; omega
            have hl1 : i + 1 < dn.length := by omega
            obtain ⟨r1, er1, hr1⟩ := rowAt (List.getElem?_eq_getElem hl1)
            walk_at "E"
            refine sub_listN (i + 1) (.ref r1) (by push_cast; rfl) (by walk_at "s") (refs_at er1) (by rw [List.length_map]; omega) ?_ (fun _ _ => by with_unfolding_all rfl)
            walk_at "E"
            intro d0
            refine op_eq_pair room' (sees_le hr1) (.own (by walk_at "m")) ?_
            walk_at "E"
            refine cb_ite (fun q => ?_) fun q => ?_
            · walk_at "E"
              simp only [if_true]
              walk_at "E"
              have e : dn[i + 1]? = some (45, 0) := by
                rw [List.getElem?_eq_getElem hl1]
                have := of_decide_eq_true q
                obtain ⟨h1, h2⟩ := this
                have h1 : dn[i + 1].1 = 45 := by simpa using h1
                have h2 : dn[i + 1].2 = 0 := by omega
                rw [← h1, ← h2]
              have e2 : wideOf dn i = 2 := if_pos ⟨e, hl2⟩
              rw [e2]
              exact ⟨rfl, by walk_at "b"⟩
            · simp only [Bool.false_eq_true, if_false]
              walk_at "E"
              have e2 : wideOf dn i = 0 := if_neg (fun z => by
                have z1 := z.1
                rw [List.getElem?_eq_getElem hl1] at z1
                have z2 : dn[i + 1] = (45, 0) := by simpa using z1
                rw [z2] at q
                simp at q)
              rw [e2]
              exact ⟨rfl, by walk_at "b"⟩
          · simp only [Bool.false_eq_true, if_false]
            walk_at "E"
            have e2 : wideOf dn i = 0 := if_neg (fun z => by
              have z2 := z.2
              have : ¬ ((i : Int) + 2 < (refs.length : Int)) := by simpa using q
              rw [hlen, List.length_map] at this; omega)
            rw [e2]
            exact ⟨rfl, by walk_at "b"⟩
        · obtain ⟨r1, er1, hr1⟩ := rowAt hget
          obtain ⟨r2, er2, hr2⟩ := rowAt hq2
          walk_at "E"
          refine sub_listN i (.ref r1) rfl (by walk_at "s") (refs_at er1) (by rw [List.length_map]; omega) ?_ (fun _ _ => by with_unfolding_all rfl)
          walk_at "E"
          refine sub_listN 0 _ rfl (sees_le hr1) rfl (by simp [signV]) ?_ (fun _ _ => by with_unfolding_all rfl)
          walk_at "E"
          refine sub_listN (i + wideOf dn i) (.ref r2) (by push_cast; rfl) (by walk_at "s") (refs_at er2) (by rw [List.length_map]; omega) ?_ (fun _ _ => by with_unfolding_all rfl)
          walk_at "E"
          refine sub_listN 0 _ rfl (sees_le hr2) rfl (by simp [signV]) ?_ (fun _ _ => by with_unfolding_all rfl)
          walk_at "E"
          intro d
          walk_at "E"
          have hrrl : rrefs.length ≤ 1000 := by rw [hrr.len, List.length_map]; omega
          walk_at "capp"
          walk_at "e"
          refine frF .head rfl ?_
          walk_at "E"
          dsimp only
          refine ⟨dn.length - (i + (1 + wideOf dn i)), by omega, i + (1 + wideOf dn i), dr ++ [(dn[i].1, q2.1)], rrefs ++ [d], some (In (wideOf dn i)), F''.and (.obj d (.list [St [dn[i].1], St [q2.1]])), rfl, hwl, ?_, ?_, fun h y => hle2 h y.1, ?_, ?_⟩
          · rw [List.append_assoc, ← hdr, hro]; rfl
          · simp; omega
          · rw [List.map_append]
            exact (hrr.le le_fst).snoc le_last
          · have e : (i : Int) + (1 + (wideOf dn i : Int)) = ((i + (1 + wideOf dn i) : Nat) : Int) := by push_cast; omega
            rw [e, List.map_append]
            rfl
      · have hge : dn.length ≤ i := by
          have : ¬ ((i : Int) < (refs.length : Int)) := by simpa using q
          rw [hlen, List.length_map] at this; omega
        walk_at "E"
        refine cut_str (x := x) ?_ (.int _) .none (by omega)
        walk_at "E"
        intro tu
        walk_at "E"
        have e1 : x.drop (k + 1) = rest := by
          rw [← List.drop_drop, hxk]; rfl
        rw [slc_f x (k + 1) (by push_cast; rfl), e1]
        have e2 : dr = rangesOf dn := by rw [← hdr, List.drop_eq_nil_of_le hge]; simp [rangesOf]
        dsimp only
        exact h tu rg rrefs F'' _ (fun h y => hle h (hle2 h y)) (e2 ▸ hrr) (by walk_at "b")
    | cons p r =>
      simp only [ne_eq, reduceCtorEq, not_false_eq_true, decide_true, if_true]
      refine wbF hb ?_
      walk_at "E"
      have hp2 : p.2 = 1 ∨ (p.2 = 0 ∧ p.1 ≠ 92) := by
        have hi : sg[dn.length]? = some p := by rw [← hdt]; simp
        rcases hok _ _ hi with h1 | h1
        · exact .inl h1
        · exact .inr ⟨h1.1, h1.2.1⟩
      have hcp := hce p r rfl
      obtain ⟨c', s'⟩ := p
      refine cv_cut (In s') ⟨(sl, .list (refs.map .ref)) :: (L, .ns (LS x (In k) (some (.bool turned)) (some (.ref sl)) sla none none none)) :: S, F'⟩ ?_ ?_
      · refine cv_ifexp ?_
        walk_at "E"
        refine sub_strN k c rfl hc (by omega) ?_ (fun _ _ => by with_unfolding_all rfl)
        walk_at "E"
        rcases hp2 with h1 | ⟨h1, h2⟩
        · simp only at h1
          subst h1
          have : c = 92 := by simpa using hcp
          subst this
          simp only [decide_true, if_true]
          walk_at "E"
          exact ⟨rfl, rfl⟩
        · simp only at h1 h2
          subst h1
          have : c = c' := by simpa using hcp
          subst this
          have e : decide ([c] = [92]) = false := by simpa using h2
          simp only [e, Bool.false_eq_true, if_false]
          walk_at "E"
          exact ⟨rfl, rfl⟩
      have hcx : x[k + s']? = some c' := by
        have e : x[k + s']? = (x.drop k)[s']? := by rw [List.getElem?_drop]
        rw [e, hxk]
        rcases hp2 with h1 | ⟨h1, h2⟩
        · simp only at h1; subst h1; simp [enc]
        · simp only at h1; subst h1; simp [enc]
      have hdrop : x.drop (k + 1 + s') = r.flatMap enc ++ 93 :: rest := by
        have e : x.drop (k + 1 + s') = (x.drop k).drop (1 + s') := by rw [List.drop_drop]; congr 1; omega
        rw [e, hxk]
        rcases hp2 with h1 | ⟨h1, h2⟩
        · simp only at h1; subst h1; simp [enc]
        · simp only at h1; subst h1; simp [enc]
      walk_at "E"
      refine sub_strN (k + s') c' (by push_cast; rfl) hcx (by omega) ?_ (fun _ _ => by with_unfolding_all rfl)
      walk_at "E"
      intro d
      walk_at "E"
      walk_at "capp"
      walk_at "e"
      refine frF .head rfl ?_
      walk_at "E"
      dsimp only
      refine ⟨r.length, by simp, k + 1 + s', dn ++ [(c', s')], r, refs ++ [d], some (In s'), F'.and (.obj d (.list [St [c'], In s'])), rfl, by simp [hdt], hdrop, fun h y => hle h y.1, ?_, ?_⟩
      · rw [List.map_append]
        exact (hrows.le le_fst).snoc le_last
      · have e : (k : Int) + (1 + (s' : Int)) = ((k + 1 + s' : Nat) : Int) := by push_cast; omega
        rw [e, List.map_append]
        rfl

noncomputable def row1 (m : List Nat) : List (List Nat) := if 93 ∈ m then [if 94 ∈ m then [93, 45, 94] else [93]] else []
noncomputable def row2 (m : List Nat) : List (List Nat) := row1 m ++ (if 91 ∈ m ∧ 92 ∈ m then [[91, 45, 92]] else [])
noncomputable def told (m : List Nat) : List Nat := [33, 45] ++ (row2 m).flatten
noncomputable def rowAll (m : List Nat) : List (List Nat) := row2 m ++ (((m.filter fun c => decide (c ∉ told m)).map fun c => [c]) ++ (([33, 45] : List Nat).filter fun c => decide (c ∈ m)).map fun c => [c])
noncomputable def brk (m : List Nat) (barred strewn : Bool) : List Nat := [91] ++ (if barred then [33] else []) ++ ((rowAll m).take 1 ++ (if strewn then [[98, 45, 97]] else []) ++ (rowAll m).drop 1).flatten ++ [93]
noncomputable abbrev LB (ba st ro : Option Value) : List (Str × Option Value) := [(Str.ofString "barred", ba), (Str.ofString "strewn", st), (Str.ofString "row", ro)]
theorem law_bracket_spec {cx : Cx} {A : Around} {P : Params} {p : Program} {loose : List Str} {S : List (Addr × CO)} {F : Fz} {n : Nat} (hF : Fz.Le F (Fz.top p loose (hd.heap_39 P))) (room : Room A (n + 3)) (mem : Addr) (m : List Nat) (barred strewn : Bool)
    (hm : Sees ⟨S, F⟩ mem (.list (m.map fun c => St [c]))) (hl : m.length ≤ 1000) (h128 : ∀ c ∈ m, c < 128) (Q : Value → CS → Prop) (h : ∀ σ', Back S F σ' → Q (St (brk m barred strewn)) σ') :
    Cal cx A (.ref 81) [.ref mem, .bool barred, .bool strewn] Q ⟨S, F⟩ := by
  refine cal_KC [Str.ofString "members", Str.ofString "barred", Str.ofString "strewn"] [Str.ofString "barred", Str.ofString "strewn", Str.ofString "row"] hF (by rfl) (by rfl) (by kernel_rfl) (by rfl) room (fun vs' e => ?_) (by decide +kernel) (by rfl) (by rfl) fun L => ?_
  · obtain ⟨v1, v2, v3, rfl⟩ : ∃ v1 v2 v3, vs' = [v1, v2, v3] := by
      match vs', e with
      | [v1, v2, v3], _ => exact ⟨v1, v2, v3, rfl⟩
    rfl
  show Cells [_, _, _, _, _] _ _ _
  refine cells_cell fun cm => ?_
  refine cells_step rfl (cells_step rfl (cells_step rfl (cells_cell fun ct => cells_nil ?_)))
  intro A₁ A' room'
  generalize hE : newEnv _ L _ _ _ _ _ _ _ = env
  have hxm : env.cells.lookup (Str.ofString "members") = some cm := by subst hE; kernel_rfl
  have hxt : env.cells.lookup (Str.ofString "told") = some ct := by subst hE; kernel_rfl
  dsimp only [zipS, nones, List.zip, List.zipWith, List.map, List.append, HAppend.hAppend, Append.append]
  walk_at "E"
  refine ⟨hF, ?_⟩
  have hmem : ∀ S', (∀ p ∈ S, p ∈ S') → Sees ⟨S', F⟩ mem (.list (m.map fun c => St [c])) := fun S' hs => sees_mono hm hs fun _ y => y
  refine cf_cons ?_
  refine cf_cutP (fun σ₁ => ∃ rw, Back ((rw, .list ((row1 m).map St)) :: (ct, .cell none) :: (cm, .cell (some (.ref mem))) :: (L, .ns (LB (some (.bool barred)) (some (.bool strewn)) (some (.ref rw)))) :: S) F σ₁) ?_ ?_
  · walk_at "e"
    refine cv_ifexp ?_
    walk_at "E"
    refine op_in_mem (hmem _ fun p hp => by simp [hp]) ?_
    walk_at "E"
    refine cb_ite (fun q => ?_) fun q => ?_
    · have q' : 93 ∈ m := of_decide_eq_true q
      walk_at "E"
      refine cv_ifexp ?_
      walk_at "E"
      refine op_in_mem (hmem _ fun p hp => by simp [hp]) ?_
      walk_at "E"
      refine cb_ite (fun q2 => ?_) fun q2 => ?_
      · have q2' : 94 ∈ m := of_decide_eq_true q2
        walk_at "E"
        intro rw
        walk_at "E"
        refine ⟨rfl, rw, ?_⟩
        simp only [row1, if_pos q', if_pos q2', List.map_cons, List.map_nil]
        walk_at "b"
      · have q2' : ¬ 94 ∈ m := of_decide_eq_false q2
        walk_at "E"
        intro rw
        walk_at "E"
        refine ⟨rfl, rw, ?_⟩
        simp only [row1, if_pos q', if_neg q2', List.map_cons, List.map_nil]
        walk_at "b"
    · have q' : ¬ 93 ∈ m := of_decide_eq_false q
      walk_at "E"
      intro rw
      walk_at "E"
      refine ⟨rfl, rw, ?_⟩
      simp only [row1, if_neg q', List.map_nil]
      walk_at "b"
  rintro σ₁ ⟨rw, hb⟩
  refine then_next (wbF hb ?_)
  refine cf_cons ?_
  have hr1 : (row1 m).length ≤ 1 := by unfold row1; split <;> simp
  refine cf_cutP (fun σ₁ => Back ((rw, .list ((row2 m).map St)) :: (ct, .cell none) :: (cm, .cell (some (.ref mem))) :: (L, .ns (LB (some (.bool barred)) (some (.bool strewn)) (some (.ref rw)))) :: S) F σ₁) ?_ ?_
  · walk_at "E"
    refine cv_ifexp ?_
    walk_at "E"
    refine op_in_mem (hmem _ fun p hp => by simp [hp]) ?_
    walk_at "E"
    refine cb_ite (fun q => ?_) fun q => ?_
    · have q' : 91 ∈ m := of_decide_eq_true q
      walk_at "E"
      refine op_in_mem (hmem _ fun p hp => by simp [hp]) ?_
      walk_at "E"
      refine cb_ite (fun q2 => ?_) fun q2 => ?_
      · have q2' : 92 ∈ m := of_decide_eq_true q2
        simp only [if_true]
        walk_at "E"
        simp only [if_true]
        walk_at "E"
        intro d
        refine' iop_add_list ?_ ?u ?hb ?hz
        case u => walk_at "u"
        case hb => walk_at "s"
        case hz => simp; omega
        walk_at "E"
        refine ⟨by trivial, ?_⟩
        have e : (row2 m).map St = (row1 m).map St ++ [St [91, 45, 92]] := by simp only [row2, if_pos (And.intro q' q2'), List.map_append, List.map_cons, List.map_nil]
        rw [e]
        walk_at "b"
      · have q2' : ¬ 92 ∈ m := of_decide_eq_false q2
        simp only [Bool.false_eq_true, if_false]
        walk_at "E"
        intro d
        refine' iop_add_list ?_ ?u ?hb ?hz
        case u => walk_at "u"
        case hb => walk_at "s"
        case hz => simp; omega
        walk_at "E"
        refine ⟨by trivial, ?_⟩
        have e : (row2 m).map St = (row1 m).map St ++ [] := by simp only [row2, if_neg (show ¬ (91 ∈ m ∧ 92 ∈ m) from fun z => q2' z.2), List.append_nil]
        rw [e]
        walk_at "b"
    · have q' : ¬ 91 ∈ m := of_decide_eq_false q
      simp only [Bool.false_eq_true, if_false]
      walk_at "E"
      intro d
      refine' iop_add_list ?_ ?u ?hb ?hz
      case u => walk_at "u"
      case hb => walk_at "s"
      case hz => simp; omega
      walk_at "E"
      refine ⟨by trivial, ?_⟩
      have e : (row2 m).map St = (row1 m).map St ++ [] := by simp only [row2, if_neg (show ¬ (91 ∈ m ∧ 92 ∈ m) from fun z => q' z.1), List.append_nil]
      rw [e]
      walk_at "b"
  intro σ₁ hb
  refine then_next (wbF hb ?_)
  clear hb
  have hr2 : (row2 m).length ≤ 2 := by unfold row2; rw [List.length_append]; split <;> simp <;> omega
  have hrf : (row2 m).flatten.length ≤ 6 := by
    unfold row2 row1
    split <;> split <;> (try split) <;> simp
  walk_at "E"
  refine cal_join_list (ys := row2 m) ?_ (.own (by walk_at "m")) ?_
  · rw [intercalate_nil]
    walk_at "E"
    refine op_add_str ?_ ?_
    · simp only [List.length_cons, List.length_nil]; omega
    walk_at "E"
    have et : ([33, 45] ++ (row2 m).flatten : List Nat) = told m := rfl
    rw [et]
    refine cv_listcomp (cl := [(Str.ofString "told", ct)]) (srcList mem (m.map fun c => St [c])) srcList_ok [Str.ofString "sign"] ?_ (by decide +kernel) room'.hh (by subst hE; kernel_rfl) (by rfl) (by decide +kernel) (fun _ => rfl) (fun _ _ => rfl)
    walk_at "E"
    refine iter_list (fun it => ?_) (hmem _ fun p hp => by simp [hp])
    refine pure_body (fun v => if decide (chr v ∉ told m) then some v else none) (by decide +kernel) (by rfl) (by kernel_rfl) (by simp [srcList]; omega) (fun S' hs => hmem _ fun p hp => hs _ (by simp [hp])) (fun C acc k v ys hv => ?_) (fun acc C o => ?_)
    · obtain ⟨c, rfl, hcm⟩ := item_St hv
      generalize hE2 : compEnvC _ _ C env = env2
      have hx2 : env2.cells.lookup (Str.ofString "told") = some ct := by subst hE2; kernel_rfl
      refine tests_one ?_
      walk_at "E"
      refine op_notIn_sign ?_
      walk_at "E"
      rw [chr_St]
      refine cb_ite (fun q => ?_) fun q => ?_
      · rw [q]
        walk_at "E"
        exact ⟨rfl, by walk_at "b"⟩
      · rw [q]
        exact ⟨rfl, by walk_at "b"⟩
    · refine ⟨_, _, .head, ?_⟩
      dsimp only
      have efm := fm_chr (fun c => decide (c ∉ told m)) m
      try dsimp only at efm
      rw [show (srcList mem (m.map fun c => St [c])).items = m.map fun c => St [c] from rfl, efm]
      have hfl : (m.filter fun c => decide (c ∉ told m)).length ≤ 1000 := Nat.le_trans (List.length_filter_le _ _) hl
      generalize hg1 : (m.filter fun c => decide (c ∉ told m)) = g1 at hfl ⊢
      refine cv_listcomp (cl := [(Str.ofString "members", cm)]) (srcStr [33, 45]) srcStr_ok [Str.ofString "sign"] ?_ (by decide +kernel) room'.hh (by subst hE; kernel_rfl) (by rfl) (by decide +kernel) (fun _ => rfl) (fun _ _ => rfl)
      walk_at "E"
      refine iter_str (fun it => ?_) (by decide)
      refine pure_body (fun v => if decide (chr v ∈ m) then some v else none) (by decide +kernel) (by rfl) (by kernel_rfl) (by decide) (fun S' hs => trivial) (fun C acc2 k v ys hv => ?_) (fun acc2 C o => ?_)
      · obtain ⟨c, rfl, hcm⟩ := item_St (m := [33, 45]) hv
        generalize hE2 : compEnvC _ _ C env = env2
        have hx2 : env2.cells.lookup (Str.ofString "members") = some cm := by subst hE2; kernel_rfl
        refine tests_one ?_
        walk_at "E"
        refine op_in_mem (hmem _ fun p hp => by simp [hp]) ?_
        walk_at "E"
        rw [chr_St]
        refine cb_ite (fun q => ?_) fun q => ?_
        · rw [q]
          walk_at "E"
          exact ⟨rfl, by walk_at "b"⟩
        · rw [q]
          exact ⟨rfl, by walk_at "b"⟩
      · refine ⟨_, _, .head, ?_⟩
        dsimp only
        have efm2 := fm_chr (fun c => decide (c ∈ m)) [33, 45]
        try dsimp only at efm2
        rw [show (srcStr [33, 45]).items = ([33, 45] : List Nat).map fun c => St [c] from rfl, efm2]
        have hfl2 : (([33, 45] : List Nat).filter fun c => decide (c ∈ m)).length ≤ 2 := List.length_filter_le _ _
        generalize hg2 : (([33, 45] : List Nat).filter fun c => decide (c ∈ m)) = g2 at hfl2 ⊢
        refine op_add_list (fun d => ?_) (.own (by walk_at "m")) (.own (by walk_at "m")) (by simp; omega)
        refine' iop_add_list ?_ ?u ?hb ?hz
        case u => walk_at "u"
        case hb => walk_at "s"
        case hz => simp; omega
        walk_at "e"
        walk_at "e"
        have er : (row2 m).map St ++ (g1.map (fun c => St [c]) ++ g2.map (fun c => St [c])) = (rowAll m).map St := by
          subst hg1 hg2
          simp only [rowAll, List.map_append, List.map_map]
          rfl
        rw [er]
        have hra : (rowAll m).length ≤ 1010 := by
          unfold rowAll
          rw [hg1, hg2]
          simp only [List.length_append, List.length_map]; omega
        refine wbF (S' := (rw, .list ((rowAll m).map St)) :: (L, .ns (LB (some (.bool barred)) (some (.bool strewn)) (some (.ref rw)))) :: S) (F' := F) (by walk_at "b") ?_
        walk_at "E"
        refine cv_cut (St (if barred then [33] else [])) ⟨(rw, .list ((rowAll m).map St)) :: (L, .ns (LB (some (.bool barred)) (some (.bool strewn)) (some (.ref rw)))) :: S, F⟩ ?_ ?_
        · refine cv_ifexp ?_
          walk_at "E"
          refine cb_ite (fun q => ?_) fun q => ?_
          · subst q; walk_at "E"; exact ⟨rfl, rfl⟩
          · subst q; walk_at "E"; exact ⟨rfl, rfl⟩
        refine op_add_str (by cases barred <;> decide) ?_
        walk_at "E"
        refine cut_list (fun d1 => ?_) (.own (by walk_at "m")) .none (.int _) (by simp; omega)
        rw [slc_t (j := 1) _ 1 rfl, ← List.map_take]
        have ht1 : ((rowAll m).take 1).length ≤ 1 := by rw [List.length_take]; omega
        refine cv_cutP (fun v σ₁ => ∃ d, v = .ref d ∧ Back ((d, .list ((if strewn then [[98, 45, 97]] else []).map St)) :: (d1, .list (((rowAll m).take 1).map St)) :: (rw, .list ((rowAll m).map St)) :: (L, .ns (LB (some (.bool barred)) (some (.bool strewn)) (some (.ref rw)))) :: S) F σ₁) ?_ ?_
        · refine cv_ifexp ?_
          walk_at "E"
          refine cb_ite (fun q => ?_) fun q => ?_
          · subst q; walk_at "E"; intro d; exact ⟨d, rfl, by simp only [if_true, List.map_cons, List.map_nil]; walk_at "b"⟩
          · subst q; walk_at "E"; intro d; exact ⟨d, rfl, by simp only [Bool.false_eq_true, if_false, List.map_nil]; walk_at "b"⟩
        rintro v σ₁ ⟨d2, rfl, hb⟩
        refine wbO hb ?_
        clear hb
        have hs2 : (if strewn = true then [[98, 45, 97]] else [] : List (List Nat)).length ≤ 1 := by cases strewn <;> decide
        have hs3 : (if strewn = true then [[98, 45, 97]] else [] : List (List Nat)).flatten.length ≤ 3 := by cases strewn <;> decide
        refine op_add_list (fun d3 => ?_) (.own (by walk_at "m")) (.own (by walk_at "m")) (by simp; omega)
        rw [← List.map_append]
        refine wbV (S' := (d3, .list (((rowAll m).take 1 ++ (if strewn then [[98, 45, 97]] else [])).map St)) :: (rw, .list ((rowAll m).map St)) :: (L, .ns (LB (some (.bool barred)) (some (.bool strewn)) (some (.ref rw)))) :: S) (F' := F) (by walk_at "b") ?_
        walk_at "E"
        refine cut_list (fun d4 => ?_) (.own (by walk_at "m")) (.int _) .none (by simp; omega)
        rw [slc_f (i := 1) _ 1 rfl, ← List.map_drop]
        have hdl : ((rowAll m).drop 1).length ≤ 1010 := by rw [List.length_drop]; omega
        refine op_add_list (fun d5 => ?_) (.own (by walk_at "m")) (.own (by walk_at "m")) (by simp only [List.length_map, List.length_append]; omega)
        rw [← List.map_append]
        walk_at "E"
        have hone : ∀ y ∈ rowAll m, y.length ≤ 3 := by
          intro y hy
          unfold rowAll row2 row1 at hy
          simp only [List.mem_append] at hy
          rcases hy with (hy | hy) | hy | hy
          · split at hy
            · split at hy <;> simp at hy <;> subst hy <;> decide
            · cases hy
          · split at hy
            · simp at hy; subst hy; decide
            · cases hy
          · obtain ⟨c, _, rfl⟩ := List.mem_map.mp hy; simp
          · obtain ⟨c, _, rfl⟩ := List.mem_map.mp hy; simp
        have hsum : ∀ l : List (List Nat), (∀ y ∈ l, y.length ≤ 3) → l.flatten.length ≤ 3 * l.length := by
          intro l
          induction l with
          | nil => intro _; simp
          | cons y r ih =>
            intro hy
            have h1 := hy y (.head _)
            have h2 := ih fun z hz => hy z (.tail _ hz)
            simp only [List.flatten_cons, List.length_append, List.length_cons]
            omega
        have hf1 := hsum ((rowAll m).take 1) fun y hy => hone y (List.mem_of_mem_take hy)
        have hf2 := hsum ((rowAll m).drop 1) fun y hy => hone y (List.mem_of_mem_drop hy)
        refine cal_join_list (ys := (rowAll m).take 1 ++ (if strewn then [[98, 45, 97]] else []) ++ (rowAll m).drop 1) ?_ (.own (by walk_at "m")) ?_
        · rw [intercalate_nil]
          have hfl3 : ((rowAll m).take 1 ++ (if strewn = true then [[98, 45, 97]] else []) ++ (rowAll m).drop 1).flatten.length ≤ 5000 := by
            simp only [List.flatten_append, List.length_append]; omega
          have hb1 : (if barred = true then [33] else [] : List Nat).length ≤ 1 := by cases barred <;> decide
          refine op_add_str (by simp only [List.length_append, List.length_cons, List.length_nil]; omega) ?_
          walk_at "E"
          refine op_add_str (by simp only [List.length_append, List.length_cons, List.length_nil] at hfl3 ⊢; omega) ?_
          walk_at "E"
          exact h _ (by walk_at "b")
        · simp only [List.length_nil, Nat.mul_zero]
          rw [← List.length_flatten]
          simp only [List.flatten_append, List.length_append]; omega
  · simp only [List.length_nil, Nat.mul_zero]
    rw [← List.length_flatten]; omega

noncomputable def sgs (u : List Nat) : List (Nat × Nat) := u.map fun c => (c, if c = 92 ∨ c = 45 ∨ amp c = true then 1 else 0)
theorem sgs_append (a b : List Nat) : sgs (a ++ b) = sgs a ++ sgs b := by simp [sgs]
theorem cloak_esc : ∀ u : List Nat, cloak (esc u) = (sgs u).flatMap enc
  | [] => rfl
  | c :: r => by
    have ih := cloak_esc r
    have e : esc (c :: r) = esc [c] ++ esc r := by
      unfold esc
      rw [show c :: r = [c] ++ r from rfl, rep_append, rep_append]
    rw [e, cloak_append, ih]
    have h1 : cloak (esc [c]) = enc (c, if c = 92 ∨ c = 45 ∨ amp c = true then 1 else 0) := by
      by_cases q : c = 92
      · subst q; rfl
      · by_cases q2 : c = 45
        · subst q2; rfl
        · have e1 : esc [c] = [c] := by simp [esc, rep, q, q2]
          rw [e1]
          cases q3 : amp c with
          | true => simp [cloak, enc, q3]
          | false => simp [cloak, enc, q3, q, q2]
    rw [h1]
    simp [sgs]
noncomputable def sgJ : List (List Nat) → List (Nat × Nat)
  | [] => []
  | [c] => sgs c
  | c :: r => sgs c ++ (45, 0) :: sgJ r
theorem cloak_sgJ : ∀ M : List (List Nat), cloak (List.intercalate [45] (M.map esc)) = (sgJ M).flatMap enc
  | [] => rfl
  | [c] => by
    have e : List.intercalate [45] ([c].map esc) = esc c := by simp [List.intercalate]
    rw [e, cloak_esc]; rfl
  | c :: d :: r => by
    have ih := cloak_sgJ (d :: r)
    have e : List.intercalate [45] ((c :: d :: r).map esc) = esc c ++ ([45] ++ List.intercalate [45] ((d :: r).map esc)) := by simp [List.intercalate, List.intersperse]
    rw [e, cloak_append, cloak_append, cloak_esc, ih]
    show _ = (sgs c ++ (45, 0) :: sgJ (d :: r)).flatMap enc
    rw [List.flatMap_append, List.flatMap_cons]
    rfl
theorem cutT : ∀ (u : List Nat) (k : Nat) (cur : List Nat) (hy : Bool), 45 ∉ u → cur ++ u ≠ [] →
    cutD k cur (u ++ if hy then [45] else []) = ([], cur ++ u ++ if hy then [45] else []) ∨ (hy = true ∧ cutD k cur (u ++ if hy then [45] else []) = ([cur ++ u], []))
  | [], k, cur, false, _, _ => .inl (by cases k <;> simp [cutD])
  | [], 0, cur, true, _, _ => .inr ⟨rfl, by simp [cutD]⟩
  | [], k + 1, cur, true, _, _ => .inl (by simp [cutD])
  | c :: r, 0, cur, hy, h, h0 => by
    have hc : c ≠ 45 := fun e => h (by simp [e])
    have hr : 45 ∉ r := fun e => h (.tail _ e)
    have := cutT r 0 (cur ++ [c]) hy hr (by simp)
    rw [List.cons_append, cutD, if_neg hc]
    simpa using this
  | c :: r, k + 1, cur, hy, h, h0 => by
    have hr : 45 ∉ r := fun e => h (.tail _ e)
    have := cutT r k (cur ++ [c]) hy hr (by simp)
    rw [List.cons_append, cutD]
    simpa using this
noncomputable def finC (x : List (List Nat) × List Nat) : List (List Nat) := if x.2 = [] then x.1.dropLast ++ [x.1.getLastD [] ++ [45]] else x.1 ++ [x.2]
theorem finC_cut {u : List Nat} (k : Nat) {cur : List Nat} {hy : Bool} (h : 45 ∉ u) (h0 : cur ++ u ≠ []) (a : List (List Nat)) :
    finC (a ++ (cutD k cur (u ++ if hy then [45] else [])).1, (cutD k cur (u ++ if hy then [45] else [])).2) = a ++ [cur ++ u ++ if hy then [45] else []] := by
  rcases cutT u k cur hy h h0 with e | ⟨rfl, e⟩
  · rw [e]
    have hne : cur ++ u ++ (if hy = true then [45] else []) ≠ [] := by simpa using fun x y => absurd (List.append_eq_nil_iff.mpr ⟨x, y⟩) h0
    unfold finC
    rw [if_neg hne]
    simp
  · rw [e]
    unfold finC
    rw [if_pos rfl]
    simp [List.getLastD_eq_getLast?]
theorem chunks_of (skip : Nat) (s : List Nat) : chunksOf skip s = finC (cutD skip [] s) := rfl
noncomputable def pass (g : Nat → Bool) (l : List Nat) : List Nat := l.filter (fun a => !g a) ++ l.filter g
theorem pass_perm (g : Nat → Bool) (l : List Nat) : (pass g l).Perm l := by
  unfold pass
  refine List.Perm.trans List.perm_append_comm ?_
  exact List.filter_append_perm g l
noncomputable def Below (key : Nat → Nat) (t : Nat) (a b : Nat) : Prop := key a % 2 ^ t < key b % 2 ^ t ∨ (key a % 2 ^ t = key b % 2 ^ t ∧ a < b)
theorem mod_step (x t : Nat) : x % 2 ^ (t + 1) = x % 2 ^ t + if x.testBit t then 2 ^ t else 0 := by
  rw [Nat.pow_succ, Nat.mod_mul, Nat.testBit_eq_decide_div_mod_eq]
  have h2 : x / 2 ^ t % 2 = 0 ∨ x / 2 ^ t % 2 = 1 := by omega
  rcases h2 with e | e <;> rw [e] <;> simp
theorem pass_below (key : Nat → Nat) (t : Nat) (g : Nat → Bool) (hg : ∀ a, g a = (key a).testBit t) {l : List Nat} (h : l.Pairwise (Below key t)) : (pass g l).Pairwise (Below key (t + 1)) := by
  have hlt : ∀ a, key a % 2 ^ t < 2 ^ t := fun a => Nat.mod_lt _ (Nat.two_pow_pos t)
  unfold pass
  rw [List.pairwise_append]
  refine ⟨?_, ?_, ?_⟩
  · refine List.Pairwise.imp_of_mem ?_ (h.sublist List.filter_sublist)
    intro a b ha hb hab
    have h1 := (List.mem_filter.mp ha).2
    have h2 := (List.mem_filter.mp hb).2
    rw [hg] at h1 h2
    unfold Below
    rw [mod_step, mod_step]
    simp only [Bool.not_eq_true'] at h1 h2
    simp only [h1, h2, Bool.false_eq_true, if_false, Nat.add_zero]
    exact hab
  · refine List.Pairwise.imp_of_mem ?_ (h.sublist List.filter_sublist)
    intro a b ha hb hab
    have h1 := (List.mem_filter.mp ha).2
    have h2 := (List.mem_filter.mp hb).2
    rw [hg] at h1 h2
    unfold Below
    rw [mod_step, mod_step]
    simp only [h1, h2, if_true]
    unfold Below at hab
    omega
  · intro a ha b hb
    have h1 := (List.mem_filter.mp ha).2
    have h2 := (List.mem_filter.mp hb).2
    rw [hg] at h1 h2
    simp only [Bool.not_eq_true'] at h1
    unfold Below
    rw [mod_step, mod_step]
    simp only [h1, h2, if_true, Bool.false_eq_true, if_false, Nat.add_zero]
    left
    have := hlt a
    omega
noncomputable def passes (g : Nat → Nat → Bool) : Nat → List Nat → List Nat
  | 0, l => l
  | t + 1, l => pass (g t) (passes g t l)
theorem passes_perm (g : Nat → Nat → Bool) (l : List Nat) : ∀ t, (passes g t l).Perm l
  | 0 => .refl _
  | t + 1 => (pass_perm _ _).trans (passes_perm g l t)
theorem passes_below (key : Nat → Nat) (g : Nat → Nat → Bool) (n T : Nat) (hg : ∀ t, t < T → ∀ a, g t a = (key a).testBit t) : ∀ t, t ≤ T → (passes g t (List.range n)).Pairwise (Below key t)
  | 0, _ => by
    refine List.Pairwise.imp ?_ List.pairwise_lt_range
    intro a b hab
    exact .inr ⟨by simp [Nat.mod_one], hab⟩
  | t + 1, h => pass_below key t (g t) (hg t (by omega)) (passes_below key g n T hg t (by omega))
theorem asc_unique {r : Nat → Nat} : ∀ {a b : List Nat}, a.Perm b → a.Pairwise (fun x y => r x < r y) → b.Pairwise (fun x y => r x < r y) → a = b
  | [], b, p, _, _ => by simpa using p.symm.eq_nil
  | x :: a, [], p, _, _ => by have := p.length_eq; simp at this
  | x :: a, y :: b, p, h1, h2 => by
    have hx : x ∈ y :: b := p.mem_iff.mp (.head _)
    have hy : y ∈ x :: a := p.mem_iff.mpr (.head _)
    have e : x = y := by
      rcases List.mem_cons.mp hx with e | hx
      · exact e
      · rcases List.mem_cons.mp hy with e | hy
        · exact e.symm
        · have l1 := (List.pairwise_cons.mp h1).1 y hy
          have l2 := (List.pairwise_cons.mp h2).1 x hx
          omega
    subst e
    rw [asc_unique (List.Perm.cons_inv p) (List.pairwise_cons.mp h1).2 (List.pairwise_cons.mp h2).2]
theorem asc_pairwise {r : Nat → Nat} {is : List Nat} {n : Nat} (hl : is.length = n) (h : ∀ i j, i < j → j < n → r (is.getD i 0) < r (is.getD j 0)) : is.Pairwise (fun x y => r x < r y) := by
  rw [List.pairwise_iff_getElem]
  intro i j hi hj hij
  have := h i j hij (by omega)
  simpa [List.getD, hi, hj] using this
noncomputable def keyF (f : List Nat) : Nat := f.getD 0 0 * 64 + f.getD 1 0 * 8 + f.getD 2 0
noncomputable def figOk (f : List Nat) : Prop := f.length ≤ 3 ∧ ∀ c ∈ f, 0 < c ∧ c < 8
noncomputable def figBit (t : Nat) (f : List Nat) : Bool := match f[2 - t / 3]? with
  | some c => c / 2 ^ (t % 3) % 2 == 1
  | none => false
theorem key_bit : ∀ a < 8, ∀ b < 8, ∀ c < 8, ∀ t < 9, (a * 64 + b * 8 + c).testBit t = ((if t < 3 then c else if t < 6 then b else a) / 2 ^ (t % 3) % 2 == 1) := by decide +kernel
theorem nine_of : ∀ t < 9, ((if t < 3 then 2 else if t < 6 then 1 else 0) = 2 - t / 3) := by decide +kernel
theorem keyF_bit {f : List Nat} (h : figOk f) (t : Nat) (ht : t < 9) : figBit t f = (keyF f).testBit t := by
  obtain ⟨hl, hc⟩ := h
  have get : (f.getD (2 - t / 3) 0 / 2 ^ (t % 3) % 2 == 1) = figBit t f := by
    unfold figBit
    rw [List.getD_eq_getElem?_getD]
    cases f[2 - t / 3]? with
    | none => rw [Option.getD_none, Nat.zero_div]; rfl
    | some c => rfl
  have lt8 : ∀ i, f.getD i 0 < 8 := by
    intro i
    rw [List.getD_eq_getElem?_getD]
    cases q : f[i]? with
    | none => exact Nat.zero_lt_succ _
    | some c => exact (hc c (List.mem_of_getElem? q)).2
  rw [← get, keyF, key_bit _ (lt8 0) _ (lt8 1) _ (lt8 2) t ht, ← nine_of t ht]
  by_cases q : t < 3
  · rw [if_pos q, if_pos q]
  · rw [if_neg q, if_neg q]
    by_cases q2 : t < 6
    · rw [if_pos q2, if_pos q2]
    · rw [if_neg q2, if_neg q2]
noncomputable def valF : Nat → List Nat → Nat
  | 0, _ => 0
  | _ + 1, [] => 0
  | n + 1, c :: r => c * 8 ^ n + valF n r
theorem valF_lt : ∀ (n : Nat) (f : List Nat), (∀ c ∈ f, 0 < c ∧ c < 8) → valF n f < 8 ^ n
  | 0, _, _ => Nat.zero_lt_succ _
  | n + 1, [], _ => Nat.pow_pos (by decide)
  | n + 1, c :: r, h => by
    have h1 := valF_lt n r fun d hd => h d (.tail _ hd)
    have h2 := (h c (.head _)).2
    have h3 : c * 8 ^ n ≤ 7 * 8 ^ n := Nat.mul_le_mul_right _ (Nat.le_of_lt_succ h2)
    show c * 8 ^ n + valF n r < 8 ^ (n + 1)
    rw [Nat.pow_succ]; omega
theorem valF_lex : ∀ (n : Nat) (f g : List Nat), f.length ≤ n → g.length ≤ n → (∀ c ∈ f, 0 < c ∧ c < 8) → (∀ c ∈ g, 0 < c ∧ c < 8) →
    (f = g ↔ valF n f = valF n g) ∧ lexI (f.map fun c : Nat => (c : Int)) (g.map fun c : Nat => (c : Int)) = decide (valF n f < valF n g)
  | n, [], [], _, _, _, _ => ⟨⟨fun _ => rfl, fun _ => rfl⟩, by rw [decide_eq_false (Nat.lt_irrefl _)]; rfl⟩
  | n + 1, [], d :: t, _, _, _, hg => by
    have h2 := (hg d (.head _)).1
    have h3 : 0 < d * 8 ^ n := Nat.mul_pos h2 (Nat.pow_pos (by decide))
    have h4 : valF (n + 1) [] < valF (n + 1) (d :: t) := Nat.lt_of_lt_of_le h3 (Nat.le_add_right _ _)
    exact ⟨⟨(fun e => by cases e), fun e => absurd e (Nat.ne_of_lt h4)⟩, by rw [decide_eq_true h4]; rfl⟩
  | n + 1, c :: r, [], _, _, hf, _ => by
    have h2 := (hf c (.head _)).1
    have h3 : 0 < c * 8 ^ n := Nat.mul_pos h2 (Nat.pow_pos (by decide))
    have h4 : valF (n + 1) [] < valF (n + 1) (c :: r) := Nat.lt_of_lt_of_le h3 (Nat.le_add_right _ _)
    exact ⟨⟨(fun e => by cases e), fun e => absurd e.symm (Nat.ne_of_lt h4)⟩, by rw [decide_eq_false (Nat.lt_asymm h4)]; rfl⟩
  | n + 1, c :: r, d :: t, h1, h2, hf, hg => by
    obtain ⟨i1, i2⟩ := valF_lex n r t (Nat.le_of_succ_le_succ h1) (Nat.le_of_succ_le_succ h2) (fun x hx => hf x (.tail _ hx)) (fun x hx => hg x (.tail _ hx))
    have a1 := valF_lt n r fun x hx => hf x (.tail _ hx)
    have a2 := valF_lt n t fun x hx => hg x (.tail _ hx)
    rw [List.map_cons, List.map_cons, lexI]
    show (c :: r = d :: t ↔ c * 8 ^ n + valF n r = d * 8 ^ n + valF n t) ∧ _ = decide (c * 8 ^ n + valF n r < d * 8 ^ n + valF n t)
    rcases Nat.lt_trichotomy c d with q | q | q
    · have a3 : c * 8 ^ n + 8 ^ n ≤ d * 8 ^ n := by rw [← Nat.succ_mul]; exact Nat.mul_le_mul_right _ q
      have a4 : c * 8 ^ n + valF n r < d * 8 ^ n + valF n t := by omega
      refine ⟨⟨(fun e => by injection e with e1 _; omega), fun e => absurd e (Nat.ne_of_lt a4)⟩, ?_⟩
      rw [if_neg (by omega), decide_eq_true a4]
      exact decide_eq_true (by omega)
    · subst q
      rw [if_pos rfl, i2]
      exact ⟨⟨(fun e => by injection e with _ e2; rw [e2]), fun e => by rw [i1.mpr (by omega)]⟩, decide_eq_decide.mpr (by omega)⟩
    · have a3 : d * 8 ^ n + 8 ^ n ≤ c * 8 ^ n := by rw [← Nat.succ_mul]; exact Nat.mul_le_mul_right _ q
      have a4 : d * 8 ^ n + valF n t < c * 8 ^ n + valF n r := by omega
      refine ⟨⟨(fun e => by injection e with e1 _; omega), fun e => absurd e.symm (Nat.ne_of_lt a4)⟩, ?_⟩
      rw [if_neg (by omega), decide_eq_false (Nat.lt_asymm a4)]
      exact decide_eq_false (by omega)
theorem keyF_val (f : List Nat) (hl : f.length ≤ 3) : keyF f = valF 3 f := by
  match f, hl with
  | [], _ => rfl
  | [a], _ => show a * 64 + 0 * 8 + 0 = a * 64 + 0; rw [Nat.zero_mul]
  | [a, b], _ => show a * 64 + b * 8 + 0 = a * 64 + (b * 8 + 0); rfl
  | [a, b, c], _ => show a * 64 + b * 8 + c = a * 64 + (b * 8 + (c * 1 + 0)); omega
theorem lexI_key {f g : List Nat} (hf : figOk f) (hg : figOk g) : (f = g ↔ keyF f = keyF g) ∧ lexI (f.map fun c : Nat => (c : Int)) (g.map fun c : Nat => (c : Int)) = decide (keyF f < keyF g) := by
  rw [keyF_val f hf.1, keyF_val g hg.1]
  exact valF_lex 3 f g hf.1 hg.1 hf.2 hg.2
theorem keyF_lt {f : List Nat} (h : figOk f) : keyF f < 512 := by
  rw [keyF_val f h.1]
  exact valF_lt 3 f h.2
noncomputable def rankF (fig : Nat → List Nat) (k : Nat) : Nat := keyF (fig k) * 64 + k
theorem rank_inj {fig : Nat → List Nat} {n : Nat} (hn : n < 64) (i j : Nat) (hi : i < n) (hj : j < n) (h : rankF fig i = rankF fig j) : i = j := by unfold rankF at h; omega
theorem rank_lt {fig : Nat → List Nat} {n : Nat} (hn : n < 64) (hf : ∀ k, k < n → figOk (fig k)) (i j : Nat) (hi : i < n) (hj : j < n) :
    (if (fig i).map (fun c : Nat => (c : Int)) = (fig j).map (fun c : Nat => (c : Int)) then decide ((i : Int) < j) else lexI ((fig i).map fun c : Nat => (c : Int)) ((fig j).map fun c : Nat => (c : Int))) = decide (rankF fig i < rankF fig j) := by
  obtain ⟨h1, h2⟩ := lexI_key (hf i hi) (hf j hj)
  have hinj : (fig i).map (fun c : Nat => (c : Int)) = (fig j).map (fun c : Nat => (c : Int)) ↔ fig i = fig j := by
    constructor
    · intro h
      exact (List.map_inj_right (fun x y e => by have e' : (x : Int) = y := e; omega)).mp h
    · intro h; rw [h]
  unfold rankF
  by_cases q : fig i = fig j
  · rw [if_pos (hinj.mpr q), q]
    apply decide_eq_decide.mpr
    omega
  · rw [if_neg (fun z => q (hinj.mp z)), h2]
    have : keyF (fig i) ≠ keyF (fig j) := fun z => q (h1.mpr z)
    apply decide_eq_decide.mpr
    omega
theorem nine {fig : Nat → List Nat} {n : Nat} (hn : n < 64) (hf : ∀ k, figOk (fig k)) {is : List Nat} (hp : is.Perm (List.range n)) (hs : ∀ i j, i < j → j < n → rankF fig (is.getD i 0) < rankF fig (is.getD j 0)) :
    passes (fun t k => figBit t (fig k)) 9 (List.range n) = is := by
  refine asc_unique (r := rankF fig) ((passes_perm _ _ 9).trans hp.symm) ?_ (asc_pairwise (by simpa using hp.length_eq) hs)
  have := passes_below (fun k => keyF (fig k)) (fun t k => figBit t (fig k)) n 9 (fun t ht a => keyF_bit (hf a) t ht) 9 (Nat.le_refl _)
  refine List.Pairwise.imp_of_mem ?_ this
  intro a b ha hb hab
  have ha' : a < n := List.mem_range.mp ((passes_perm _ _ 9).mem_iff.mp ha)
  have hb' : b < n := List.mem_range.mp ((passes_perm _ _ 9).mem_iff.mp hb)
  unfold Below at hab
  rw [Nat.mod_eq_of_lt (keyF_lt (hf a)), Nat.mod_eq_of_lt (keyF_lt (hf b))] at hab
  unfold rankF
  omega

noncomputable def preB (B : List Nat) : List (List Nat) → List (List Nat)
  | [] => []
  | c :: r => (B ++ c) :: r
noncomputable abbrev bB (b : Bool) : List Nat := if b then [33] else []
noncomputable abbrev bS (b : Bool) : Nat := if b then 2 else 1
noncomputable abbrev hB (b : Bool) : List Nat := if b then [45] else []
noncomputable def ShOk (v : List Nat) (M : List (List Nat)) : Prop :=
  ∀ b : Bool, trans2 (bS b) (bB b ++ v) = List.intercalate [45] ((preB (bB b) M).map esc) ∧ (45 ∈ bB b ++ v → mergeOk (chunksOf (bS b) (bB b ++ v)) = true)
theorem rep92_no45 : ∀ s : List Nat, 45 ∉ s → 45 ∉ rep 92 [92, 92] s := by
  intro s h hm
  unfold rep at hm
  obtain ⟨d, hd, e⟩ := List.mem_flatMap.mp hm
  by_cases q : d = 92
  · rw [if_pos q] at e; simp at e
  · rw [if_neg q] at e
    have : 45 = d := by simpa using e
    exact h (this ▸ hd)
theorem sh_one {v : List Nat} (h0 : v ≠ []) (h : ∀ b, chunksOf (bS b) (bB b ++ v) = [bB b ++ v]) : ShOk v [v] := by
  intro b
  have hne : bB b ++ v ≠ [] := by simpa using fun _ => h0
  constructor
  · unfold trans2
    by_cases q : 45 ∈ bB b ++ v
    · rw [if_pos q, h b]; rfl
    · rw [if_neg q]
      have e : esc (bB b ++ v) = rep 92 [92, 92] (bB b ++ v) := rep_free _ _ _ (rep92_no45 _ q)
      show _ = List.intercalate [45] [esc (bB b ++ v)]
      rw [e]
      simp [List.intercalate]
  · intro _
    rw [h b]
    simp only [mergeOk, mergeB, Bool.and_true, bne_iff_ne, ne_eq]
    exact hne
theorem sh_some {v : List Nat} {M : List (List Nat)} (h45 : 45 ∈ v) (h : ∀ b, mergeB (chunksOf (bS b) (bB b ++ v)) = preB (bB b) M ∧ mergeOk (chunksOf (bS b) (bB b ++ v)) = true) : ShOk v M := by
  intro b
  have q : 45 ∈ bB b ++ v := List.mem_append_right _ h45
  refine ⟨?_, fun _ => (h b).2⟩
  unfold trans2
  rw [if_pos q, (h b).1]
section
variable {u : List Nat} {hy : Bool} (h : 45 ∉ u)
include h
theorem sh1 (c : Nat) : ShOk (c :: (u ++ hB hy)) [c :: (u ++ hB hy)] := by
  refine sh_one (by simp) fun b => ?_
  rw [chunks_of]
  cases b
  · exact finC_cut (u := u) 0 (cur := [c]) h (by simp) []
  · exact finC_cut (u := u) 0 (cur := [33, c]) h (by simp) []
theorem sh2 (c : Nat) : ShOk (c :: 98 :: 45 :: 97 :: (u ++ hB hy)) [c :: (u ++ hB hy)] := by
  refine sh_some (by simp) fun b => ?_
  rw [chunks_of]
  cases b
  · have e : finC (cutD (bS false) [] (bB false ++ c :: 98 :: 45 :: 97 :: (u ++ hB hy))) = [[c, 98], 97 :: (u ++ hB hy)] := finC_cut (u := u) 1 (cur := [97]) h (by simp) [[c, 98]]
    rw [e]; exact ⟨rfl, rfl⟩
  · have e : finC (cutD (bS true) [] (bB true ++ c :: 98 :: 45 :: 97 :: (u ++ hB hy))) = [[33, c, 98], 97 :: (u ++ hB hy)] := finC_cut (u := u) 1 (cur := [97]) h (by simp) [[33, c, 98]]
    rw [e]; exact ⟨rfl, rfl⟩
theorem sh3 (c d : Nat) (hcd : c < d) : ShOk (c :: 45 :: d :: (u ++ hB hy)) [[c], d :: (u ++ hB hy)] := by
  refine sh_some (by simp) fun b => ?_
  rw [chunks_of]
  have hn : ¬ d < c := by omega
  cases b
  · have e : finC (cutD (bS false) [] (bB false ++ c :: 45 :: d :: (u ++ hB hy))) = [[c], d :: (u ++ hB hy)] := finC_cut (u := u) 1 (cur := [d]) h (by simp) [[c]]
    rw [e]; exact ⟨by simp [mergeB, hn, preB, bB], by simp [mergeOk, mergeB]⟩
  · have e : finC (cutD (bS true) [] (bB true ++ c :: 45 :: d :: (u ++ hB hy))) = [[33, c], d :: (u ++ hB hy)] := finC_cut (u := u) 1 (cur := [d]) h (by simp) [[33, c]]
    rw [e]; exact ⟨by simp [mergeB, hn, preB, bB], by simp [mergeOk, mergeB]⟩
theorem sh4 (c d : Nat) (hcd : c < d) : ShOk (c :: 45 :: d :: 98 :: 45 :: 97 :: (u ++ hB hy)) [[c], d :: (u ++ hB hy)] := by
  refine sh_some (by simp) fun b => ?_
  rw [chunks_of]
  have hn : ¬ d < c := by omega
  cases b
  · have e : finC (cutD (bS false) [] (bB false ++ c :: 45 :: d :: 98 :: 45 :: 97 :: (u ++ hB hy))) = [[c], [d, 98], 97 :: (u ++ hB hy)] := finC_cut (u := u) 1 (cur := [97]) h (by simp) [[c], [d, 98]]
    rw [e]; exact ⟨by simp [mergeB, hn, preB, bB], by simp [mergeOk, mergeB]⟩
  · have e : finC (cutD (bS true) [] (bB true ++ c :: 45 :: d :: 98 :: 45 :: 97 :: (u ++ hB hy))) = [[33, c], [d, 98], 97 :: (u ++ hB hy)] := finC_cut (u := u) 1 (cur := [97]) h (by simp) [[33, c], [d, 98]]
    rw [e]; exact ⟨by simp [mergeB, hn, preB, bB], by simp [mergeOk, mergeB]⟩
theorem sh7 : ShOk (93 :: 91 :: 45 :: 92 :: (u ++ hB hy)) [[93, 91], 92 :: (u ++ hB hy)] := by
  refine sh_some (by simp) fun b => ?_
  rw [chunks_of]
  cases b
  · have e : finC (cutD (bS false) [] (bB false ++ 93 :: 91 :: 45 :: 92 :: (u ++ hB hy))) = [[93, 91], 92 :: (u ++ hB hy)] := finC_cut (u := u) 1 (cur := [92]) h (by simp) [[93, 91]]
    rw [e]; exact ⟨by simp [mergeB, preB, bB], by simp [mergeOk, mergeB]⟩
  · have e : finC (cutD (bS true) [] (bB true ++ 93 :: 91 :: 45 :: 92 :: (u ++ hB hy))) = [[33, 93, 91], 92 :: (u ++ hB hy)] := finC_cut (u := u) 1 (cur := [92]) h (by simp) [[33, 93, 91]]
    rw [e]; exact ⟨by simp [mergeB, preB, bB], by simp [mergeOk, mergeB]⟩
theorem sh8 : ShOk (93 :: 98 :: 45 :: 97 :: 91 :: 45 :: 92 :: (u ++ hB hy)) [[93, 91], 92 :: (u ++ hB hy)] := by
  refine sh_some (by simp) fun b => ?_
  rw [chunks_of]
  cases b
  · have e : finC (cutD (bS false) [] (bB false ++ 93 :: 98 :: 45 :: 97 :: 91 :: 45 :: 92 :: (u ++ hB hy))) = [[93, 98], [97, 91], 92 :: (u ++ hB hy)] := finC_cut (u := u) 1 (cur := [92]) h (by simp) [[93, 98], [97, 91]]
    rw [e]; exact ⟨by simp [mergeB, preB, bB], by simp [mergeOk, mergeB]⟩
  · have e : finC (cutD (bS true) [] (bB true ++ 93 :: 98 :: 45 :: 97 :: 91 :: 45 :: 92 :: (u ++ hB hy))) = [[33, 93, 98], [97, 91], 92 :: (u ++ hB hy)] := finC_cut (u := u) 1 (cur := [92]) h (by simp) [[33, 93, 98], [97, 91]]
    rw [e]; exact ⟨by simp [mergeB, preB, bB], by simp [mergeOk, mergeB]⟩
theorem sh9 : ShOk (93 :: 45 :: 94 :: 91 :: 45 :: 92 :: (u ++ hB hy)) [[93], [94, 91], 92 :: (u ++ hB hy)] := by
  refine sh_some (by simp) fun b => ?_
  rw [chunks_of]
  cases b
  · have e : finC (cutD (bS false) [] (bB false ++ 93 :: 45 :: 94 :: 91 :: 45 :: 92 :: (u ++ hB hy))) = [[93], [94, 91], 92 :: (u ++ hB hy)] := finC_cut (u := u) 1 (cur := [92]) h (by simp) [[93], [94, 91]]
    rw [e]; exact ⟨by simp [mergeB, preB, bB], by simp [mergeOk, mergeB]⟩
  · have e : finC (cutD (bS true) [] (bB true ++ 93 :: 45 :: 94 :: 91 :: 45 :: 92 :: (u ++ hB hy))) = [[33, 93], [94, 91], 92 :: (u ++ hB hy)] := finC_cut (u := u) 1 (cur := [92]) h (by simp) [[33, 93], [94, 91]]
    rw [e]; exact ⟨by simp [mergeB, preB, bB], by simp [mergeOk, mergeB]⟩
theorem sh10 : ShOk (93 :: 45 :: 94 :: 98 :: 45 :: 97 :: 91 :: 45 :: 92 :: (u ++ hB hy)) [[93], [94, 91], 92 :: (u ++ hB hy)] := by
  refine sh_some (by simp) fun b => ?_
  rw [chunks_of]
  cases b
  · have e : finC (cutD (bS false) [] (bB false ++ 93 :: 45 :: 94 :: 98 :: 45 :: 97 :: 91 :: 45 :: 92 :: (u ++ hB hy))) = [[93], [94, 98], [97, 91], 92 :: (u ++ hB hy)] := finC_cut (u := u) 1 (cur := [92]) h (by simp) [[93], [94, 98], [97, 91]]
    rw [e]; exact ⟨by simp [mergeB, preB, bB], by simp [mergeOk, mergeB]⟩
  · have e : finC (cutD (bS true) [] (bB true ++ 93 :: 45 :: 94 :: 98 :: 45 :: 97 :: 91 :: 45 :: 92 :: (u ++ hB hy))) = [[33, 93], [94, 98], [97, 91], 92 :: (u ++ hB hy)] := finC_cut (u := u) 1 (cur := [92]) h (by simp) [[33, 93], [94, 98], [97, 91]]
    rw [e]; exact ⟨by simp [mergeB, preB, bB], by simp [mergeOk, mergeB]⟩
end

noncomputable def cov (l : List (Nat × Nat)) (c : Nat) : Prop := ∃ p ∈ l, p.1 ≤ c ∧ c ≤ p.2
theorem cov_cons (p : Nat × Nat) (l : List (Nat × Nat)) (c : Nat) : cov (p :: l) c ↔ (p.1 ≤ c ∧ c ≤ p.2) ∨ cov l c := by simp [cov]
theorem cov_diag (w : List Nat) (c : Nat) : cov (w.map fun d => (d, d)) c ↔ c ∈ w := by
  simp only [cov, List.mem_map]
  constructor
  · rintro ⟨p, ⟨d, hd, rfl⟩, h1, h2⟩
    have : c = d := by dsimp only at h1 h2; omega
    subst this; exact hd
  · intro h
    exact ⟨(c, c), ⟨c, h, rfl⟩, Nat.le_refl _, Nat.le_refl _⟩
theorem sgs_no (w : List Nat) : ∀ q ∈ sgs w, q ≠ (45, 0) := by
  intro q hq
  obtain ⟨c, _, rfl⟩ := List.mem_map.mp hq
  intro e
  injection e with e1 e2
  subst e1
  simp at e2
theorem ranges_p (p : Nat × Nat) : ∀ l : List (Nat × Nat), (∀ q, l.head? = some q → q ≠ (45, 0)) → rangesOf (p :: l) = (p.1, p.1) :: rangesOf l
  | [], _ => rfl
  | [q], _ => rfl
  | q :: r :: t, h => by
    rw [rangesOf, if_neg (h q rfl)]
theorem ranges_r (p r : Nat × Nat) (t : List (Nat × Nat)) : rangesOf (p :: (45, 0) :: r :: t) = (p.1, r.1) :: rangesOf t := by
  rw [rangesOf, if_pos rfl]
theorem sgs_head (w : List Nat) : ∀ q, (sgs w).head? = some q → q ≠ (45, 0) := fun q hq => sgs_no w q (List.mem_of_head? hq)
theorem ranges_sgs : ∀ w : List Nat, rangesOf (sgs w) = w.map fun d => (d, d)
  | [] => rfl
  | c :: r => by
    rw [show sgs (c :: r) = (c, if c = 92 ∨ c = 45 ∨ amp c = true then 1 else 0) :: sgs r from rfl, ranges_p _ _ (sgs_head r), ranges_sgs r]
    rfl
theorem ranges_ps (p : Nat × Nat) (w : List Nat) : rangesOf (p :: sgs w) = (p.1, p.1) :: w.map fun d => (d, d) := by rw [ranges_p _ _ (sgs_head w), ranges_sgs]
noncomputable def sing (m : List Nat) : List Nat := m.filter fun c => decide (c ∉ told m)
noncomputable def bang (m : List Nat) : List Nat := if 33 ∈ m then [33] else []
noncomputable def hyp (m : List Nat) : Bool := decide (45 ∈ m)
theorem post_eq (m : List Nat) : (([33, 45] : List Nat).filter fun c => decide (c ∈ m)) = bang m ++ hB (hyp m) := by
  unfold bang hyp hB
  by_cases q : 33 ∈ m <;> by_cases q2 : 45 ∈ m <;> simp [q, q2]
noncomputable def bodyB (m : List Nat) (strewn : Bool) : List Nat := ((rowAll m).take 1 ++ (if strewn then [[98, 45, 97]] else []) ++ (rowAll m).drop 1).flatten
theorem brk_eq (m : List Nat) (b st : Bool) : brk m b st = [91] ++ ((bB b ++ bodyB m st) ++ [93]) := by simp [brk, bodyB, bB]
noncomputable def tailRows (m : List Nat) : List (List Nat) := ((m.filter fun c => decide (c ∉ told m)).map fun c => [c]) ++ (([33, 45] : List Nat).filter fun c => decide (c ∈ m)).map fun c => [c]
theorem flat_sing : ∀ l : List Nat, (l.map fun c => [c]).flatten = l
  | [] => rfl
  | c :: r => by simp [flat_sing r]
theorem tail_flat (m : List Nat) : (tailRows m).flatten = sing m ++ bang m ++ hB (hyp m) := by
  unfold tailRows
  rw [List.flatten_append, flat_sing, flat_sing, post_eq, List.append_assoc]
  rfl
theorem rowAll_eq (m : List Nat) : rowAll m = row2 m ++ tailRows m := rfl
theorem told_eq (m : List Nat) : told m = [33, 45] ++ (row2 m).flatten := rfl
theorem mem_sing {m : List Nat} {c : Nat} : c ∈ sing m ↔ c ∈ m ∧ c ∉ told m := by simp [sing]
theorem no45 (m : List Nat) : 45 ∉ sing m ++ bang m := by
  intro h
  rcases List.mem_append.mp h with h | h
  · exact (mem_sing.mp h).2 (by simp [told])
  · unfold bang at h; split at h <;> simp at h
theorem mem_w {m : List Nat} {c : Nat} : c ∈ sing m ++ bang m ++ hB (hyp m) ↔ c ∈ m ∧ (c ∉ told m ∨ c = 33 ∨ c = 45) := by
  have h1 : c ∈ bang m ↔ c ∈ m ∧ c = 33 := by
    unfold bang
    by_cases q : 33 ∈ m
    · rw [if_pos q]
      constructor
      · intro h; have : c = 33 := by simpa using h
        subst this; exact ⟨q, rfl⟩
      · rintro ⟨_, rfl⟩; simp
    · rw [if_neg q]
      constructor
      · intro h; cases h
      · rintro ⟨h, rfl⟩; exact absurd h q
  have h2 : c ∈ hB (hyp m) ↔ c ∈ m ∧ c = 45 := by
    unfold hB hyp
    by_cases q : 45 ∈ m
    · rw [decide_eq_true q, if_pos rfl]
      constructor
      · intro h; have : c = 45 := by simpa using h
        subst this; exact ⟨q, rfl⟩
      · rintro ⟨_, rfl⟩; simp
    · rw [decide_eq_false q, if_neg (by decide)]
      constructor
      · intro h; cases h
      · rintro ⟨h, rfl⟩; exact absurd h q
  rw [List.mem_append, List.mem_append, mem_sing, h1, h2]
  constructor
  · rintro ((⟨a, b⟩ | ⟨a, b⟩) | ⟨a, b⟩)
    · exact ⟨a, .inl b⟩
    · exact ⟨a, .inr (.inl b)⟩
    · exact ⟨a, .inr (.inr b)⟩
  · rintro ⟨a, b | b | b⟩
    · exact .inl (.inl ⟨a, b⟩)
    · exact .inl (.inr ⟨a, b⟩)
    · exact .inr ⟨a, b⟩
structure BrOk (m v : List Nat) (M : List (List Nat)) (a e : Nat) (T : List (Nat × Nat)) : Prop where
  sh : ShOk v M
  sg : sgJ M = (a, e) :: T
  ne : M ≠ []
  a33 : a ≠ 33
  e0 : (a = 94 ∨ a = 91) → e = 0
  ok0 : e = 1 ∨ (e = 0 ∧ a ≠ 92)
  ok : ∀ q ∈ T, q.2 = 1 ∨ (q.2 = 0 ∧ q.1 ≠ 92 ∧ q.1 ≠ 93)
  cv : ∀ e' c, cov (rangesOf ((a, e') :: T)) c ↔ c ∈ m
  hd : ∃ r, v = a :: r ∧ 93 ∉ r
  small : ∀ q ∈ T, q.1 < 128
  a128 : a < 128
  len : T.length ≤ m.length + 10
  vlen : v.length ≤ m.length + 20
theorem ok_sgs {w : List Nat} (h : 93 ∉ w) : ∀ q ∈ sgs w, q.2 = 1 ∨ (q.2 = 0 ∧ q.1 ≠ 92 ∧ q.1 ≠ 93) := by
  intro q hq
  obtain ⟨c, hc, rfl⟩ := List.mem_map.mp hq
  by_cases k : c = 92 ∨ c = 45 ∨ amp c = true
  · left; simp [k]
  · right
    refine ⟨by simp [k], fun e => k (.inl e), fun e => h (e ▸ hc)⟩
theorem len_bits (m : List Nat) : (sing m).length ≤ m.length ∧ (bang m).length ≤ 1 ∧ (hB (hyp m)).length ≤ 1 := by
  refine ⟨List.length_filter_le _ _, ?_, ?_⟩
  · unfold bang; split <;> simp
  · unfold hB; split <;> simp
theorem mk_br {m v : List Nat} {M : List (List Nat)} {a e : Nat} (X : List (Nat × Nat)) (V w : List Nat) (sh : ShOk v M) (sg : sgJ M = (a, e) :: (X ++ sgs w)) (hX : (X.all fun q => (q.2 == 1 || (q.2 == 0 && q.1 != 92 && q.1 != 93)) && decide (q.1 < 128)) = true) (hXl : X.length ≤ 8)
    (hv : v = a :: (V ++ w)) (hV : 93 ∉ V) (hVl : V.length ≤ 10) (w93 : 93 ∉ w) (w128 : ∀ c ∈ w, c < 128) (wl : w.length ≤ m.length + 2) (a33 : a ≠ 33) (e0 : (a = 94 ∨ a = 91) → e = 0) (ok0 : e = 1 ∨ (e = 0 ∧ a ≠ 92)) (a128 : a < 128) (ne : M ≠ [])
    (cv : ∀ e' c, cov (rangesOf ((a, e') :: (X ++ sgs w))) c ↔ c ∈ m) : BrOk m v M a e (X ++ sgs w) := by
  refine ⟨sh, sg, ne, a33, e0, ok0, ?_, cv, ⟨V ++ w, hv, ?_⟩, ?_, a128, ?_, ?_⟩
  · intro q hq
    rcases List.mem_append.mp hq with hq | hq
    · have := List.all_eq_true.mp hX q hq
      simp only [Bool.and_eq_true, Bool.or_eq_true, beq_iff_eq, bne_iff_ne, decide_eq_true_eq] at this
      rcases this.1 with h | h
      · exact .inl h
      · exact .inr ⟨h.1.1, h.1.2, h.2⟩
    · exact ok_sgs w93 q hq
  · simp only [List.mem_append, not_or]; exact ⟨hV, w93⟩
  · intro q hq
    rcases List.mem_append.mp hq with hq | hq
    · have := List.all_eq_true.mp hX q hq
      simp only [Bool.and_eq_true, decide_eq_true_eq] at this
      exact this.2
    · obtain ⟨c, hc, rfl⟩ := List.mem_map.mp hq
      exact w128 c hc
  · simp [sgs]; omega
  · rw [hv]; simp; omega
theorem bracket_ok (m : List Nat) (st : Bool) (h128 : ∀ c ∈ m, c < 128) (hne : ∃ c ∈ m, c ≠ 33 ∧ c ≠ 45) : ∃ M a e T, BrOk m (bodyB m st) M a e T := by
  obtain ⟨l1, l2, l3⟩ := len_bits m
  have hw128 : ∀ c ∈ sing m ++ bang m ++ hB (hyp m), c < 128 := fun c hc => h128 c (mem_w.mp hc).1
  have hwl : (sing m ++ bang m ++ hB (hyp m)).length ≤ m.length + 2 := by simp only [List.length_append]; omega
  have hy := no45 m
  by_cases q93 : 93 ∈ m
  · have w93 : 93 ∉ sing m ++ bang m ++ hB (hyp m) := by
      intro h
      have := (mem_w.mp h).2
      rcases this with h | h | h
      · refine h ?_
        rw [told_eq]
        unfold row2 row1
        rw [if_pos q93]
        by_cases q : 94 ∈ m <;> simp [q]
      · omega
      · omega
    by_cases q94 : 94 ∈ m
    · have hr1 : row1 m = [[93, 45, 94]] := by simp [row1, q93, q94]
      by_cases qs : 91 ∈ m ∧ 92 ∈ m
      · have hr2 : row2 m = [[93, 45, 94], [91, 45, 92]] := by simp [row2, hr1, qs]
        have ht : told m = [33, 45, 93, 45, 94, 91, 45, 92] := by simp [told_eq, hr2]
        have cv : ∀ e' c, cov (rangesOf ((93, e') :: ([(45, 0), (94, 0), (91, 0), (45, 0), (92, 1)] ++ sgs (sing m ++ bang m ++ hB (hyp m))))) c ↔ c ∈ m := by
          intro e' c
          show cov (rangesOf ((93, e') :: (45, 0) :: (94, 0) :: ((91, 0) :: (45, 0) :: (92, 1) :: sgs (sing m ++ bang m ++ hB (hyp m))))) c ↔ _
          rw [ranges_r, ranges_r, ranges_sgs, cov_cons, cov_cons, cov_diag, mem_w, ht]
          simp only [List.mem_cons, List.not_mem_nil, or_false]
          constructor
          · rintro (h | h | h)
            · have : c = 93 ∨ c = 94 := by omega
              rcases this with rfl | rfl <;> assumption
            · have : c = 91 ∨ c = 92 := by omega
              rcases this with rfl | rfl
              · exact qs.1
              · exact qs.2
            · exact h.1
          · intro h
            by_cases k1 : 93 ≤ c ∧ c ≤ 94
            · exact .inl k1
            · by_cases k2 : 91 ≤ c ∧ c ≤ 92
              · exact .inr (.inl k2)
              · exact .inr (.inr ⟨h, by omega⟩)
        refine ⟨[[93], [94, 91], 92 :: (sing m ++ bang m ++ hB (hyp m))], 93, 0, [(45, 0), (94, 0), (91, 0), (45, 0), (92, 1)] ++ sgs (sing m ++ bang m ++ hB (hyp m)), ?_⟩
        cases st
        · have e : bodyB m false = 93 :: 45 :: 94 :: 91 :: 45 :: 92 :: (sing m ++ bang m ++ hB (hyp m)) := by
            unfold bodyB; rw [rowAll_eq, hr2, ← tail_flat]; simp
          exact mk_br [(45, 0), (94, 0), (91, 0), (45, 0), (92, 1)] [45, 94, 91, 45, 92] _ (by rw [e]; exact sh9 hy) rfl (by rfl) (by decide) e (by decide) (by decide) w93 hw128 hwl (by decide) (by decide) (.inr ⟨rfl, by decide⟩) (by decide) (by simp) cv
        · have e : bodyB m true = 93 :: 45 :: 94 :: 98 :: 45 :: 97 :: 91 :: 45 :: 92 :: (sing m ++ bang m ++ hB (hyp m)) := by
            unfold bodyB; rw [rowAll_eq, hr2, ← tail_flat]; simp
          exact mk_br [(45, 0), (94, 0), (91, 0), (45, 0), (92, 1)] [45, 94, 98, 45, 97, 91, 45, 92] _ (by rw [e]; exact sh10 hy) rfl (by rfl) (by decide) e (by decide) (by decide) w93 hw128 hwl (by decide) (by decide) (.inr ⟨rfl, by decide⟩) (by decide) (by simp) cv
      · have hr2 : row2 m = [[93, 45, 94]] := by unfold row2; rw [hr1, if_neg qs]; rfl
        have ht : told m = [33, 45, 93, 45, 94] := by simp [told_eq, hr2]
        have cv : ∀ e' c, cov (rangesOf ((93, e') :: ([(45, 0), (94, 0)] ++ sgs (sing m ++ bang m ++ hB (hyp m))))) c ↔ c ∈ m := by
          intro e' c
          show cov (rangesOf ((93, e') :: (45, 0) :: (94, 0) :: sgs (sing m ++ bang m ++ hB (hyp m)))) c ↔ _
          rw [ranges_r, ranges_sgs, cov_cons, cov_diag, mem_w, ht]
          simp only [List.mem_cons, List.not_mem_nil, or_false]
          constructor
          · rintro (h | h)
            · have : c = 93 ∨ c = 94 := by omega
              rcases this with rfl | rfl <;> assumption
            · exact h.1
          · intro h
            by_cases k1 : 93 ≤ c ∧ c ≤ 94
            · exact .inl k1
            · exact .inr ⟨h, by omega⟩
        refine ⟨[[93], 94 :: (sing m ++ bang m ++ hB (hyp m))], 93, 0, [(45, 0), (94, 0)] ++ sgs (sing m ++ bang m ++ hB (hyp m)), ?_⟩
        cases st
        · have e : bodyB m false = 93 :: 45 :: 94 :: (sing m ++ bang m ++ hB (hyp m)) := by
            unfold bodyB; rw [rowAll_eq, hr2, ← tail_flat]; simp
          exact mk_br [(45, 0), (94, 0)] [45, 94] _ (by rw [e]; exact sh3 hy 93 94 (by decide)) rfl (by rfl) (by decide) e (by decide) (by decide) w93 hw128 hwl (by decide) (by decide) (.inr ⟨rfl, by decide⟩) (by decide) (by simp) cv
        · have e : bodyB m true = 93 :: 45 :: 94 :: 98 :: 45 :: 97 :: (sing m ++ bang m ++ hB (hyp m)) := by
            unfold bodyB; rw [rowAll_eq, hr2, ← tail_flat]; simp
          exact mk_br [(45, 0), (94, 0)] [45, 94, 98, 45, 97] _ (by rw [e]; exact sh4 hy 93 94 (by decide)) rfl (by rfl) (by decide) e (by decide) (by decide) w93 hw128 hwl (by decide) (by decide) (.inr ⟨rfl, by decide⟩) (by decide) (by simp) cv
    · have hr1 : row1 m = [[93]] := by simp [row1, q93, q94]
      by_cases qs : 91 ∈ m ∧ 92 ∈ m
      · have hr2 : row2 m = [[93], [91, 45, 92]] := by simp [row2, hr1, qs]
        have ht : told m = [33, 45, 93, 91, 45, 92] := by simp [told_eq, hr2]
        have cv : ∀ e' c, cov (rangesOf ((93, e') :: ([(91, 0), (45, 0), (92, 1)] ++ sgs (sing m ++ bang m ++ hB (hyp m))))) c ↔ c ∈ m := by
          intro e' c
          show cov (rangesOf ((93, e') :: (91, 0) :: (45, 0) :: (92, 1) :: sgs (sing m ++ bang m ++ hB (hyp m)))) c ↔ _
          rw [ranges_p _ _ (by simp), ranges_r, ranges_sgs, cov_cons, cov_cons, cov_diag, mem_w, ht]
          simp only [List.mem_cons, List.not_mem_nil, or_false]
          constructor
          · rintro (h | h | h)
            · have : c = 93 := by omega
              subst this; assumption
            · have : c = 91 ∨ c = 92 := by omega
              rcases this with rfl | rfl
              · exact qs.1
              · exact qs.2
            · exact h.1
          · intro h
            by_cases k1 : 93 ≤ c ∧ c ≤ 93
            · exact .inl k1
            · by_cases k2 : 91 ≤ c ∧ c ≤ 92
              · exact .inr (.inl k2)
              · exact .inr (.inr ⟨h, by omega⟩)
        refine ⟨[[93, 91], 92 :: (sing m ++ bang m ++ hB (hyp m))], 93, 0, [(91, 0), (45, 0), (92, 1)] ++ sgs (sing m ++ bang m ++ hB (hyp m)), ?_⟩
        cases st
        · have e : bodyB m false = 93 :: 91 :: 45 :: 92 :: (sing m ++ bang m ++ hB (hyp m)) := by
            unfold bodyB; rw [rowAll_eq, hr2, ← tail_flat]; simp
          exact mk_br [(91, 0), (45, 0), (92, 1)] [91, 45, 92] _ (by rw [e]; exact sh7 hy) rfl (by rfl) (by decide) e (by decide) (by decide) w93 hw128 hwl (by decide) (by decide) (.inr ⟨rfl, by decide⟩) (by decide) (by simp) cv
        · have e : bodyB m true = 93 :: 98 :: 45 :: 97 :: 91 :: 45 :: 92 :: (sing m ++ bang m ++ hB (hyp m)) := by
            unfold bodyB; rw [rowAll_eq, hr2, ← tail_flat]; simp
          exact mk_br [(91, 0), (45, 0), (92, 1)] [98, 45, 97, 91, 45, 92] _ (by rw [e]; exact sh8 hy) rfl (by rfl) (by decide) e (by decide) (by decide) w93 hw128 hwl (by decide) (by decide) (.inr ⟨rfl, by decide⟩) (by decide) (by simp) cv
      · have hr2 : row2 m = [[93]] := by unfold row2; rw [hr1, if_neg qs]; rfl
        have ht : told m = [33, 45, 93] := by simp [told_eq, hr2]
        have cv : ∀ e' c, cov (rangesOf ((93, e') :: ([] ++ sgs (sing m ++ bang m ++ hB (hyp m))))) c ↔ c ∈ m := by
          intro e' c
          rw [List.nil_append, ranges_ps, cov_cons, cov_diag, mem_w, ht]
          simp only [List.mem_cons, List.not_mem_nil, or_false]
          constructor
          · rintro (h | h)
            · have : c = 93 := by omega
              subst this; assumption
            · exact h.1
          · intro h
            by_cases k1 : 93 ≤ c ∧ c ≤ 93
            · exact .inl k1
            · exact .inr ⟨h, by omega⟩
        refine ⟨[93 :: (sing m ++ bang m ++ hB (hyp m))], 93, 0, [] ++ sgs (sing m ++ bang m ++ hB (hyp m)), ?_⟩
        cases st
        · have e : bodyB m false = 93 :: (sing m ++ bang m ++ hB (hyp m)) := by
            unfold bodyB; rw [rowAll_eq, hr2, ← tail_flat]; simp
          exact mk_br [] [] _ (by rw [e]; exact sh1 hy 93) rfl (by rfl) (by decide) e (by decide) (by decide) w93 hw128 hwl (by decide) (by decide) (.inr ⟨rfl, by decide⟩) (by decide) (by simp) cv
        · have e : bodyB m true = 93 :: 98 :: 45 :: 97 :: (sing m ++ bang m ++ hB (hyp m)) := by
            unfold bodyB; rw [rowAll_eq, hr2, ← tail_flat]; simp
          exact mk_br [] [98, 45, 97] _ (by rw [e]; exact sh2 hy 93) rfl (by rfl) (by decide) e (by decide) (by decide) w93 hw128 hwl (by decide) (by decide) (.inr ⟨rfl, by decide⟩) (by decide) (by simp) cv
  · have w93 : 93 ∉ sing m ++ bang m ++ hB (hyp m) := fun h => q93 (mem_w.mp h).1
    have hr1 : row1 m = [] := by simp [row1, q93]
    by_cases qs : 91 ∈ m ∧ 92 ∈ m
    · have hr2 : row2 m = [[91, 45, 92]] := by simp [row2, hr1, qs]
      have ht : told m = [33, 45, 91, 45, 92] := by simp [told_eq, hr2]
      have cv : ∀ e' c, cov (rangesOf ((91, e') :: ([(45, 0), (92, 1)] ++ sgs (sing m ++ bang m ++ hB (hyp m))))) c ↔ c ∈ m := by
        intro e' c
        show cov (rangesOf ((91, e') :: (45, 0) :: (92, 1) :: sgs (sing m ++ bang m ++ hB (hyp m)))) c ↔ _
        rw [ranges_r, ranges_sgs, cov_cons, cov_diag, mem_w, ht]
        simp only [List.mem_cons, List.not_mem_nil, or_false]
        constructor
        · rintro (h | h)
          · have : c = 91 ∨ c = 92 := by omega
            rcases this with rfl | rfl
            · exact qs.1
            · exact qs.2
          · exact h.1
        · intro h
          by_cases k1 : 91 ≤ c ∧ c ≤ 92
          · exact .inl k1
          · exact .inr ⟨h, by omega⟩
      refine ⟨[[91], 92 :: (sing m ++ bang m ++ hB (hyp m))], 91, 0, [(45, 0), (92, 1)] ++ sgs (sing m ++ bang m ++ hB (hyp m)), ?_⟩
      cases st
      · have e : bodyB m false = 91 :: 45 :: 92 :: (sing m ++ bang m ++ hB (hyp m)) := by
          unfold bodyB; rw [rowAll_eq, hr2, ← tail_flat]; simp
        exact mk_br [(45, 0), (92, 1)] [45, 92] _ (by rw [e]; exact sh3 hy 91 92 (by decide)) rfl (by rfl) (by decide) e (by decide) (by decide) w93 hw128 hwl (by decide) (by decide) (.inr ⟨rfl, by decide⟩) (by decide) (by simp) cv
      · have e : bodyB m true = 91 :: 45 :: 92 :: 98 :: 45 :: 97 :: (sing m ++ bang m ++ hB (hyp m)) := by
          unfold bodyB; rw [rowAll_eq, hr2, ← tail_flat]; simp
        exact mk_br [(45, 0), (92, 1)] [45, 92, 98, 45, 97] _ (by rw [e]; exact sh4 hy 91 92 (by decide)) rfl (by rfl) (by decide) e (by decide) (by decide) w93 hw128 hwl (by decide) (by decide) (.inr ⟨rfl, by decide⟩) (by decide) (by simp) cv
    · have hr2 : row2 m = [] := by unfold row2; rw [hr1, if_neg qs]; rfl
      have ht : told m = [33, 45] := by simp [told_eq, hr2]
      obtain ⟨c0, s', hs⟩ : ∃ c0 s', sing m = c0 :: s' := by
        obtain ⟨c, hc, h1, h2⟩ := hne
        have : c ∈ sing m := mem_sing.mpr ⟨hc, by rw [ht]; simp; omega⟩
        cases q : sing m with
        | nil => rw [q] at this; cases this
        | cons c0 s' => exact ⟨c0, s', rfl⟩
      have hc0 : c0 ∈ m ∧ c0 ∉ told m := mem_sing.mp (by rw [hs]; exact .head _)
      have hc0' : c0 ≠ 33 ∧ c0 ≠ 45 := by have := hc0.2; rw [ht] at this; simp at this; omega
      have hw : sing m ++ bang m ++ hB (hyp m) = c0 :: (s' ++ bang m ++ hB (hyp m)) := by rw [hs]; rfl
      have hy' : 45 ∉ s' ++ bang m := fun h => hy (by rw [hs]; exact .tail _ h)
      have w93' : 93 ∉ s' ++ bang m ++ hB (hyp m) := fun h => w93 (by rw [hw]; exact .tail _ h)
      have hw128' : ∀ c ∈ s' ++ bang m ++ hB (hyp m), c < 128 := fun c hc => hw128 c (by rw [hw]; exact .tail _ hc)
      have hwl' : (s' ++ bang m ++ hB (hyp m)).length ≤ m.length + 2 := by rw [hw] at hwl; simp only [List.length_cons] at hwl; omega
      have cv : ∀ e' c, cov (rangesOf ((c0, e') :: ([] ++ sgs (s' ++ bang m ++ hB (hyp m))))) c ↔ c ∈ m := by
        intro e' c
        rw [List.nil_append, ranges_ps, cov_cons, cov_diag]
        have := @mem_w m c
        rw [hw, ht, List.mem_cons] at this
        constructor
        · rintro (h | h)
          · have : c = c0 := by dsimp only at h; omega
            subst this; exact hc0.1
          · exact (this.mp (.inr h)).1
        · intro h
          have h2 := this.mpr ⟨h, by simp; omega⟩
          rcases h2 with rfl | h2
          · exact .inl ⟨Nat.le_refl _, Nat.le_refl _⟩
          · exact .inr h2
      have hok : (if c0 = 92 ∨ c0 = 45 ∨ amp c0 = true then 1 else 0) = 1 ∨ ((if c0 = 92 ∨ c0 = 45 ∨ amp c0 = true then 1 else 0) = 0 ∧ c0 ≠ 92) := by
        by_cases k : c0 = 92 ∨ c0 = 45 ∨ amp c0 = true
        · left; simp [k]
        · right; exact ⟨by simp [k], fun z => k (.inl z)⟩
      refine ⟨[c0 :: (s' ++ bang m ++ hB (hyp m))], c0, if c0 = 92 ∨ c0 = 45 ∨ amp c0 = true then 1 else 0, [] ++ sgs (s' ++ bang m ++ hB (hyp m)), ?_⟩
      have e0 : (c0 = 94 ∨ c0 = 91) → (if c0 = 92 ∨ c0 = 45 ∨ amp c0 = true then 1 else 0) = 0 := by rintro (rfl | rfl) <;> decide
      have etr : tailRows m = [c0] :: ((s'.map fun c => [c]) ++ (([33, 45] : List Nat).filter fun c => decide (c ∈ m)).map fun c => [c]) := by
        unfold tailRows
        have : (m.filter fun c => decide (c ∉ told m)) = c0 :: s' := hs
        rw [this]; rfl
      have etf : ((s'.map fun c => [c]) ++ (([33, 45] : List Nat).filter fun c => decide (c ∈ m)).map fun c => [c]).flatten = s' ++ bang m ++ hB (hyp m) := by
        rw [List.flatten_append, flat_sing, flat_sing, post_eq, List.append_assoc]
      cases st
      · have e : bodyB m false = c0 :: (s' ++ bang m ++ hB (hyp m)) := by
          unfold bodyB; rw [rowAll_eq, hr2, etr, ← etf]; simp
        exact mk_br [] [] _ (by rw [e]; exact sh1 hy' c0) rfl (by rfl) (by decide) e (by decide) (by decide) w93' hw128' hwl' hc0'.1 e0 hok (h128 c0 hc0.1) (by simp) cv
      · have e : bodyB m true = c0 :: 98 :: 45 :: 97 :: (s' ++ bang m ++ hB (hyp m)) := by
          unfold bodyB; rw [rowAll_eq, hr2, etr, ← etf]; simp
        exact mk_br [] [98, 45, 97] _ (by rw [e]; exact sh2 hy' c0) rfl (by rfl) (by decide) e (by decide) (by decide) w93' hw128' hwl' hc0'.1 e0 hok (h128 c0 hc0.1) (by simp) cv

theorem cloak_sub : ∀ (l : List Nat) (c : Nat), c ∈ l → c ∈ cloak l := by
  intro l c h
  unfold cloak
  refine List.mem_flatMap.mpr ⟨c, h, ?_⟩
  split <;> simp
theorem cloak_ge : ∀ l : List Nat, l.length ≤ (cloak l).length
  | [] => by simp [cloak]
  | c :: r => by
    have := cloak_ge r
    unfold cloak at this ⊢
    rw [List.flatMap_cons, List.length_append, List.length_cons]
    split
    · rw [show ([92, c] : List Nat).length = 2 from rfl]; omega
    · rw [show ([c] : List Nat).length = 1 from rfl]; omega
theorem enc_chars {p : Nat × Nat} (h : p.1 < 128) : ∀ c ∈ enc p, c < 128 := by
  intro c hc
  unfold enc at hc
  split at hc
  · have : c = p.1 := by simpa using hc
    omega
  · simp only [List.mem_cons, List.not_mem_nil, or_false] at hc; omega
theorem encs_len : ∀ sg : List (Nat × Nat), (sg.flatMap enc).length ≤ 2 * sg.length
  | [] => by simp
  | p :: r => by
    have := encs_len r
    rw [List.flatMap_cons, List.length_append, List.length_cons]
    have : (enc p).length ≤ 2 := by unfold enc; split <;> simp
    omega
theorem sgJ_pre (M : List (List Nat)) (h : M ≠ []) : sgJ (preB [33] M) = (33, 0) :: sgJ M := by
  match M, h with
  | [c], _ => rfl
  | c :: d :: r, _ => rfl
theorem fin3_same {a : Nat} {r : List Nat} (h1 : a ≠ 33) (h2 : a ≠ 94) (h3 : a ≠ 91) : fin3 (a :: r) = a :: r := by
  unfold fin3
  split
  · rename_i e; injection e with e1 _; exact absurd e1 h1
  · rename_i e; injection e with e1 _; exact absurd e1 h2
  · rename_i e; injection e with e1 _; exact absurd e1 h3
  · rfl
theorem bracket_all (m : List Nat) (b st : Bool) (h128 : ∀ c ∈ m, c < 128) (hne : ∃ c ∈ m, c ≠ 33 ∧ c ≠ 45) (hl : m.length ≤ 7) (pl : Nat) :
    (∃ j1 j2, (((List.replicate pl 63 ++ ([91] ++ ((bB b ++ bodyB m st) ++ [93, 42])))[pl + 1]? = some 33 ∧ j1 = pl + 1 + 1) ∨ ((List.replicate pl 63 ++ ([91] ++ ((bB b ++ bodyB m st) ++ [93, 42])))[pl + 1]? ≠ some 33 ∧ j1 = pl + 1)) ∧
      (((List.replicate pl 63 ++ ([91] ++ ((bB b ++ bodyB m st) ++ [93, 42])))[j1]? = some 93 ∧ j2 = j1 + 1) ∨ ((List.replicate pl 63 ++ ([91] ++ ((bB b ++ bodyB m st) ++ [93, 42])))[j1]? ≠ some 93 ∧ j2 = j1)) ∧
      j2 ≤ pl + 1 + (bB b ++ bodyB m st).length ∧ j1 ≤ pl + 1 + (bB b ++ bodyB m st).length ∧
      ∀ k, j2 ≤ k → k < pl + 1 + (bB b ++ bodyB m st).length → (List.replicate pl 63 ++ ([91] ++ ((bB b ++ bodyB m st) ++ [93, 42])))[k]? ≠ some 93) ∧
    bB b ++ bodyB m st ≠ [] ∧ (bB b ++ bodyB m st).length ≤ 28 ∧ bS b = (if (bB b ++ bodyB m st).head? = some 33 then 2 else 1) ∧
    (45 ∈ bB b ++ bodyB m st → mergeOk (chunksOf (bS b) (bB b ++ bodyB m st)) = true) ∧ (∀ c ∈ trans2 (bS b) (bB b ++ bodyB m st), c < 128) ∧ (trans2 (bS b) (bB b ++ bodyB m st)).length ≤ 3000 ∧
    cloak (trans2 (bS b) (bB b ++ bodyB m st)) ≠ [] ∧ cloak (trans2 (bS b) (bB b ++ bodyB m st)) ≠ [33] ∧
    ∃ sg : List (Nat × Nat), fin3 (cloak (trans2 (bS b) (bB b ++ bodyB m st))) = (if b then [94] else []) ++ sg.flatMap enc ∧ sg ≠ [] ∧ sg.length ≤ 100 ∧ (∀ i p, sg[i]? = some p → okS (i == 0) p) ∧
      (b = false → ∀ p, sg.head? = some p → p.2 = 0 → p.1 ≠ 94) ∧ ∀ c, cov (rangesOf sg) c ↔ c ∈ m := by
  obtain ⟨M, a, e, T, H⟩ := bracket_ok m st h128 hne
  obtain ⟨r, hv, hr⟩ := H.hd
  have hvl := H.vlen
  generalize hve : bodyB m st = v at hv hvl H ⊢
  have hsh := H.sh b
  have hcl : cloak (trans2 (bS b) (bB b ++ v)) = (sgJ (preB (bB b) M)).flatMap enc := by rw [hsh.1, cloak_sgJ]
  have hsgb : sgJ (preB (bB b) M) = (if b then [(33, 0)] else []) ++ (a, e) :: T := by
    cases b
    · have : preB (bB false) M = M := by cases M with
        | nil => rfl
        | cons c r => rfl
      rw [this, H.sg]; rfl
    · have := sgJ_pre M H.ne
      rw [show bB true = [33] from rfl, this, H.sg]; rfl
  have hge := cloak_ge (trans2 (bS b) (bB b ++ v))
  have hTl := H.len
  have hclen : (cloak (trans2 (bS b) (bB b ++ v))).length ≤ 2 * ((if b then [(33, 0)] else []) ++ (a, e) :: T).length := by rw [hcl, hsgb]; exact encs_len _
  have hbl : ((if b then [(33, 0)] else []) ++ (a, e) :: T).length ≤ m.length + 12 := by cases b <;> simp <;> omega
  have hx : ∀ k, (List.replicate pl 63 ++ ([91] ++ ((bB b ++ v) ++ [93, 42])))[pl + 1 + k]? = ((bB b ++ v) ++ [93, 42])[k]? := by
    intro k
    rw [List.getElem?_append_right (by simp; omega), List.getElem?_append_right (by simp; omega)]
    congr 1
    simp only [List.length_replicate, List.length_cons, List.length_nil]; omega
  refine ⟨?_, ?_, ?_, ?_, hsh.2, ?_, ?_, ?_, ?_, ?_⟩
  · have no93 : ∀ k, k < r.length → r[k]? ≠ some 93 := fun k _ e => hr (List.mem_of_getElem? e)
    have main : ∀ bl : Nat, (bB b).length = bl → ∃ j2, (((List.replicate pl 63 ++ ([91] ++ ((bB b ++ v) ++ [93, 42])))[pl + 1 + bl]? = some 93 ∧ j2 = pl + 1 + bl + 1) ∨ ((List.replicate pl 63 ++ ([91] ++ ((bB b ++ v) ++ [93, 42])))[pl + 1 + bl]? ≠ some 93 ∧ j2 = pl + 1 + bl)) ∧
        j2 ≤ pl + 1 + (bB b ++ v).length ∧ ∀ k, j2 ≤ k → k < pl + 1 + (bB b ++ v).length → (List.replicate pl 63 ++ ([91] ++ ((bB b ++ v) ++ [93, 42])))[k]? ≠ some 93 := by
      intro bl hbl
      have e0 : (List.replicate pl 63 ++ ([91] ++ ((bB b ++ v) ++ [93, 42])))[pl + 1 + bl]? = some a := by
        rw [hx, List.append_assoc, List.getElem?_append_right (by omega), hbl, hv]
        simp
      have hk : ∀ k, pl + 1 + bl + 1 ≤ k → k < pl + 1 + (bB b ++ v).length → (List.replicate pl 63 ++ ([91] ++ ((bB b ++ v) ++ [93, 42])))[k]? ≠ some 93 := by
        intro k h1 h2
        obtain ⟨d, rfl⟩ : ∃ d, k = pl + 1 + d := ⟨k - (pl + 1), by omega⟩
        have hd : d < (bB b ++ v).length := by omega
        rw [hx, List.getElem?_append_left hd, List.getElem?_append_right (by omega), hbl, hv]
        obtain ⟨d', e'⟩ : ∃ d', d - bl = d' + 1 := ⟨d - bl - 1, by omega⟩
        rw [e', List.getElem?_cons_succ]
        refine no93 d' ?_
        rw [hv, List.length_append, hbl, List.length_cons] at hd
        omega
      have hlv : (bB b ++ v).length = bl + 1 + r.length := by rw [List.length_append, hbl, hv, List.length_cons]; omega
      by_cases q : a = 93
      · refine ⟨pl + 1 + bl + 1, .inl ⟨by rw [e0, q], rfl⟩, by omega, hk⟩
      · refine ⟨pl + 1 + bl, .inr ⟨by rw [e0]; simpa using q, rfl⟩, by omega, fun k h1 h2 => ?_⟩
        by_cases q2 : k = pl + 1 + bl
        · rw [q2, e0]; simpa using q
        · exact hk k (by omega) h2
    cases b
    · obtain ⟨j2, h1, h2, h3⟩ := main 0 rfl
      refine ⟨pl + 1, j2, .inr ⟨?_, rfl⟩, h1, h2, by omega, h3⟩
      have := hx 0
      rw [Nat.add_zero] at this
      rw [this, hv]
      simpa [bB] using H.a33
    · obtain ⟨j2, h1, h2, h3⟩ := main 1 rfl
      refine ⟨pl + 1 + 1, j2, .inl ⟨?_, rfl⟩, h1, h2, by simp [bB], h3⟩
      have := hx 0
      rw [Nat.add_zero] at this
      rw [this]
      rfl
  · rw [hv]; simp
  · cases b <;> simp [bB] <;> omega
  · rw [hv]
    cases b
    · simp [bB, H.a33]
    · simp [bB]
  · intro c hc
    have h1 := cloak_sub _ c hc
    rw [hcl, hsgb] at h1
    obtain ⟨p, hp, hpc⟩ := List.mem_flatMap.mp h1
    refine enc_chars ?_ c hpc
    rcases List.mem_append.mp hp with hp | hp
    · cases b
      · cases hp
      · have : p = (33, 0) := by simpa using hp
        subst this; decide
    · rcases List.mem_cons.mp hp with rfl | hp
      · exact H.a128
      · exact H.small p hp
  · omega
  · rw [hcl, hsgb]
    cases b
    · simp only [Bool.false_eq_true, if_false, List.nil_append, List.flatMap_cons]
      unfold enc; split <;> simp
    · simp [enc]
  · rw [hcl, hsgb]
    cases b
    · simp only [Bool.false_eq_true, if_false, List.nil_append, List.flatMap_cons]
      unfold enc
      split
      · intro z
        simp only [List.cons_append, List.nil_append, List.cons.injEq] at z
        exact H.a33 z.1
      · intro z
        simp only [List.cons_append, List.nil_append, List.cons.injEq] at z
        exact absurd z.1 (by decide)
    · intro z
      have hz := congrArg List.length z
      simp only [if_true, List.singleton_append, List.flatMap_cons, List.length_append] at hz
      have e1 : (enc (33, 0)).length = 1 := rfl
      have e2 : 1 ≤ (enc (a, e)).length := by unfold enc; split <;> simp
      rw [e1] at hz
      simp only [List.length_cons, List.length_nil] at hz
      omega
  · have okT : ∀ e', (e' = 1 ∨ (e' = 0 ∧ a ≠ 92)) → ∀ i p, ((a, e') :: T)[i]? = some p → okS (i == 0) p := by
      intro e' he i p hp
      cases i with
      | zero =>
        have : (a, e') = p := by simpa using hp
        subst this
        rcases he with h | ⟨h1, h2⟩
        · exact .inl h
        · exact .inr ⟨h1, h2, .inl rfl⟩
      | succ i =>
        have hp' : T[i]? = some p := by simpa using hp
        rcases H.ok p (List.mem_of_getElem? hp') with h | ⟨h1, h2, h3⟩
        · exact .inl h
        · exact .inr ⟨h1, h2, .inr h3⟩
    rw [hcl, hsgb]
    cases b
    · simp only [Bool.false_eq_true, if_false, List.nil_append, List.flatMap_cons]
      by_cases q : a = 94 ∨ a = 91
      · have he := H.e0 q
        subst he
        refine ⟨(a, 1) :: T, ?_, by simp, by simp; omega, okT 1 (.inl rfl), fun _ p hp h0 => ?_, H.cv 1⟩
        · rcases q with rfl | rfl <;> simp [enc, fin3, List.flatMap_cons]
        · have : (a, 1) = p := by simpa using hp
          subst this; cases h0
      · refine ⟨(a, e) :: T, ?_, by simp, by simp; omega, okT e H.ok0, fun _ p hp h0 => ?_, H.cv e⟩
        · rw [List.flatMap_cons]
          unfold enc
          split
          · exact fin3_same H.a33 (fun z => q (.inl z)) (fun z => q (.inr z))
          · exact fin3_same (by decide) (by decide) (by decide)
        · have : (a, e) = p := by simpa using hp
          subst this
          exact fun z => q (.inl z)
    · refine ⟨(a, e) :: T, ?_, by simp, by simp; omega, okT e H.ok0, (fun h => absurd h (by decide)), H.cv e⟩
      simp only [if_true, List.singleton_append, List.flatMap_cons]
      rfl

noncomputable def fdAt (P : Params) (a : Addr) : Option FuncData := match (hd.heap_39 P).lookup a with
  | some o => (match o.data with | .func fd => some fd | _ => none)
  | none => none
noncomputable def bodyAt (P : Params) (a : Addr) : List Stmt := match fdAt P a with
  | some fd => (match fd.body with | .stmts b => b | _ => [])
  | none => []
noncomputable def whileBody : Option Stmt → List Stmt
  | some (.While _ b _ _) => b
  | _ => []
noncomputable def ifThen : Option Stmt → List Stmt
  | some (.If _ b _ _) => b
  | _ => []
noncomputable def ifElse : Option Stmt → List Stmt
  | some (.If _ _ b _) => b
  | _ => []
noncomputable def brPart (P : Params) : List Stmt := ifThen (ifElse (ifElse (whileBody (bodyAt P 69)[3]?)[2]?)[0]?)[0]?
noncomputable def stuffPart (P : Params) : List Stmt := ifElse (brPart P)[4]?
noncomputable def chunkStmt (P : Params) : Option Stmt := (stuffPart P)[1]?

noncomputable abbrev LT (pat st qm re ad i n c j stf chs k ch : Option Value) : List (Str × Option Value) :=
  [(Str.ofString "pat", pat), (Str.ofString "STAR", st), (Str.ofString "QUESTION_MARK", qm), (Str.ofString "res", re), (Str.ofString "add", ad), (Str.ofString "i", i), (Str.ofString "n", n), (Str.ofString "c", c), (Str.ofString "j", j), (Str.ofString "stuff", stf), (Str.ofString "chunks", chs), (Str.ofString "k", k), (Str.ofString "chunk", ch)]

noncomputable def qsT : List (Pos × Str) := [(⟨73, 39, 73, 76⟩, Str.ofString "_translate.<locals>.<lambda>")]
theorem cutD_len : ∀ (s : List Nat) (k : Nat) (cur : List Nat), (∀ c ∈ (cutD k cur s).1, c.length ≤ cur.length + s.length) ∧ (cutD k cur s).2.length ≤ cur.length + s.length
  | [], k, cur => by cases k <;> simp [cutD]
  | a :: r, 0, cur => by
    rw [cutD]
    have h1 := cutD_len r 2 []
    have h2 := cutD_len r 0 (cur ++ [a])
    split
    · refine ⟨fun c hc => ?_, ?_⟩
      · rcases List.mem_cons.mp hc with rfl | hc
        · simp
        · have := h1.1 c hc; simp at this ⊢; omega
      · have := h1.2; simp at this ⊢; omega
    · refine ⟨fun c hc => ?_, ?_⟩
      · have := h2.1 c hc; simp at this ⊢; omega
      · have := h2.2; simp at this ⊢; omega
  | a :: r, k + 1, cur => by
    rw [cutD]
    have h2 := cutD_len r k (cur ++ [a])
    refine ⟨fun c hc => ?_, ?_⟩
    · have := h2.1 c hc; simp at this ⊢; omega
    · have := h2.2; simp at this ⊢; omega
theorem mergeOk_drop : ∀ (cs : List (List Nat)) (k : Nat), mergeOk cs = true → mergeOk (cs.drop k) = true
  | cs, 0, h => h
  | [], k + 1, _ => rfl
  | c :: r, k + 1, h => by
    rw [List.drop_succ_cons]
    refine mergeOk_drop r k ?_
    rw [mergeOk, Bool.and_eq_true, Bool.and_eq_true] at h
    exact h.1.2
theorem mergeB_len : ∀ l : List (List Nat), (mergeB l).length ≤ l.length ∧ (mergeB l).flatten.length ≤ l.flatten.length
  | [] => by simp [mergeB]
  | c :: r => by
    have ih := mergeB_len r
    unfold mergeB
    split
    · rename_i h; simp
    · rename_i d r' h
      rw [h] at ih
      simp only [List.length_cons, List.flatten_cons, List.length_append] at ih ⊢
      split
      · simp only [List.length_cons, List.flatten_cons, List.length_append, List.length_dropLast, List.length_tail]; omega
      · simp only [List.length_cons, List.flatten_cons, List.length_append]; omega
theorem cutD_flat : ∀ (s : List Nat) (k : Nat) (cur : List Nat), (cutD k cur s).1.flatten.length + (cutD k cur s).2.length ≤ cur.length + s.length
  | [], k, cur => by cases k <;> simp [cutD]
  | a :: r, 0, cur => by
    rw [cutD]
    have h1 := cutD_flat r 2 []
    have h2 := cutD_flat r 0 (cur ++ [a])
    split
    · simp only [List.flatten_cons, List.length_append, List.length_cons, List.length_nil] at h1 ⊢; omega
    · simp only [List.length_append, List.length_cons, List.length_nil] at h2 ⊢; omega
  | a :: r, k + 1, cur => by
    rw [cutD]
    have h2 := cutD_flat r k (cur ++ [a])
    simp only [List.length_append, List.length_cons, List.length_nil] at h2 ⊢; omega
theorem chunks_flat (k : Nat) (s : List Nat) : (chunksOf k s).flatten.length ≤ s.length + 1 := by
  have h := cutD_flat s k []
  unfold chunksOf
  split
  · have e : ((cutD k [] s).1.dropLast ++ [(cutD k [] s).1.getLastD [] ++ [45]]).flatten.length ≤ (cutD k [] s).1.flatten.length + 1 := by
      cases hl : (cutD k [] s).1 with
      | nil => simp
      | cons a r =>
        have e1 : (a :: r).flatten = ((a :: r).dropLast ++ [(a :: r).getLast (by simp)]).flatten := by rw [List.dropLast_concat_getLast]
        have e2 : (a :: r).getLastD [] = (a :: r).getLast (by simp) := by rw [List.getLastD_eq_getLast?, List.getLast?_eq_some_getLast (by simp)]; rfl
        rw [e1, e2]
        simp only [List.flatten_append, List.flatten_cons, List.flatten_nil, List.append_nil, List.length_append, List.length_cons, List.length_nil]
        omega
    simp only [List.length_nil] at h
    omega
  · simp only [List.flatten_append, List.flatten_cons, List.flatten_nil, List.append_nil, List.length_append, List.length_nil] at h ⊢
    omega
theorem len_mem_flat {c : List Nat} : ∀ {l : List (List Nat)}, c ∈ l → c.length ≤ l.flatten.length
  | a :: r, h => by
    simp only [List.flatten_cons, List.length_append]
    rcases List.mem_cons.mp h with rfl | h
    · omega
    · have := len_mem_flat h; omega
theorem set_last {α : Type} : ∀ (l : List α) (v : α), l ≠ [] → l.set (l.length - 1) v = l.dropLast ++ [v]
  | [], _, h => absurd rfl h
  | [a], v, _ => rfl
  | a :: b :: r, v, _ => by
    have := set_last (b :: r) v (by simp)
    simp only [List.length_cons, Nat.add_sub_cancel, List.set_cons_succ, List.dropLast_cons₂, List.cons_append] at this ⊢
    rw [this]
theorem chunk_part {cx : Cx} {A : Around} {P : Params} {p : Program} {loose : List Str} {S : List (Addr × CO)} {F : Fz} {n : Nat} {fd : FuncData} {L : Addr} {env : Env} {t : Expr} {b1 b : List Stmt} {ps : Pos} (hfd : fdAt P 69 = some fd) (hE : env = fnEnv fd L 69) (hb : chunkStmt P = some (.If t b1 b ps))
    (hF : Fz.Le F (Fz.top p loose (hd.heap_39 P))) (hB : Fz.Le F Fz.bm) (room : Room A (n + 3)) (hP : (64, CO.tab 68 qsT) ∈ S) (x : List Nat) (i0 j0 : Nat) (sf : List Nat) (hij : i0 < j0) (hj : j0 ≤ x.length) (hx : x.length ≤ 1000) (hsf : (x.drop i0).take (j0 - i0) = sf) (h45 : 45 ∈ sf) (skip : Nat) (hskip : skip = if sf.head? = some 33 then 2 else 1)
    (hok : mergeOk (chunksOf skip sf) = true) (st qm re ad n0 c chs k ch : Option Value) :
    CF cx A (execs b env) (fun f σ' => f = .next ∧ ∃ i' chs' k' ch', Back ((L, .ns (LT (some (St x)) st qm re ad i' n0 c (some (In j0)) (some (St (List.intercalate [45] ((mergeB (chunksOf skip sf)).map esc)))) chs' k' ch')) :: S) F σ')
      ⟨(L, .ns (LT (some (St x)) st qm re ad (some (In i0)) n0 c (some (In j0)) (some (St sf)) chs k ch)) :: S, F⟩ := by
  refine cf_hide fun G hG => ?_
  have h0 : chunkStmt P = some (Stmt.If _ _ _ _) := rfl
  rw [h0] at hb
  injection hb with hb
  injection hb with _ _ hb _
  subst hb
  have h1 : fdAt P 69 = some _ := rfl
  rw [h1] at hfd
  injection hfd with hfd
  subst hfd
  walk_at "E"
  intro cl
  walk_at "E"
  -- facts
  have hsl : sf.length = j0 - i0 := by rw [← hsf, List.length_take, List.length_drop]; omega
  have hget : ∀ m, m < j0 - i0 → x[i0 + m]? = sf[m]? := fun m hm => by rw [← hsf, List.getElem?_take_of_lt hm, List.getElem?_drop]
  have hne : sf ≠ [] := fun z => by rw [z] at h45; cases h45
  obtain ⟨c0, hc0⟩ : ∃ c0, sf.head? = some c0 := by cases sf with | nil => exact absurd rfl hne | cons a r => exact ⟨a, rfl⟩
  have hx0 : x[i0]? = some c0 := by
    have := hget 0 (by omega)
    rw [Nat.add_zero] at this
    rw [this, ← List.head?_eq_getElem?]; exact hc0
  refine cv_cut (In (i0 + skip : Nat)) ⟨(cl, .list []) :: (L, .ns (LT (some (St x)) st qm re ad (some (In i0)) n0 c (some (In j0)) (some (St sf)) (some (.ref cl)) k ch)) :: S, F⟩ ?_ ?_
  · refine cv_ifexp ?_
    walk_at "E"
    refine sub_strN i0 c0 rfl hx0 (by omega) ?_ (fun _ _ => by with_unfolding_all rfl)
    walk_at "E"
    refine cb_ite (fun q => ?_) fun q => ?_
    · have : c0 = 33 := by simpa using of_decide_eq_true q
      have hs2 : skip = 2 := by rw [hskip, hc0, this]; rfl
      walk_at "E"
      rw [hs2]; exact ⟨rfl, rfl⟩
    · have : c0 ≠ 33 := by simpa using of_decide_eq_false q
      have hs2 : skip = 1 := by rw [hskip, hc0]; simp [this]
      walk_at "E"
      rw [hs2]; exact ⟨rfl, rfl⟩
  walk_at "E"
  refine cf_cutP (fun σ' => ∃ (i : Nat), i ≤ j0 ∧ (x.drop i).take (j0 - i) = (cutD skip [] sf).2 ∧ σ' = ⟨(cl, .list ((cutD skip [] sf).1.map St)) :: (L, .ns (LT (some (St x)) st qm re ad (some (In i)) n0 c (some (In j0)) (some (St sf)) (some (.ref cl)) (some (In (-1))) ch)) :: S, F⟩) ?_ ?_
  · refine cf_while (fun m σ => ∃ (i kk : Nat) (ys : List (List Nat)), m = j0 - i ∧ i ≤ j0 ∧ i ≤ kk ∧ kk ≤ j0 + 10 ∧ ys.length ≤ i ∧ ys ++ (cutD (kk - i) [] ((x.drop i).take (j0 - i))).1 = (cutD skip [] sf).1 ∧ (cutD (kk - i) [] ((x.drop i).take (j0 - i))).2 = (cutD skip [] sf).2 ∧
        σ = ⟨(cl, .list (ys.map St)) :: (L, .ns (LT (some (St x)) st qm re ad (some (In i)) n0 c (some (In j0)) (some (St sf)) (some (.ref cl)) (some (In kk)) ch)) :: S, F⟩) (j0 - i0) ⟨i0, i0 + skip, [], rfl, by omega, by omega, by rw [hskip]; split <;> omega, Nat.zero_le _, ?_, ?_, rfl⟩ ?_
    · rw [hsf, Nat.add_sub_cancel_left]; rfl
    · rw [hsf, Nat.add_sub_cancel_left]
    rintro m σ ⟨i, kk, ys, rfl, hi, hik, hkk, hyl, h1, h2, rfl⟩
    walk_at "E"
    simp only [if_true]
    walk_at "E"
    have hmin : min j0 x.length = j0 := Nat.min_eq_left hj
    refine cal_find (by omega) (by omega) fun r hr => ?_
    have hr' : Finds x 45 kk j0 r := by
      have e1 : (kk : Int).toNat = kk := rfl
      have e2 : (j0 : Int).toNat = j0 := rfl
      rw [e1, e2, hmin] at hr; exact hr
    walk_at "E"
    have hat : ∀ m, m < j0 - i → ((x.drop i).take (j0 - i))[m]? = x[i + m]? := fun m hm => by rw [List.getElem?_take_of_lt hm, List.getElem?_drop]
    have hout : ∀ m, j0 - i ≤ m → ((x.drop i).take (j0 - i))[m]? = none := fun m hm => by rw [List.getElem?_take_eq_none hm]
    rcases hr' with ⟨rfl, hno⟩ | ⟨r, rfl, hr1, hr2, hr3, hr4⟩
    · have hc := cutD_none ((x.drop i).take (j0 - i)) (kk - i) [] fun m hm z => by
        rcases Nat.lt_or_ge m (j0 - i) with h | h
        · rw [hat m h] at z
          exact hno (i + m) (by omega) (by omega) z
        · rw [hout m h] at z; cases z
      rw [hc] at h1 h2
      refine cf_if ?_
      walk_at "E"
      simp only [show decide ((-1 : Int) < 0) = true from rfl, if_true]
      walk_at "E"
      dsimp only
      refine ⟨by trivial, i, hi, by simpa using h2, ?_⟩
      have : ys = (cutD skip [] sf).1 := by simpa using h1
      rw [this]
    · have hc := cutD_some ((x.drop i).take (j0 - i)) (kk - i) (r - i) [] (by omega) (by rw [hat _ (by omega), show i + (r - i) = r by omega]; exact hr3) fun m hm1 hm2 z => by
        rw [hat m (by omega)] at z
        exact hr4 (i + m) (by omega) (by omega) z
      rw [hc] at h1 h2
      refine cf_if ?_
      walk_at "E"
      rw [decide_eq_false (show ¬ ((r : Int) < 0) by omega)]
      simp only [Bool.false_eq_true, if_false]
      walk_at "E"
      refine cut_str (x := x) ?_ (.int _) (.int _) (by omega)
      rw [slc_ft x i r rfl rfl]
      walk_at "E"
      have hsub : (x.drop i).take (r - i) = ((x.drop i).take (j0 - i)).take (r - i) := by rw [List.take_take, Nat.min_eq_left (by omega)]
      have hdrop : ((x.drop i).take (j0 - i)).drop (r - i + 1) = (x.drop (r + 1)).take (j0 - (r + 1)) := by
        rw [List.drop_take, List.drop_drop]
        congr 1
        · omega
        · congr 1; omega
      walk_at "capp"
      walk_at "E"
      dsimp only
      rw [hdrop] at h1 h2
      refine ⟨j0 - (r + 1), by omega, r + 1, r + 3, ys ++ [(x.drop i).take (r - i)], rfl, by omega, by omega, by omega, by simp; omega, ?_, ?_, ?_⟩
      · rw [show r + 3 - (r + 1) = 2 by omega, List.append_assoc, ← h1, hsub]; simp
      · rw [show r + 3 - (r + 1) = 2 by omega]; exact h2
      · rw [List.map_append]
        rfl
  rintro σ₁ ⟨i, hi, hlast, rfl⟩
  refine then_next ?_
  have hys : (cutD skip [] sf).1.length ≤ 1000 := by
    have key : ∀ (s : List Nat) (k : Nat) (cur : List Nat), (cutD k cur s).1.length ≤ s.length := by
      intro s
      induction s with
      | nil => intro k cur; cases k <;> simp [cutD]
      | cons a r ih =>
        intro k cur
        cases k with
        | zero =>
          rw [cutD]
          split
          · simp only [List.length_cons]; have := ih 2 []; omega
          · have := ih 0 (cur ++ [a]); simp only [List.length_cons]; omega
        | succ k => rw [cutD]; have := ih k (cur ++ [a]); simp only [List.length_cons]; omega
    have := key sf skip []
    omega
  have hne1 : (cutD skip [] sf).2 = [] → (cutD skip [] sf).1 ≠ [] := by
    intro h2 h1
    have key : ∀ (s : List Nat) (k : Nat) (cur : List Nat), (cutD k cur s).1 = [] → (cutD k cur s).2 = cur ++ s := by
      intro s
      induction s with
      | nil => intro k cur _; cases k <;> simp [cutD]
      | cons a r ih =>
        intro k cur h
        cases k with
        | zero =>
          rw [cutD] at h ⊢
          split at h
          · cases h
          · rename_i hc; rw [if_neg hc, ih 0 _ h]; simp
        | succ k => rw [cutD] at h ⊢; rw [ih k _ h]; simp
    have := key sf skip [] h1
    rw [h2] at this
    exact hne (by simpa using this.symm)
  walk_at "E"
  refine cut_str (x := x) ?_ (.int _) (.int _) (by omega)
  rw [slc_ft x i j0 rfl rfl, hlast]
  walk_at "E"
  have hl2 : (cutD skip [] sf).2.length ≤ 1000 := by rw [← hlast, List.length_take, List.length_drop]; omega
  have hco : (chunksOf skip sf).length ≤ 1001 := by
    unfold chunksOf
    split <;> simp <;> omega
  refine cf_cutP (fun σ' => ∃ ch' : Option Value, σ' = ⟨(cl, .list ((chunksOf skip sf).map St)) :: (L, .ns (LT (some (St x)) st qm re ad (some (In i)) n0 c (some (In j0)) (some (St sf)) (some (.ref cl)) (some (In (-1))) ch')) :: S, F⟩) ?_ ?_
  · refine cf_if ?_
    walk_at "E"
    refine tr_str (by omega) ?_
    refine cb_ite (fun q => ?_) fun q => ?_
    · have hl : (cutD skip [] sf).2 ≠ [] := of_decide_eq_true q
      walk_at "E"
      walk_at "capp"
      walk_at "E"
      refine ⟨by trivial, some (St (cutD skip [] sf).2), ?_⟩
      have e : (chunksOf skip sf).map St = (cutD skip [] sf).1.map St ++ [St (cutD skip [] sf).2] := by unfold chunksOf; rw [if_neg hl, List.map_append]; rfl
      rw [e]
    · have hl : (cutD skip [] sf).2 = [] := by simpa using of_decide_eq_false q
      have hys0 := hne1 hl
      walk_at "E"
      have hlast2 : ((cutD skip [] sf).1.map St).getLast? = some (St ((cutD skip [] sf).1.getLastD [])) := by
        rw [List.getLast?_map]
        cases h : (cutD skip [] sf).1 with
        | nil => exact absurd h hys0
        | cons a r => rw [List.getLast?_cons, List.getLastD_cons, List.getLastD_eq_getLast?]; rfl
      have hpos : 0 < (cutD skip [] sf).1.length := List.length_pos_iff.mpr hys0
      refine cf_augsub ?_ (fun _ _ _ => rfl)
      walk_at "E"
      refine getI_list ?_ (.own (by walk_at "m")) (by decide) (by simp; omega) (by decide) (y := St ((cutD skip [] sf).1.getLastD [])) ?_
      · walk_at "E"
        have hgl : ((cutD skip [] sf).1.getLastD []).length ≤ 1000 := by
          have hl := (cutD_len sf skip []).1
          cases h : (cutD skip [] sf).1 with
          | nil => exact absurd h hys0
          | cons a r =>
            rw [h] at hl
            have hm : (a :: r).getLastD [] ∈ a :: r := by
              cases r with
              | nil => simp
              | cons b r => rw [List.getLastD_cons, List.getLastD_cons]; exact List.mem_cons_of_mem _ (List.getLastD_mem_cons ..)
            have h3 := hl _ hm
            rw [List.length_nil, Nat.zero_add] at h3
            exact Nat.le_trans h3 (by omega)
        refine iop_add_str (by show _ + 1 ≤ _; omega) ?_
        refine setI_list (k := (cutD skip [] sf).1.length - 1) ?_ (by walk_at "u") (by decide) ?_
        · walk_at "E"
          refine ⟨by trivial, some (St (cutD skip [] sf).2), ?_⟩
          have e : ((cutD skip [] sf).1.map St).set ((cutD skip [] sf).1.length - 1) (St ((cutD skip [] sf).1.getLastD [] ++ [45])) = (chunksOf skip sf).map St := by
            unfold chunksOf
            rw [if_pos hl, List.map_append, List.map_dropLast]
            have := set_last ((cutD skip [] sf).1.map St) (St ((cutD skip [] sf).1.getLastD [] ++ [45])) (by simpa using hys0)
            rw [List.length_map] at this
            rw [this]; rfl
          rw [e]
        · unfold seqIndex?
          simp; omega
      · rw [List.getLast?_eq_getElem?] at hlast2
        have : ((-1 : Int) + (((cutD skip [] sf).1.map St).length : Int)).toNat = ((cutD skip [] sf).1.map St).length - 1 := by simp; omega
        rw [this]; exact hlast2
  rintro σ₁ ⟨ch', rfl⟩
  refine then_next ?_
  have hcf : (chunksOf skip sf).flatten.length ≤ 1001 := Nat.le_trans (chunks_flat skip sf) (by omega)
  generalize hcs : chunksOf skip sf = cs at hok hco hcf hG ⊢
  refine cf_cons ?_
  have hcs0 : cs ≠ [] := by
    rw [← hcs]; unfold chunksOf
    split <;> simp
  have hcpos : 0 < cs.length := List.length_pos_iff.mpr hcs0
  refine cf_cutP (fun σ' => ∃ kk', σ' = ⟨(cl, .list ((mergeB cs).map St)) :: (L, .ns (LT (some (St x)) st qm re ad (some (In i)) n0 c (some (In j0)) (some (St sf)) (some (.ref cl)) kk' ch')) :: S, F⟩) ?_ ?_
  · refine cf_for (srcDown ((cs.length - 1 : Nat) : Int) (cs.length - 1)) srcDown_ok (fun q S' F' => F' = F ∧ ∃ kk', S' = (cl, .list ((cs.take (cs.length - 1 - q) ++ mergeB (cs.drop (cs.length - 1 - q))).map St)) :: (L, .ns (LT (some (St x)) st qm re ad (some (In i)) n0 c (some (In j0)) (some (St sf)) (some (.ref cl)) kk' ch')) :: S) room.hh ?_ (fun _ _ _ _ _ => trivial) ?_ ?_ (fun _ => rfl) (fun _ _ => rfl)
    · walk_at "E"
      refine cal_range3 (by decide) (by decide) fun d => ?_
      have e : ((cs.map St).length : Int) - 1 = ((cs.length - 1 : Nat) : Int) := by rw [List.length_map]; omega
      rw [e]
      refine iter_down (fun it => ⟨rfl, some (In (-1)), ?_⟩) .head (by omega) (by omega) (by omega)
      have e2 : cs.take (cs.length - 1 - 0) ++ mergeB (cs.drop (cs.length - 1 - 0)) = cs := by
        rw [Nat.sub_zero]
        have hlt : cs.length - 1 < cs.length := by omega
        have hd : cs.drop (cs.length - 1) = [cs[cs.length - 1]] := by
          rw [List.drop_eq_getElem_cons hlt, List.drop_eq_nil_of_le (by omega)]
        have h2 := List.take_append_drop (cs.length - 1) cs
        rw [hd] at h2 ⊢
        exact h2
      rw [e2]
    · rintro q it S' F' v ⟨rfl, kk', rfl⟩ hi' v' hv
      have hq : q < cs.length - 1 := by have := (List.getElem?_eq_some_iff.mp hi').1; simpa [srcDown] using this
      have hv2 : v = In ((cs.length - 1 - q : Nat) : Int) := by
        have : In (((cs.length - 1 : Nat) : Int) - q) = v := by simpa [srcDown, hq] using hi'
        rw [← this]
        congr 1
        omega
      subst hv2
      refine cu_assign_name hv ?_
      generalize hk : cs.length - 1 - q = kk at *
      have hk1 : 1 ≤ kk := by omega
      have hk2 : kk < cs.length := by omega
      obtain ⟨k0, rfl⟩ : ∃ k0, kk = k0 + 1 := ⟨kk - 1, by omega⟩
      have hdk : cs.drop k0 = cs[k0] :: cs.drop (k0 + 1) := List.drop_eq_getElem_cons (by omega)
      have hmo := mergeOk_drop cs k0 hok
      rw [hdk] at hmo
      have hdk1 : cs.drop (k0 + 1) ≠ [] := fun z => by
        have := congrArg List.length z
        rw [List.length_drop, List.length_nil] at this; omega
      obtain ⟨d, r', hmd⟩ : ∃ d r', mergeB (cs.drop (k0 + 1)) = d :: r' := by
        cases h1 : cs.drop (k0 + 1) with
        | nil => exact absurd h1 hdk1
        | cons a r =>
          cases h2 : mergeB (a :: r) with
          | nil => exact absurd h2 mergeB_ne
          | cons d r' => exact ⟨d, r', rfl⟩
      have hmk : mergeB (cs.drop k0) = if d.headD 0 < (cs[k0]).getLastD 0 then ((cs[k0]).dropLast ++ d.tail) :: r' else cs[k0] :: d :: r' := by
        rw [hdk, mergeB, hmd]
      rw [mergeOk, hmd, Bool.and_eq_true, Bool.and_eq_true] at hmo
      have hc0 : cs[k0] ≠ [] := by simpa using hmo.1.1
      have hd0 : d ≠ [] := by simpa using hmo.2
      have htk : cs.take (k0 + 1) = cs.take k0 ++ [cs[k0]] := by rw [List.take_add_one, List.getElem?_eq_getElem (by omega)]; rfl
      rw [hmd, htk]
      have hpl : (cs.take k0).length = k0 := by rw [List.length_take]; omega
      have hml := mergeB_len (cs.drop (k0 + 1))
      have hdf : (cs.drop (k0 + 1)).flatten.length ≤ cs.flatten.length := by
        have := congrArg (fun l => l.flatten.length) (List.take_append_drop (k0 + 1) cs)
        simp only [List.flatten_append, List.length_append] at this; omega
      rw [hmd, List.length_drop] at hml
      have hzl : (cs.take k0 ++ [cs[k0]] ++ d :: r').length ≤ 3000 := by
        have h1 := hml.1
        simp only [List.length_append, List.length_cons, List.length_nil] at h1 ⊢; omega
      have hcl : (cs[k0]).length ≤ 2000 := Nat.le_trans (len_mem_flat (List.getElem_mem _)) (by omega)
      have hdl : d.length ≤ 200000 := Nat.le_trans (len_mem_flat (l := d :: r') (.head _)) (by omega)
      have hq1 : cs.length - 1 - (q + 1) = k0 := by omega
      generalize cs[k0] = c1 at *
      generalize hpre : cs.take k0 = pre at *
      obtain ⟨cl1, hcl1⟩ : ∃ a, c1.getLast? = some a := by cases c1 with | nil => exact absurd rfl hc0 | cons a r => exact ⟨_, List.getLast?_cons⟩
      obtain ⟨dh, hdh⟩ : ∃ a, d[0]? = some a := by cases d with | nil => exact absurd rfl hd0 | cons a r => exact ⟨a, rfl⟩
      have hg0 : ((pre ++ [c1] ++ d :: r').map St)[k0]? = some (St c1) := by rw [List.getElem?_map, List.append_assoc, List.getElem?_append_right (by omega), hpl, Nat.sub_self]; rfl
      have hg1 : ((pre ++ [c1] ++ d :: r').map St)[k0 + 1]? = some (St d) := by rw [List.getElem?_map, List.getElem?_append_right (by simp; omega)]; simp [hpl]
      have hcmp : decide ([dh] < [cl1]) = decide (d.headD 0 < c1.getLastD 0) := by
        have e1 : d.headD 0 = dh := by cases d with | nil => cases hdh | cons a r => simpa using hdh
        have e2 : c1.getLastD 0 = cl1 := by rw [List.getLastD_eq_getLast?, hcl1]; rfl
        rw [e1, e2]
        exact decide_eq_decide.mpr (by rw [List.cons_lt_cons_iff]; simp)
      walk_at "e"
      walk_at "e"
      refine cf_if ?_
      walk_at "E"
      refine sub_listN k0 (St c1) (by push_cast; omega) (.own (by walk_at "m")) hg0 (by rw [List.length_map]; omega) ?_ (fun _ _ => by with_unfolding_all rfl)
      walk_at "E"
      refine sub_strL hcl1 (by omega) ?_ (fun _ _ => by with_unfolding_all rfl)
      walk_at "E"
      refine sub_listN (k0 + 1) (St d) rfl (.own (by walk_at "m")) hg1 (by rw [List.length_map]; omega) ?_ (fun _ _ => by with_unfolding_all rfl)
      walk_at "E"
      refine sub_strN 0 dh rfl hdh (by omega) ?_ (fun _ _ => by with_unfolding_all rfl)
      walk_at "E"
      rw [hcmp]
      refine cb_ite (fun qq => ?_) fun qq => ?_
      · have hlt := of_decide_eq_true qq
        rw [if_pos hlt] at hmk
        walk_at "E"
        refine sub_listN k0 (St c1) (by push_cast; omega) (.own (by walk_at "m")) hg0 (by rw [List.length_map]; omega) ?_ (fun _ _ => by with_unfolding_all rfl)
        walk_at "E"
        refine cut_str (x := c1) ?_ .none (.int _) (by omega)
        rw [slc_tn (j := -1) c1 1 rfl (by decide)]
        walk_at "E"
        refine sub_listN (k0 + 1) (St d) rfl (.own (by walk_at "m")) hg1 (by rw [List.length_map]; omega) ?_ (fun _ _ => by with_unfolding_all rfl)
        walk_at "E"
        refine cut_str (x := d) ?_ (.int _) .none (by omega)
        rw [slc_f (i := 1) d 1 rfl]
        walk_at "E"
        refine op_add_str (by simp only [List.length_take, List.length_drop]; omega) ?_
        walk_at "E"
        refine setI_list (k := k0) ?_ (by walk_at "u") (by omega) ?_
        · walk_at "E"
          refine delI_list ?_ (by walk_at "u") (by omega) (by simp only [List.length_set, List.length_map, List.length_append, List.length_cons, List.length_nil]; omega) (by simp only [List.length_set, List.length_map]; omega)
          walk_at "E"
          dsimp only
          refine ⟨_, _, by walk_at "p", fun _ y => y, rfl, some (In ((k0 + 1 : Nat) : Int)), ?_⟩
          have e1 : (((pre ++ [c1] ++ d :: r').map St).set k0 (St (c1.take (c1.length - 1) ++ d.drop 1))).eraseIdx ((k0 + 1 : Nat) : Int).toNat = (pre ++ ((c1.dropLast ++ d.tail) :: r')).map St := by
            have et : ((k0 + 1 : Nat) : Int).toNat = k0 + 1 := rfl
            rw [et, ← List.dropLast_eq_take, List.drop_one]
            subst hpl
            simp only [List.append_assoc, List.singleton_append, List.map_append, List.map_cons]
            have e3 : (pre.map St ++ (St c1 :: St d :: r'.map St)).set pre.length (St (c1.dropLast ++ d.tail)) = pre.map St ++ (St (c1.dropLast ++ d.tail) :: St d :: r'.map St) := by
              rw [List.set_append_right _ _ (by simp)]; simp
            rw [e3, List.eraseIdx_append_of_length_le (by simp)]
            simp
          rw [hq1, hpre, hmk, e1]
        · have hz : ((pre ++ [c1] ++ d :: r').map St).length = pre.length + 1 + (r'.length + 1) := by simp; omega
          have := seqIx (k := k0) (n := ((pre ++ [c1] ++ d :: r').map St).length) (by omega)
          rw [← this]
          congr 1
          push_cast; omega
      · have hlt := of_decide_eq_false qq
        rw [if_neg hlt] at hmk
        walk_at "E"
        dsimp only
        refine ⟨_, _, by walk_at "p", fun _ y => y, rfl, some (In ((k0 + 1 : Nat) : Int)), ?_⟩
        rw [hq1, hpre, hmk, List.append_assoc]
        rfl
    · rintro S' F' ⟨rfl, kk', rfl⟩
      walk_at "E"
      rw [show (srcDown ((cs.length - 1 : Nat) : Int) (cs.length - 1)).items.length = cs.length - 1 by simp [srcDown], Nat.sub_self]
      exact ⟨rfl, kk', by rw [List.take_zero, List.drop_zero, List.nil_append]⟩
  rintro σ₁ ⟨kk', rfl⟩
  refine then_next ?_
  have hml := mergeB_len cs
  refine cf_cons ?_
  walk_at "e"
  walk_at "e"
  walk_at "e"
  walk_at "e"
  refine cwith_join_gen (p := p) (loose := loose) (K := hd.heap_39 P) esc (mergeB cs) 68 64 qsT ?_ room.hh (by rfl) (by subst hE; kernel_rfl) (by decide +kernel) (by rfl) (by rfl) (by rfl) (by have := room.d; show A.depth < 1000; omega) (by subst hE; rfl) (by subst hE; rfl) (by subst hE; kernel_rfl) ?_ (fun _ => rfl) ?_ (by omega)
  · walk_at "loc"
    refine ⟨cl, _, _, rfl, rfl, .own (by walk_at "m"), ?_, hF, hB, ?_⟩
    · exact .tail _ (.tail _ hP)
    walk_at "E"
    refine hG _ _ ⟨rfl, some (In i), some (.ref cl), kk', ch', ?_⟩
    walk_at "b"
  · intro C code A' E' y t s m hA' htk hy hns hmx
    refine esc_run htk rfl (by rfl) (by kernel_rfl) hns hmx (Nat.le_trans (len_mem_flat hy) (by omega)) rfl rfl _ _ _ _ (by kernel_rfl) (by kernel_rfl) (by kernel_rfl) (by kernel_rfl) (by kernel_rfl) (by kernel_rfl) (by rfl) (by rfl)
  · have hel : ∀ y : List Nat, (esc y).length ≤ 100 * y.length + 100 := by
      intro y
      have h1 := rep_len 92 [92, 92] y
      have h2 := rep_len 45 [92, 45] (rep 92 [92, 92] y)
      simp only [List.length_cons, List.length_nil] at h1 h2
      unfold esc; omega
    have hsum : ∀ l : List (List Nat), ((l.map esc).map (·.length)).sum ≤ 100 * l.flatten.length + 100 * l.length := by
      intro l
      induction l with
      | nil => simp
      | cons a r ih =>
        have := hel a
        simp only [List.map_cons, List.sum_cons, List.flatten_cons, List.length_append, List.length_cons] at ih ⊢
        omega
    have := hsum (mergeB cs)
    simp only [List.length_cons, List.length_nil]
    omega

theorem re_at {F : Fz} {P : Params} {p : Program} {loose : List Str} (hF : Fz.Le F (Fz.top p loose (hd.heap_39 P))) : ∀ h, F.p h → ∃ t1 t2 n, h.get? 43 = some (patObj t1 t2) ∧ h.get? 42 = some (codeObj n) := fun h y =>
  ⟨_, _, _, (hF h y).1 43 _ rfl, (hF h y).1 42 _ rfl⟩
theorem lam_part {cx : Cx} {A : Around} {P : Params} {p : Program} {loose : List Str} {S : List (Addr × CO)} {F : Fz} {n : Nat} {fd : FuncData} {L : Addr} {env : Env} {e : Expr} {targets : List Expr} {ps : Pos} (hfd : fdAt P 69 = some fd) (hE : env = fnEnv fd L 69) (hb : (stuffPart P)[2]? = some (.Assign targets e ps))
    (hF : Fz.Le F (Fz.top p loose (hd.heap_39 P))) (hB : Fz.Le F Fz.bm) (room : Room A (n + 3)) (hP : (64, CO.tab 68 qsT) ∈ S) (t2 : List Nat) (h128 : ∀ c ∈ t2, c < 128) (hl : t2.length ≤ 10000) (x st qm re ad i n0 c j chs k ch : Option Value) :
    CV cx A (eval e env) (fun v σ' => v = St (cloak t2) ∧ Back ((L, .ns (LT x st qm re ad i n0 c j (some (St t2)) chs k ch)) :: S) F σ')
      ⟨(L, .ns (LT x st qm re ad i n0 c j (some (St t2)) chs k ch)) :: S, F⟩ := by
  have h0 : (stuffPart P)[2]? = some (Stmt.Assign _ _ _) := rfl
  rw [h0] at hb
  injection hb with hb
  injection hb with _ hb _
  subst hb
  have h1 : fdAt P 69 = some _ := rfl
  rw [h1] at hfd
  injection hfd with hfd
  subst hfd
  walk_at "e"
  refine cv_gref (a := 43) ?_ hF (by kernel_rfl) (by walk_at "w") (by walk_at "w") (by walk_at "k") (by kernel_rfl)
  refine meth_pattern (fun h y => let ⟨t1, t2, n, q, _⟩ := re_at hF h y; ⟨t1, t2, q⟩) ?_ rfl
  walk_at "e"
  walk_at "e"
  refine cv_lambda (P := 64) (c := 68) (qs := qsT) (clos := []) hB (.tail _ hP) (by subst hE; rfl) (by subst hE; rfl) (by subst hE; kernel_rfl) (by subst hE; kernel_rfl) ?_ ?_ fun f => ?_
  · subst hE
    exact List.mem_singleton.mpr (by kernel_rfl)
  · subst hE; kernel_rfl
  walk_at "E"
  refine cal_sub (re_at hF) h128 hl (.head _) (fun m tup pieces q cc t ys hq ha => ?_) ⟨rfl, by walk_at "b"⟩
  have hA1 : Room A.in1 (n + 2) := Room.in1 room
  refine cal_lam (n := n + 1) [Str.ofString "_m"] hF (.tail _ (.tail _ (.tail _ (.head _)))) hA1 (fun pm cv ctv vs' e => ?_) rfl (by decide +kernel) (by rfl) (by rfl) (by rfl) (by decide +kernel) (by decide +kernel) fun L2 A2 cv room2 => ?_
  · obtain ⟨v1, rfl⟩ : ∃ v1, vs' = [v1] := by
      match vs', e with
      | [v1], _ => exact ⟨v1, rfl⟩
    rfl
  dsimp only [zipS, List.zip, List.zipWith, List.map]
  generalize hE2 : newEnv _ L2 _ _ _ _ _ _ _ = env2
  walk_at "E"
  refine cv_or2 ?_
  walk_at "E"
  refine meth_match (x := t2) (t := t) (m := m) (tup := tup) (.own (by walk_at "m")) ?_ rfl
  walk_at "E"
  refine cal_group (.own (by walk_at "m")) (.own (by walk_at "m")) hq (by omega) ?_
  refine tr_str (by simp) ?_
  simp only [ne_eq, reduceCtorEq, not_false_eq_true, decide_true, if_true]
  refine op_add_str (by simp) ?_
  exact ⟨rfl, by walk_at "b"⟩

theorem stuff_part {cx : Cx} {A : Around} {P : Params} {p : Program} {loose : List Str} {S : List (Addr × CO)} {F : Fz} {n : Nat} {fd : FuncData} {L : Addr} {env : Env} {t : Expr} {b1 b : List Stmt} {ps : Pos} (hfd : fdAt P 69 = some fd) (hE : env = fnEnv fd L 69) (hb : (brPart P)[4]? = some (.If t b1 b ps))
    (hF : Fz.Le F (Fz.top p loose (hd.heap_39 P))) (hB : Fz.Le F Fz.bm) (room : Room A (n + 3)) (hP : (64, CO.tab 68 qsT) ∈ S) (x : List Nat) (i0 j0 : Nat) (sf : List Nat) (hij : i0 < j0) (hj : j0 ≤ x.length) (hx : x.length ≤ 1000) (hsf : (x.drop i0).take (j0 - i0) = sf)
    (skip : Nat) (hskip : skip = if sf.head? = some 33 then 2 else 1) (hok : 45 ∈ sf → mergeOk (chunksOf skip sf) = true) (h128 : ∀ c ∈ trans2 skip sf, c < 128) (ht2 : (trans2 skip sf).length ≤ 3000) (hne : cloak (trans2 skip sf) ≠ []) (hne2 : cloak (trans2 skip sf) ≠ [33])
    (rs u : Addr) (res : List Value) (hres : res.length ≤ 1000) (st qm n0 c stf chs k ch : Option Value) :
    CF cx A (execs b env) (fun f σ' => f = .next ∧ ∃ stf' chs' k' ch', Back ((L, .ns (LT (some (St x)) st qm (some (.ref rs)) (some (.ref u)) (some (In ((j0 : Int) + 1))) n0 c (some (In j0)) stf' chs' k' ch')) :: (u, .raw (boundApp rs)) :: (rs, .list (res ++ [St ([91] ++ fin3 (cloak (trans2 skip sf)) ++ [93])])) :: S) F σ')
      ⟨(L, .ns (LT (some (St x)) st qm (some (.ref rs)) (some (.ref u)) (some (In i0)) n0 c (some (In j0)) stf chs k ch)) :: (u, .raw (boundApp rs)) :: (rs, .list res) :: S, F⟩ := by
  refine cf_hide fun G hG => ?_
  have h0 : (brPart P)[4]? = some (Stmt.If _ _ _ _) := rfl
  rw [h0] at hb
  injection hb with hb
  injection hb with _ _ hb _
  subst hb
  have h1 : fdAt P 69 = some _ := rfl
  rw [h1] at hfd
  injection hfd with hfd
  subst hfd
  walk_at "E"
  refine cut_str (x := x) ?_ (.int _) (.int _) (by omega)
  rw [slc_ft x i0 j0 rfl rfl, hsf]
  walk_at "E"
  have hsl : sf.length ≤ 1000 := by rw [← hsf, List.length_take, List.length_drop]; omega
  refine cf_cutP (fun σ' => ∃ i' chs' k' ch', Back ((L, .ns (LT (some (St x)) st qm (some (.ref rs)) (some (.ref u)) i' n0 c (some (In j0)) (some (St (trans2 skip sf))) chs' k' ch')) :: (u, .raw (boundApp rs)) :: (rs, .list res) :: S) F σ') ?_ ?_
  · refine cf_if ?_
    walk_at "E"
    refine op_notIn_sign ?_
    walk_at "E"
    refine cb_ite (fun q => ?_) fun q => ?_
    · have hq : 45 ∉ sf := of_decide_eq_true q
      walk_at "E"
      refine ⟨by trivial, some (In i0), chs, k, ch, ?_⟩
      have e : trans2 skip sf = rep 92 [92, 92] sf := by unfold trans2; rw [if_neg hq]
      rw [e]
      walk_at "b"
    · have hq : 45 ∈ sf := by
        have := of_decide_eq_false q
        exact Classical.not_not.mp this
      refine CW.mono (chunk_part (hfd := h1) (hE := hE) (hb := rfl) hF hB room (.tail _ (.tail _ hP)) x i0 j0 sf hij hj hx hsf hq skip hskip (hok hq) st qm (some (.ref rs)) (some (.ref u)) n0 c chs k ch) ?_
      rintro f σ' ⟨e, i', chs', k', ch', hbk⟩
      have et : trans2 skip sf = List.intercalate [45] ((mergeB (chunksOf skip sf)).map esc) := by unfold trans2; rw [if_pos hq]
      rw [et]
      rw [e]
      refine ⟨rfl, i', chs', k', ch', ?_⟩
      exact hbk
  rintro σ₁ ⟨i', chs', k', ch', hbk⟩
  refine then_next (wbF hbk ?_)
  clear hbk
  generalize htt : trans2 skip sf = t2 at *
  refine cf_cons ?_
  walk_at "e"
  refine cv_cutP (fun v σ' => v = St (cloak t2) ∧ Back ((L, .ns (LT (some (St x)) st qm (some (.ref rs)) (some (.ref u)) i' n0 c (some (In j0)) (some (St t2)) chs' k' ch')) :: (u, .raw (boundApp rs)) :: (rs, .list res) :: S) F σ')
    (lam_part (hfd := h1) (hE := hE) (hb := rfl) hF hB room (.tail _ (.tail _ hP)) t2 h128 (by omega) _ _ _ _ _ _ _ _ _ _ _ _) ?_
  rintro v σ₁ ⟨rfl, hbk⟩
  refine wbS hbk ?_
  clear hbk
  have hcl := cloak_len t2
  generalize cloak t2 = t3 at *
  walk_at "E"
  refine cf_if ?_
  walk_at "E"
  refine tr_str (by omega) ?_
  rw [decide_eq_true hne]
  simp only [Bool.not_true, Bool.false_eq_true, if_false]
  walk_at "E"
  refine cf_if ?_
  walk_at "E"
  rw [decide_eq_false hne2]
  simp only [Bool.false_eq_true, if_false]
  refine cf_cons ?_
  obtain ⟨a, r, rfl⟩ : ∃ a r, t3 = a :: r := by
    cases t3 with
    | nil => exact absurd rfl hne
    | cons a r => exact ⟨a, r, rfl⟩
  rw [List.length_cons] at hcl
  refine cf_cutP (fun σ' => Back ((L, .ns (LT (some (St x)) st qm (some (.ref rs)) (some (.ref u)) (some (In ((j0 : Int) + 1))) n0 c (some (In j0)) (some (St (fin3 (a :: r)))) chs' k' ch')) :: (u, .raw (boundApp rs)) :: (rs, .list res) :: S) F σ') ?_ ?_
  · refine cf_if ?_
    walk_at "E"
    refine sub_strN 0 a rfl rfl (by simp; omega) ?_ (fun _ _ => by with_unfolding_all rfl)
    walk_at "E"
    refine cb_ite (fun q => ?_) fun q => ?_
    · have ha : a = 33 := by simpa using of_decide_eq_true q
      subst ha
      walk_at "E"
      refine cut_str (x := 33 :: r) ?_ (.int _) .none (by simp; omega)
      rw [slc_f (i := 1) (33 :: r) 1 rfl]
      refine op_add_str (by simp; omega) ?_
      walk_at "E"
      have e3 : fin3 (33 :: r) = [94] ++ (33 :: r).drop 1 := rfl
      rw [e3]
      exact ⟨by trivial, by walk_at "b"⟩
    · have ha : a ≠ 33 := by simpa using of_decide_eq_false q
      walk_at "E"
      refine cf_if ?_
      walk_at "E"
      refine sub_strN 0 a rfl rfl (by simp; omega) ?_ (fun _ _ => by with_unfolding_all rfl)
      walk_at "E"
      intro tp
      refine op_in_tuple (ys := [[94], [91]]) ?_ (.own (by simp only [List.map_cons, List.map_nil]; walk_at "m"))
      walk_at "E"
      refine cb_ite (fun q2 => ?_) fun q2 => ?_
      · have ha2 : a = 94 ∨ a = 91 := by simpa using of_decide_eq_true q2
        walk_at "E"
        refine op_add_str (by simp; omega) ?_
        walk_at "E"
        have e3 : fin3 (a :: r) = [92] ++ a :: r := by rcases ha2 with rfl | rfl <;> rfl
        rw [e3]
        exact ⟨by trivial, by walk_at "b"⟩
      · have ha2 : ¬ (a = 94 ∨ a = 91) := by simpa using of_decide_eq_false q2
        walk_at "E"
        have e3 : fin3 (a :: r) = a :: r := by
          unfold fin3
          split
          · rename_i h; injection h with h; exact absurd h ha
          · rename_i h; injection h with h; exact absurd (.inl h) ha2
          · rename_i h; injection h with h; exact absurd (.inr h) ha2
          · rfl
        rw [e3]
        exact ⟨by trivial, by walk_at "b"⟩
  intro σ₁ hbk
  refine then_next (wbF hbk ?_)
  clear hbk
  have hf3 : (fin3 (a :: r)).length ≤ r.length + 2 := by
    unfold fin3
    split <;> rename_i h <;> (try injection h with h1 h2; subst h2) <;> simp
  walk_at "E"
  refine cwith_bound (l := rs) ?_ (by walk_at "w")
  walk_at "E"
  refine joined_cons ?_
  walk_at "E"
  refine ⟨_, rfl, by simp, ?_⟩
  refine joined_cons ?_
  walk_at "E"
  refine fmt_str (by omega) ?_
  refine ⟨_, rfl, by simp; omega, ?_⟩
  refine joined_cons ?_
  walk_at "E"
  refine ⟨_, rfl, by simp; omega, ?_⟩
  refine joined_nil ?_
  refine ⟨by simp; omega, ?_⟩
  walk_at "E"
  have e5 : ([] ++ [91] ++ fin3 (a :: r) ++ [93] : List Nat) = [91] ++ fin3 (a :: r) ++ [93] := rfl
  rw [e5]
  walk_at "cbnd"
  walk_at "E"
  exact hG _ _ ⟨rfl, some (St (fin3 (a :: r))), chs', k', ch', by walk_at "b"⟩

theorem br_part {cx : Cx} {A : Around} {P : Params} {p : Program} {loose : List Str} {S : List (Addr × CO)} {F : Fz} {n : Nat} {fd : FuncData} {L : Addr} {env : Env} {t : Expr} {b b2 : List Stmt} {ps : Pos} (hfd : fdAt P 69 = some fd) (hE : env = fnEnv fd L 69) (hb : (ifElse (ifElse (whileBody (bodyAt P 69)[3]?)[2]?)[0]?)[0]? = some (.If t b b2 ps))
    (hF : Fz.Le F (Fz.top p loose (hd.heap_39 P))) (hB : Fz.Le F Fz.bm) (room : Room A (n + 3)) (hP : (64, CO.tab 68 qsT) ∈ S) (x : List Nat) (i0 j1 j2 j0 : Nat) (sf : List Nat) (hij : i0 < j0) (hx : x.length ≤ 1000) (hsf : (x.drop i0).take (j0 - i0) = sf)
    (hj1 : (x[i0]? = some 33 ∧ j1 = i0 + 1) ∨ (x[i0]? ≠ some 33 ∧ j1 = i0)) (hj2 : (x[j1]? = some 93 ∧ j2 = j1 + 1) ∨ (x[j1]? ≠ some 93 ∧ j2 = j1)) (hj20 : j2 ≤ j0) (hj10 : j1 ≤ j0) (hj0 : x[j0]? = some 93) (hno : ∀ k, j2 ≤ k → k < j0 → x[k]? ≠ some 93)
    (skip : Nat) (hskip : skip = if sf.head? = some 33 then 2 else 1) (hok : 45 ∈ sf → mergeOk (chunksOf skip sf) = true) (h128 : ∀ c ∈ trans2 skip sf, c < 128) (ht2 : (trans2 skip sf).length ≤ 3000) (hne : cloak (trans2 skip sf) ≠ []) (hne2 : cloak (trans2 skip sf) ≠ [33])
    (rs u : Addr) (res : List Value) (hres : res.length ≤ 1000) (st qm c j stf chs k ch : Option Value) :
    CF cx A (execs b env) (fun f σ' => f = .next ∧ ∃ stf' chs' k' ch', Back ((L, .ns (LT (some (St x)) st qm (some (.ref rs)) (some (.ref u)) (some (In ((j0 : Int) + 1))) (some (In x.length)) c (some (In j0)) stf' chs' k' ch')) :: (u, .raw (boundApp rs)) :: (rs, .list (res ++ [St ([91] ++ fin3 (cloak (trans2 skip sf)) ++ [93])])) :: S) F σ')
      ⟨(L, .ns (LT (some (St x)) st qm (some (.ref rs)) (some (.ref u)) (some (In i0)) (some (In x.length)) c j stf chs k ch)) :: (u, .raw (boundApp rs)) :: (rs, .list res) :: S, F⟩ := by
  refine cf_hide fun G hG => ?_
  have h0 : (ifElse (ifElse (whileBody (bodyAt P 69)[3]?)[2]?)[0]?)[0]? = some (Stmt.If _ _ _ _) := rfl
  rw [h0] at hb
  injection hb with hb
  injection hb with _ hb _ _
  subst hb
  have h1 : fdAt P 69 = some _ := rfl
  rw [h1] at hfd
  injection hfd with hfd
  subst hfd
  have hjl : j0 < x.length := (List.getElem?_eq_some_iff.mp hj0).1
  have get : ∀ m, m ≤ j0 → ∃ a, x[m]? = some a := fun m hm => ⟨x[m], List.getElem?_eq_getElem (by omega)⟩
  walk_at "E"
  refine cf_cut ⟨(L, .ns (LT (some (St x)) st qm (some (.ref rs)) (some (.ref u)) (some (In i0)) (some (In x.length)) c (some (In j1)) stf chs k ch)) :: (u, .raw (boundApp rs)) :: (rs, .list res) :: S, F⟩ ?_ ?_
  · refine cf_if ?_
    walk_at "E"
    rw [decide_eq_true (show (i0 : Int) < (x.length : Int) by omega)]
    simp only [if_true]
    walk_at "E"
    obtain ⟨a, ha⟩ := get i0 (by omega)
    refine sub_strN i0 a rfl ha (by omega) ?_ (fun _ _ => by with_unfolding_all rfl)
    walk_at "E"
    rw [ha] at hj1
    refine cb_ite (fun q => ?_) fun q => ?_
    · have ha33 : a = 33 := by simpa using of_decide_eq_true q
      have e : j1 = i0 + 1 := by
        rcases hj1 with h | h
        · exact h.2
        · exact absurd (by rw [ha33]) h.1
      walk_at "E"
      simp only [if_true]
      walk_at "E"
      rw [e]
      exact ⟨by trivial, rfl⟩
    · have ha33 : a ≠ 33 := by simpa using of_decide_eq_false q
      have e : j1 = i0 := by
        rcases hj1 with h | h
        · exact absurd (by simpa using h.1) ha33
        · exact h.2
      simp only [Bool.false_eq_true, if_false]
      walk_at "E"
      rw [e]
      exact ⟨by trivial, rfl⟩
  walk_at "E"
  refine cf_cut ⟨(L, .ns (LT (some (St x)) st qm (some (.ref rs)) (some (.ref u)) (some (In i0)) (some (In x.length)) c (some (In j2)) stf chs k ch)) :: (u, .raw (boundApp rs)) :: (rs, .list res) :: S, F⟩ ?_ ?_
  · refine cf_if ?_
    walk_at "E"
    rw [decide_eq_true (show (j1 : Int) < (x.length : Int) by omega)]
    simp only [if_true]
    walk_at "E"
    obtain ⟨a, ha⟩ := get j1 (by omega)
    refine sub_strN j1 a rfl ha (by omega) ?_ (fun _ _ => by with_unfolding_all rfl)
    walk_at "E"
    rw [ha] at hj2
    refine cb_ite (fun q => ?_) fun q => ?_
    · have ha33 : a = 93 := by simpa using of_decide_eq_true q
      have e : j2 = j1 + 1 := by
        rcases hj2 with h | h
        · exact h.2
        · exact absurd (by rw [ha33]) h.1
      walk_at "E"
      simp only [if_true]
      walk_at "E"
      rw [e]
      exact ⟨by trivial, rfl⟩
    · have ha33 : a ≠ 93 := by simpa using of_decide_eq_false q
      have e : j2 = j1 := by
        rcases hj2 with h | h
        · exact absurd (by simpa using h.1) ha33
        · exact h.2
      simp only [Bool.false_eq_true, if_false]
      walk_at "E"
      rw [e]
      exact ⟨by trivial, rfl⟩
  walk_at "E"
  refine cf_cut ⟨(L, .ns (LT (some (St x)) st qm (some (.ref rs)) (some (.ref u)) (some (In i0)) (some (In x.length)) c (some (In j0)) stf chs k ch)) :: (u, .raw (boundApp rs)) :: (rs, .list res) :: S, F⟩ ?_ ?_
  · refine cf_while (fun m σ => ∃ jj : Nat, m = j0 - jj ∧ j2 ≤ jj ∧ jj ≤ j0 ∧ σ = ⟨(L, .ns (LT (some (St x)) st qm (some (.ref rs)) (some (.ref u)) (some (In i0)) (some (In x.length)) c (some (In jj)) stf chs k ch)) :: (u, .raw (boundApp rs)) :: (rs, .list res) :: S, F⟩) (j0 - j2) ⟨j2, rfl, Nat.le_refl _, hj20, rfl⟩ ?_
    rintro m σ ⟨jj, rfl, hjj1, hjj2, rfl⟩
    walk_at "E"
    rw [decide_eq_true (show (jj : Int) < (x.length : Int) by omega)]
    simp only [if_true]
    walk_at "E"
    obtain ⟨a, ha⟩ := get jj (by omega)
    refine sub_strN jj a rfl ha (by omega) ?_ (fun _ _ => by with_unfolding_all rfl)
    walk_at "E"
    refine cb_ite (fun q => ?_) fun q => ?_
    · have ha93 : a ≠ 93 := by simpa using of_decide_eq_true q
      have hlt : jj < j0 := by
        rcases Nat.eq_or_lt_of_le hjj2 with h | h
        · rw [h, hj0] at ha; injection ha with ha; exact absurd ha.symm ha93
        · exact h
      walk_at "E"
      simp only [if_true]
      walk_at "E"
      dsimp only
      exact ⟨j0 - (jj + 1), by omega, jj + 1, rfl, by omega, hlt, rfl⟩
    · have ha93 : a = 93 := by simpa using of_decide_eq_false q
      have hge : jj = j0 := by
        rcases Nat.eq_or_lt_of_le hjj2 with h | h
        · exact h
        · exact absurd (by rw [ha, ha93]) (hno jj hjj1 h)
      simp only [Bool.false_eq_true, if_false]
      walk_at "E"
      rw [hge]
      exact ⟨by trivial, rfl⟩
  walk_at "E"
  refine cf_if ?_
  walk_at "E"
  rw [decide_eq_false (show ¬ ((x.length : Int) ≤ (j0 : Int)) by omega)]
  simp only [Bool.false_eq_true, if_false]
  refine CW.mono (stuff_part (hfd := h1) (hE := hE) (hb := rfl) hF hB room hP x i0 j0 sf hij (by omega) hx hsf skip hskip hok h128 ht2 hne hne2 rs u res hres st qm _ c stf chs k ch) ?_
  rintro f σ' ⟨e, h⟩
  rw [e]
  exact then_next (cf_nil (hG _ _ ⟨rfl, h⟩))

structure T6 where
  oc : Option Value
  oj : Option Value
  ost : Option Value
  och : Option Value
  ok : Option Value
  ock : Option Value
theorem translate69_spec {cx : Cx} {A : Around} {P : Params} {p : Program} {loose : List Str} {S : List (Addr × CO)} {F : Fz} {n : Nat}
    (hF : Fz.Le F (Fz.top p loose (hd.heap_39 P))) (hB : Fz.Le F Fz.bm) (room : Room A (n + 4)) (hP : (64, CO.tab 68 qsT) ∈ S) (pl : Nat) (hpl : pl ≤ 10) (sf : List Nat) (x : List Nat) (hxe : x = List.replicate pl 63 ++ ([91] ++ (sf ++ [93, 42]))) (hx : x.length ≤ 1000) (i0 j1 j2 j0 : Nat) (hi0 : i0 = pl + 1) (hj0e : j0 = pl + 1 + sf.length) (hsf0 : sf ≠ [])
    (hj1 : (x[i0]? = some 33 ∧ j1 = i0 + 1) ∨ (x[i0]? ≠ some 33 ∧ j1 = i0)) (hj2 : (x[j1]? = some 93 ∧ j2 = j1 + 1) ∨ (x[j1]? ≠ some 93 ∧ j2 = j1)) (hj20 : j2 ≤ j0) (hj10 : j1 ≤ j0) (hno : ∀ k, j2 ≤ k → k < j0 → x[k]? ≠ some 93)
    (skip : Nat) (hskip : skip = if sf.head? = some 33 then 2 else 1) (hok : 45 ∈ sf → mergeOk (chunksOf skip sf) = true) (h128 : ∀ c ∈ trans2 skip sf, c < 128) (ht2 : (trans2 skip sf).length ≤ 3000) (hne : cloak (trans2 skip sf) ≠ []) (hne2 : cloak (trans2 skip sf) ≠ [33])
    (star : Addr) (Q : Value → CS → Prop) (h : ∀ rs σ', Back ((rs, .list ((List.replicate pl [46] ++ [[91] ++ fin3 (cloak (trans2 skip sf)) ++ [93]]).map St ++ [.ref star])) :: S) F σ' → Q (.ref rs) σ') :
    Cal cx A (.ref 69) [St x, .ref star, St [46]] Q ⟨S, F⟩ := by
  refine cal_K [Str.ofString "pat", Str.ofString "STAR", Str.ofString "QUESTION_MARK"] [Str.ofString "res", Str.ofString "add", Str.ofString "i", Str.ofString "n", Str.ofString "c", Str.ofString "j", Str.ofString "stuff", Str.ofString "chunks", Str.ofString "k", Str.ofString "chunk"] hF (by rfl) (by rfl) (by kernel_rfl) (by rfl) room (fun vs' e => ?_) rfl (by decide +kernel) (by rfl) (by rfl) (by rfl) (by decide +kernel) (by decide +kernel) fun L A' room' => ?_
  · obtain ⟨v1, v2, v3, rfl⟩ : ∃ v1 v2 v3, vs' = [v1, v2, v3] := by
      match vs', e with
      | [v1, v2, v3], _ => exact ⟨v1, v2, v3, rfl⟩
    rfl
  have hfd : fdAt P 69 = some _ := rfl
  generalize hE : fnEnv _ L 69 = env
  dsimp only [zipS, nones, List.zip, List.zipWith, List.map, List.append, HAppend.hAppend, Append.append]
  have hlen : x.length = pl + sf.length + 3 := by rw [hxe]; simp; omega
  have hsf : (x.drop i0).take (j0 - i0) = sf := by
    rw [hxe, hi0, hj0e, ← List.append_assoc, List.drop_append_of_le_length (by simp), List.drop_of_length_le (by simp), List.nil_append]
    rw [show pl + 1 + sf.length - (pl + 1) = sf.length by omega]
    simp
  have hj0 : x[j0]? = some 93 := by
    rw [hxe, hj0e, ← List.append_assoc, List.getElem?_append_right (by simp), ]
    simp
  have hq : ∀ k, k < pl → x[k]? = some 63 := fun k hk => by rw [hxe, List.getElem?_append_left (by simpa using hk)]; simp [hk]
  have hbr : x[pl]? = some 91 := by rw [hxe, List.getElem?_append_right (by simp)]; simp
  have hst : x[j0 + 1]? = some 42 := by
    have e : pl + 1 + sf.length + 1 = pl + (sf.length + 2) := by omega
    rw [hxe, hj0e, e, List.getElem?_append_right (by simp), List.length_replicate, Nat.add_sub_cancel_left]
    simp
  generalize hB3 : [91] ++ fin3 (cloak (trans2 skip sf)) ++ [93] = B3 at *
  walk_at "E"
  intro rs
  walk_at "E"
  refine cv_append (S := []) (F := F) (vs := []) (l := rs) ?_
  walk_at "loc"
  refine ⟨_, _, _, rfl, rfl, .own (by walk_at "m"), fun u => ?_⟩
  walk_at "E"
  refine cf_swapped (names := [Str.ofString "i", Str.ofString "n"]) ?_ room'.hh (by walk_at "k") (by walk_at "k")
  walk_at "E"
  intro tp
  refine ⟨tp, _, rfl, .own (by walk_at "m"), rfl, ?_⟩
  dsimp only [List.reverse, List.reverseAux, Stores]
  walk_at "E"
  refine wbF (S' := (L, .ns (LT (some (St x)) (some (.ref star)) (some (St [46])) (some (.ref rs)) (some (.ref u)) (some (In 0)) (some (In x.length)) none none none none none none)) :: (u, .raw (boundApp rs)) :: (rs, .list []) :: S) (F' := F) (by walk_at "b") ?_
  have hpt : (List.replicate pl [46] ++ [B3] : List (List Nat)).length ≤ 11 := by simp; omega
  refine cf_cutP (fun σ' => ∃ w : T6, Back ((L, .ns (LT (some (St x)) (some (.ref star)) (some (St [46])) (some (.ref rs)) (some (.ref u)) (some (In x.length)) (some (In x.length)) w.oc w.oj w.ost w.och w.ok w.ock)) :: (u, .raw (boundApp rs)) :: (rs, .list ((List.replicate pl [46] ++ [B3]).map St ++ [.ref star])) :: S) F σ') ?_ ?_
  · refine cf_while (fun m σ => ∃ (i : Nat) (res : List Value) (w : T6), m = x.length - i ∧
        ((i ≤ pl ∧ res = (List.replicate i [46]).map St) ∨ (i = j0 + 1 ∧ res = (List.replicate pl [46] ++ [B3]).map St) ∨ (i = j0 + 2 ∧ res = (List.replicate pl [46] ++ [B3]).map St ++ [.ref star])) ∧
        Back ((L, .ns (LT (some (St x)) (some (.ref star)) (some (St [46])) (some (.ref rs)) (some (.ref u)) (some (In i)) (some (In x.length)) w.oc w.oj w.ost w.och w.ok w.ock)) :: (u, .raw (boundApp rs)) :: (rs, .list res) :: S) F σ) x.length ⟨0, [], ⟨none, none, none, none, none, none⟩, rfl, .inl ⟨Nat.zero_le _, rfl⟩, ⟨Pick.refl _, fun _ y => y⟩⟩ ?_
    rintro m σ ⟨i, res, w, rfl, hst', hbk⟩
    refine wbB hbk ?_
    clear hbk
    walk_at "E"
    rcases hst' with ⟨hi, rfl⟩ | ⟨hi, rfl⟩ | ⟨hi, rfl⟩
    · rw [decide_eq_true (show (i : Int) < (x.length : Int) by omega)]
      simp only [if_true]
      walk_at "E"
      rcases Nat.lt_or_ge i pl with hlt | hge
      · refine sub_strN i 63 rfl (hq i hlt) (by omega) ?_ (fun _ _ => by with_unfolding_all rfl)
        walk_at "E"
        refine cf_if ?_
        walk_at "E"
        simp only [show decide (([63] : List Nat) = [42]) = false from rfl, Bool.false_eq_true, if_false]
        walk_at "E"
        refine cf_if ?_
        walk_at "E"
        simp only [decide_true, if_true]
        walk_at "E"
        refine cwith_bound (l := rs) ?_ (by walk_at "w")
        walk_at "E"
        have hrl : ((List.replicate i [46]).map St).length ≤ 16777216 := by simp; omega
        walk_at "cbnd"
        walk_at "E"
        dsimp only
        refine ⟨x.length - (i + 1), by omega, i + 1, (List.replicate (i + 1) [46]).map St, { w with oc := some (St [63]) }, rfl, .inl ⟨hlt, rfl⟩, ?_⟩
        have er : (List.replicate (i + 1) [46]).map St = (List.replicate i [46]).map St ++ [St [46]] := by rw [List.replicate_succ', List.map_append]; rfl
        rw [er]
        exact ⟨Pick.refl _, fun _ y => y⟩
      · obtain rfl : i = pl := by omega
        refine sub_strN i 91 rfl hbr (by omega) ?_ (fun _ _ => by with_unfolding_all rfl)
        walk_at "E"
        refine cf_if ?_
        walk_at "E"
        simp only [show decide (([91] : List Nat) = [42]) = false from rfl, Bool.false_eq_true, if_false]
        walk_at "E"
        refine cf_if ?_
        walk_at "E"
        simp only [show decide (([91] : List Nat) = [63]) = false from rfl, Bool.false_eq_true, if_false]
        walk_at "E"
        refine cf_if ?_
        walk_at "E"
        simp only [decide_true, if_true]
        have ei : (i : Int) + 1 = (i0 : Int) := by omega
        rw [ei]
        refine CW.mono (br_part (hfd := hfd) (hE := hE.symm) (hb := rfl) hF hB (Room.mono room' (by omega) : Room A' (n + 3)) hP x i0 j1 j2 j0 sf (by have := List.length_pos_iff.mpr hsf0; omega) hx hsf hj1 hj2 hj20 hj10 hj0 hno skip hskip hok h128 ht2 hne hne2 rs u ((List.replicate i [46]).map St) (by simp; omega) (some (.ref star)) (some (St [46])) (some (St [91])) w.oj w.ost w.och w.ok w.ock) ?_
        rintro f σ' ⟨e, stf', chs', k', ch', hbk⟩
        rw [e]
        walk_at "E"
        dsimp only
        refine ⟨x.length - (j0 + 1), by omega, j0 + 1, _, ⟨some (St [91]), some (In j0), stf', chs', k', ch'⟩, rfl, .inr (.inl ⟨rfl, rfl⟩), ?_⟩
        rw [hB3] at hbk
        have er : (List.replicate i [46] ++ [B3]).map St = (List.replicate i [46]).map St ++ [St B3] := by rw [List.map_append]; rfl
        rw [er]
        exact hbk
    · rw [decide_eq_true (show (i : Int) < (x.length : Int) by omega)]
      simp only [if_true]
      walk_at "E"
      rw [← hi] at hst
      refine sub_strN i 42 rfl hst (by omega) ?_ (fun _ _ => by with_unfolding_all rfl)
      walk_at "E"
      refine cf_if ?_
      walk_at "E"
      simp only [decide_true, if_true]
      walk_at "E"
      refine cf_if ?_
      walk_at "E"
      refine tr_list (.own (by walk_at "m")) (by simp only [List.length_map]; omega) ?_
      rw [decide_eq_true (show List.map St (List.replicate pl [46] ++ [B3]) ≠ [] by simp)]
      simp only [Bool.not_true, Bool.false_eq_true, if_false]
      walk_at "E"
      refine sub_listL (y := St B3) (.own (by walk_at "m")) (by rw [List.map_append]; simp) (by simp only [List.length_map]; omega) ?_ (fun _ _ => by with_unfolding_all rfl)
      walk_at "E"
      simp only [if_true]
      walk_at "E"
      refine cwith_bound (l := rs) ?_ (by walk_at "w")
      walk_at "E"
      have hrl : ((List.replicate pl [46] ++ [B3]).map St).length ≤ 16777216 := by simp only [List.length_map]; omega
      walk_at "cbnd"
      walk_at "E"
      dsimp only
      exact ⟨x.length - (j0 + 2), by omega, j0 + 2, _, { w with oc := some (St [42]) }, rfl, .inr (.inr ⟨rfl, rfl⟩), by rw [hi]; exact ⟨Pick.refl _, fun _ y => y⟩⟩
    · rw [decide_eq_false (show ¬ ((i : Int) < (x.length : Int)) by omega)]
      simp only [Bool.false_eq_true, if_false]
      walk_at "E"
      have ei : i = x.length := by omega
      rw [ei]
      exact ⟨by trivial, w, by walk_at "b"⟩
  rintro σ₁ ⟨w, hbk⟩
  refine then_next (wbF hbk ?_)
  clear hbk
  walk_at "E"
  refine ⟨decide_eq_true rfl, ?_⟩
  walk_at "E"
  exact h rs _ (by walk_at "b")

noncomputable abbrev LJ (a st re ad i n fx : Option Value) : List (Str × Option Value) :=
  [(Str.ofString "inp", a), (Str.ofString "STAR", st), (Str.ofString "res", re), (Str.ofString "add", ad), (Str.ofString "i", i), (Str.ofString "n", n), (Str.ofString "fixed", fx)]
theorem join_parts_spec {cx : Cx} {A : Around} {P : Params} {p : Program} {loose : List Str} {S : List (Addr × CO)} {F : Fz} {n : Nat} (hF : Fz.Le F (Fz.top p loose (hd.heap_39 P))) (room : Room A (n + 3)) (inp star : Addr) (parts : List (List Nat))
    (hi : Sees ⟨S, F⟩ inp (.list (parts.map St ++ [.ref star]))) (hl : parts.length ≤ 1000) (hz : parts.flatten.length ≤ 100000) (Q : Value → CS → Prop)
    (h : ∀ σ', Back S F σ' → Q (St ([40, 63, 115, 58] ++ (parts.flatten ++ [46, 42]) ++ [41, 92, 90])) σ') :
    Cal cx A (.ref 76) [.ref inp, .ref star] Q ⟨S, F⟩ := by
  refine cal_K [Str.ofString "inp", Str.ofString "STAR"] [Str.ofString "res", Str.ofString "add", Str.ofString "i", Str.ofString "n", Str.ofString "fixed"] hF (by rfl) (by rfl) (by kernel_rfl) (by rfl) room (fun vs' e => ?_) rfl (by decide +kernel) (by rfl) (by rfl) (by rfl) (by decide +kernel) (by decide +kernel) fun L A' room' => ?_
  · obtain ⟨v1, v2, rfl⟩ : ∃ v1 v2, vs' = [v1, v2] := by
      match vs', e with
      | [v1, v2], _ => exact ⟨v1, v2, rfl⟩
    rfl
  generalize hE : fnEnv _ L 76 = env
  dsimp only [zipS, nones, List.zip, List.zipWith, List.map, List.append, HAppend.hAppend, Append.append]
  walk_at "E"
  intro rs
  walk_at "E"
  refine cv_append (S := []) (F := F) (vs := []) (l := rs) ?_
  walk_at "loc"
  refine ⟨_, _, _, rfl, rfl, .own (by walk_at "m"), fun u => ?_⟩
  walk_at "E"
  refine cf_swapped (names := [Str.ofString "i", Str.ofString "n"]) ?_ room'.hh (by walk_at "k") (by walk_at "k")
  have hi' : ∀ S', (∀ p ∈ S, p ∈ S') → Sees ⟨S', F⟩ inp (.list (parts.map St ++ [.ref star])) := fun S' hs => by
    cases hi with
    | own h => exact .own (hs _ h)
    | frozen h => exact .frozen h
  have hlen : (parts.map St ++ [Value.ref star]).length = parts.length + 1 := by simp
  walk_at "E"
  refine cal_len_list (hi' _ (fun p hp => by simp [hp])) (by rw [hlen]; omega) ?_
  rw [hlen]
  walk_at "E"
  intro tp
  refine ⟨tp, _, rfl, .own (by walk_at "m"), rfl, ?_⟩
  dsimp only [List.reverse, List.reverseAux, Stores]
  walk_at "E"
  refine wbF (S' := (u, .raw (boundApp rs)) :: (rs, .list []) :: (L, .ns (LJ (some (.ref inp)) (some (.ref star)) (some (.ref rs)) (some (.ref u)) (some (In 0)) (some (In (parts.length + 1 : Nat))) none)) :: S) (F' := F) (by walk_at "b") ?_
  refine cf_cut ⟨(u, .raw (boundApp rs)) :: (rs, .list (parts.map St)) :: (L, .ns (LJ (some (.ref inp)) (some (.ref star)) (some (.ref rs)) (some (.ref u)) (some (In parts.length)) (some (In (parts.length + 1 : Nat))) none)) :: S, F⟩ ?_ ?_
  · refine cf_while (fun m σ => ∃ i : Nat, m = parts.length - i ∧ i ≤ parts.length ∧ σ = ⟨(u, .raw (boundApp rs)) :: (rs, .list ((parts.take i).map St)) :: (L, .ns (LJ (some (.ref inp)) (some (.ref star)) (some (.ref rs)) (some (.ref u)) (some (In i)) (some (In (parts.length + 1 : Nat))) none)) :: S, F⟩) parts.length ⟨0, rfl, Nat.zero_le _, rfl⟩ ?_
    rintro m σ ⟨i, rfl, hi0, rfl⟩
    have hS : Sees ⟨(u, .raw (boundApp rs)) :: (rs, .list ((parts.take i).map St)) :: (L, .ns (LJ (some (.ref inp)) (some (.ref star)) (some (.ref rs)) (some (.ref u)) (some (In i)) (some (In (parts.length + 1 : Nat))) none)) :: S, F⟩ inp (.list (parts.map St ++ [.ref star])) := hi' _ (fun p hp => by simp [hp])
    walk_at "E"
    rw [decide_eq_true (show (i : Int) < ((parts.length + 1 : Nat) : Int) by omega)]
    simp only [if_true]
    walk_at "E"
    by_cases hlt : i < parts.length
    · have hget : (parts.map St ++ [Value.ref star])[i]? = some (St parts[i]) := by
        rw [List.getElem?_append_left (by simpa using hlt), List.getElem?_map, List.getElem?_eq_getElem hlt]; rfl
      refine sub_listN i _ rfl hS hget (by rw [hlen]; omega) ?_ (fun _ _ => by with_unfolding_all rfl)
      walk_at "E"
      simp only [if_true]
      walk_at "E"
      simp only [if_true]
      walk_at "E"
      refine cwith_bound (l := rs) ?_ (by walk_at "w")
      walk_at "E"
      have hS2 : Sees ⟨(u, .raw (boundApp rs)) :: (rs, .list ((parts.take i).map St)) :: (L, .ns (LJ (some (.ref inp)) (some (.ref star)) (some (.ref rs)) (some (.ref u)) (some (In i)) (some (In (parts.length + 1 : Nat))) none)) :: S, F⟩ inp (.list (parts.map St ++ [.ref star])) := hS
      refine sub_listN i _ rfl hS2 hget (by rw [hlen]; omega) ?_ (fun _ _ => by with_unfolding_all rfl)
      walk_at "E"
      have htl : (parts.take i).length ≤ 1000 := by rw [List.length_take]; omega
      walk_at "cbnd"
      walk_at "E"
      dsimp only
      refine ⟨parts.length - (i + 1), by omega, i + 1, rfl, hlt, ?_⟩
      have e : parts.take (i + 1) = parts.take i ++ [parts[i]] := by rw [List.take_add_one, List.getElem?_eq_getElem hlt]; rfl
      rw [e, List.map_append]
      have e2 : ((i + 1 : Nat) : Int) = (i : Int) + 1 := by push_cast; rfl
      rw [e2]
      rfl
    · obtain rfl : i = parts.length := by omega
      have hget : (parts.map St ++ [Value.ref star])[parts.length]? = some (.ref star) := by
        rw [List.getElem?_append_right (by simp)]; simp
      refine sub_listN parts.length _ rfl hS hget (by rw [hlen]; omega) ?_ (fun _ _ => by with_unfolding_all rfl)
      walk_at "E"
      simp only [Bool.false_eq_true, if_false]
      walk_at "E"
      rw [List.take_of_length_le (Nat.le_refl _)]
      exact ⟨rfl, rfl⟩
  have hS : ∀ S', (∀ p ∈ S, p ∈ S') → Sees ⟨S', F⟩ inp (.list (parts.map St ++ [.ref star])) := hi'
  have hget : (parts.map St ++ [Value.ref star])[parts.length]? = some (.ref star) := by
    rw [List.getElem?_append_right (by simp)]; simp
  walk_at "e"
  walk_at "e"
  refine cf_cut ⟨(u, .raw (boundApp rs)) :: (rs, .list (parts.map St ++ [St [46, 42]])) :: (L, .ns (LJ (some (.ref inp)) (some (.ref star)) (some (.ref rs)) (some (.ref u)) (some (In (parts.length + 1 : Nat))) (some (In (parts.length + 1 : Nat))) none)) :: S, F⟩ ?_ ?_
  · refine cf_while (fun m σ => σ = ⟨(u, .raw (boundApp rs)) :: (rs, .list (parts.map St)) :: (L, .ns (LJ (some (.ref inp)) (some (.ref star)) (some (.ref rs)) (some (.ref u)) (some (In parts.length)) (some (In (parts.length + 1 : Nat))) none)) :: S, F⟩) 0 rfl ?_
    rintro m σ rfl
    walk_at "E"
    rw [decide_eq_true (show (parts.length : Int) < ((parts.length + 1 : Nat) : Int) by omega)]
    simp only [if_true]
    walk_at "E"
    refine sub_listN parts.length _ rfl (hS _ (fun p hp => by simp [hp])) hget (by rw [hlen]; omega) ?_ (fun _ _ => by with_unfolding_all rfl)
    walk_at "E"
    refine ⟨rfl, ?_⟩
    walk_at "E"
    refine cf_if ?_
    walk_at "E"
    rw [decide_eq_true (show (parts.length : Int) + 1 = ((parts.length + 1 : Nat) : Int) by push_cast; rfl)]
    simp only [if_true]
    walk_at "E"
    refine cwith_bound (l := rs) ?_ (by walk_at "w")
    walk_at "E"
    walk_at "cbnd"
    walk_at "E"
    dsimp only
    first | exact ⟨trivial, rfl⟩ | exact ⟨rfl, rfl⟩
  walk_at "E"
  refine ⟨by simp, ?_⟩
  walk_at "E"
  refine cal_join_list (ys := parts ++ [[46, 42]]) ?_ (.own (by simp only [List.map_append, List.map_cons, List.map_nil]; walk_at "m")) ?_
  · rw [intercalate_nil]
    walk_at "E"
    refine joined_cons ?_
    walk_at "E"
    refine ⟨_, rfl, by simp, ?_⟩
    refine joined_cons ?_
    walk_at "E"
    refine fmt_str (by simp only [List.length_append, List.length_cons, List.length_nil, List.flatten_append, List.flatten_cons, List.flatten_nil]; omega) ?_
    refine ⟨_, rfl, by simp only [List.length_append, List.length_cons, List.length_nil, List.flatten_append, List.flatten_cons, List.flatten_nil]; omega, ?_⟩
    refine joined_cons ?_
    walk_at "E"
    refine ⟨_, rfl, by simp only [List.length_append, List.length_cons, List.length_nil, List.flatten_append, List.flatten_cons, List.flatten_nil]; omega, ?_⟩
    refine joined_nil ?_
    refine ⟨by simp only [List.length_append, List.length_cons, List.length_nil, List.flatten_append, List.flatten_cons, List.flatten_nil]; omega, ?_⟩
    have e : ([40, 63, 115, 58] ++ (parts.flatten ++ [46, 42]) ++ [41, 92, 90] : List Nat) = [] ++ [40, 63, 115, 58] ++ (parts ++ [[46, 42]]).flatten ++ [41, 92, 90] := by simp
    walk_at "E"
    dsimp only
    rw [← e]
    exact h _ (by walk_at "b")
  · simp only [List.map_append, List.map_cons, List.map_nil, List.sum_append, List.length_append, List.length_nil, Nat.mul_zero, List.sum_cons, List.sum_nil, List.length_cons]
    rw [← List.length_flatten]
    omega

theorem del_comm {α : Type} {l l' : List α} {a : α} (d : Del l a l') : ∀ {b : α} {l'' : List α}, Del l' b l'' → ∃ m, Del l b m ∧ Del m a l'' := by
  induction d with
  | head => intro b l'' h; exact ⟨_, .tail h, .head⟩
  | tail d ih =>
    intro b l'' h
    cases h with
    | head => exact ⟨_, .head, d⟩
    | tail h =>
      obtain ⟨m, x, y⟩ := ih h
      exact ⟨_, .tail x, .tail y⟩
theorem pick_skip {α : Type} {a : α} {r l' : List α} (p : Pick l' r) : ∀ {l : List α}, Del l a l' → Pick l r := by
  induction p with
  | nil => intro l _; exact .nil
  | cons d p ih =>
    intro l h
    obtain ⟨m, x, y⟩ := del_comm h d
    exact .cons x (ih y)
theorem pick_tl {α : Type} {a : α} {l r : List α} (p : Pick l (a :: r)) : Pick l r := by
  cases p with
  | cons d p => exact pick_skip p d
theorem back_tl {S : List (Addr × CO)} {p : Addr × CO} {F : Fz} {σ : CS} (h : Back (p :: S) F σ) : Back S F σ := ⟨pick_tl h.1, h.2⟩
theorem translate50_spec {cx : Cx} {A : Around} {P : Params} {p : Program} {loose : List Str} {S : List (Addr × CO)} {F : Fz} {n : Nat}
    (hF : Fz.Le F (Fz.top p loose (hd.heap_39 P))) (hB : Fz.Le F Fz.bm) (room : Room A (n + 5)) (hP : (64, CO.tab 68 qsT) ∈ S) (pl : Nat) (hpl : pl ≤ 10) (sf : List Nat) (x : List Nat) (hxe : x = List.replicate pl 63 ++ ([91] ++ (sf ++ [93, 42]))) (hx : x.length ≤ 1000) (i0 j1 j2 j0 : Nat) (hi0 : i0 = pl + 1) (hj0e : j0 = pl + 1 + sf.length) (hsf0 : sf ≠ [])
    (hj1 : (x[i0]? = some 33 ∧ j1 = i0 + 1) ∨ (x[i0]? ≠ some 33 ∧ j1 = i0)) (hj2 : (x[j1]? = some 93 ∧ j2 = j1 + 1) ∨ (x[j1]? ≠ some 93 ∧ j2 = j1)) (hj20 : j2 ≤ j0) (hj10 : j1 ≤ j0) (hno : ∀ k, j2 ≤ k → k < j0 → x[k]? ≠ some 93)
    (skip : Nat) (hskip : skip = if sf.head? = some 33 then 2 else 1) (hok : 45 ∈ sf → mergeOk (chunksOf skip sf) = true) (h128 : ∀ c ∈ trans2 skip sf, c < 128) (ht2 : (trans2 skip sf).length ≤ 3000) (hne : cloak (trans2 skip sf) ≠ []) (hne2 : cloak (trans2 skip sf) ≠ [33]) (hz : (fin3 (cloak (trans2 skip sf))).length ≤ 90000)
    (Q : Value → CS → Prop) (h : ∀ σ', Back S F σ' → Q (St ([40, 63, 115, 58] ++ ((List.replicate pl 46 ++ ([91] ++ fin3 (cloak (trans2 skip sf)) ++ [93])) ++ [46, 42]) ++ [41, 92, 90])) σ') :
    Cal cx A (.ref 50) [St x] Q ⟨S, F⟩ := by
  refine cal_K [Str.ofString "pat"] [Str.ofString "STAR", Str.ofString "parts"] hF (by rfl) (by rfl) (by kernel_rfl) (by rfl) room (fun vs' e => ?_) rfl (by decide +kernel) (by rfl) (by rfl) (by rfl) (by decide +kernel) (by decide +kernel) fun L A' room' => ?_
  · obtain ⟨v1, rfl⟩ : ∃ v1, vs' = [v1] := by
      match vs', e with
      | [v1], _ => exact ⟨v1, rfl⟩
    rfl
  generalize hE : fnEnv _ L 50 = env
  dsimp only [zipS, nones, List.zip, List.zipWith, List.map, List.append, HAppend.hAppend, Append.append]
  walk_at "E"
  refine cal_object fun d => ?_
  walk_at "E"
  refine cv_gref (a := 69) ?_ hF (by kernel_rfl) (by subst hE; rfl) (by subst hE; rfl) (by subst hE; kernel_rfl) (by kernel_rfl)
  refine cwith_def ?_ (by walk_at "w")
  walk_at "E"
  refine ⟨fnAt_of hF (a := 69) (by rfl) (by rfl), ?_⟩
  refine translate69_spec hF hB (Room.mono room' (by omega) : Room A' (n + 4)) (.tail _ (.tail _ hP)) pl hpl sf x hxe hx i0 j1 j2 j0 hi0 hj0e hsf0 hj1 hj2 hj20 hj10 hno skip hskip hok h128 ht2 hne hne2 d _ fun rs σ' hbk => ?_
  refine wbS hbk ?_
  clear hbk
  walk_at "E"
  refine cv_gref (a := 76) ?_ hF (by kernel_rfl) (by subst hE; rfl) (by subst hE; rfl) (by subst hE; kernel_rfl) (by kernel_rfl)
  refine cwith_def ?_ (by walk_at "w")
  walk_at "E"
  refine ⟨fnAt_of hF (a := 76) (by rfl) (by rfl), ?_⟩
  refine join_parts_spec hF (Room.mono room' (by omega) : Room A' (n + 3)) rs d (List.replicate pl [46] ++ [[91] ++ fin3 (cloak (trans2 skip sf)) ++ [93]]) (.own (by walk_at "m")) (by simp; omega) (by simp; omega) _ fun σ' hbk => ?_
  have e : (List.replicate pl [46] ++ [[91] ++ fin3 (cloak (trans2 skip sf)) ++ [93]] : List (List Nat)).flatten = List.replicate pl 46 ++ ([91] ++ fin3 (cloak (trans2 skip sf)) ++ [93]) := by
    rw [List.flatten_append]
    simp
  rw [e]
  exact h σ' (back_tl (back_tl (back_tl hbk)))

theorem cal_mono {cx : Cx} {A : Around} {σ : CS} {f : Value} {vs : List Value} {Q Q' : Value → CS → Prop} (h : Cal cx A f vs Q σ) (k : ∀ v σ', Q v σ' → Q' v σ') : Cal cx A f vs Q' σ := fun vs' hv => CW.mono (h vs' hv) fun v σ' e => k _ σ' e
noncomputable abbrev LSp (s p y z x : Option Value) : List (Str × Option Value) :=
  [(Str.ofString "s", s), (Str.ofString "predicate", p), (Str.ofString "yes", y), (Str.ofString "no", z), (Str.ofString "x", x)]
theorem split_spec {cx : Cx} {A : Around} {P : Params} {p : Program} {loose : List Str} {S : List (Addr × CO)} {F : Fz} {n : Nat} (hF : Fz.Le F (Fz.top p loose (hd.heap_39 P))) (room : Room A (n + 1)) (l pr : Addr) (vs : List Value) (g : Value → Bool)
    (hl : Sees ⟨S, F⟩ l (.list vs)) (hz : vs.length ≤ 1000)
    (hp : ∀ A' S' v, Room A' n → (∀ p ∈ S, p ∈ S') → v ∈ vs → FnAt cx ⟨S', F⟩ pr ∧ Cal cx A' (.ref pr) [v] (fun w σ' => w = .bool (g v) ∧ Back S' F σ') ⟨S', F⟩)
    (Q : Value → CS → Prop) (h : ∀ t y z σ', Back ((t, .tuple [.ref y, .ref z]) :: (y, .list (vs.filter g)) :: (z, .list (vs.filter fun v => !g v)) :: S) F σ' → Q (.ref t) σ') :
    Cal cx A (.ref 38) [.ref l, .ref pr] Q ⟨S, F⟩ := by
  refine cal_K [Str.ofString "s", Str.ofString "predicate"] [Str.ofString "yes", Str.ofString "no", Str.ofString "x"] hF (by rfl) (by rfl) (by kernel_rfl) (by rfl) room (fun vs' e => ?_) rfl (by decide +kernel) (by rfl) (by rfl) (by rfl) (by decide +kernel) (by decide +kernel) fun L A' room' => ?_
  · obtain ⟨v1, v2, rfl⟩ : ∃ v1 v2, vs' = [v1, v2] := by
      match vs', e with
      | [v1, v2], _ => exact ⟨v1, v2, rfl⟩
    rfl
  generalize hE : fnEnv _ L 38 = env
  dsimp only [zipS, nones, List.zip, List.zipWith, List.map, List.append, HAppend.hAppend, Append.append]
  walk_at "E"
  intro y
  walk_at "E"
  intro z
  walk_at "E"
  have hmem : ∀ S', (∀ p ∈ S, p ∈ S') → Sees ⟨S', F⟩ l (.list vs) := fun S' hs => sees_mono hl hs fun _ y => y
  have hfl : ∀ (g : Value → Bool) k, ((vs.take k).filter g).length ≤ 16777216 := fun g k => Nat.le_trans (List.length_filter_le ..) (by rw [List.length_take]; omega)
  refine cf_cutP (fun σ' => ∃ ox, Back ((L, .ns (LSp (some (.ref l)) (some (.ref pr)) (some (.ref y)) (some (.ref z)) ox)) :: (y, .list (vs.filter g)) :: (z, .list (vs.filter fun v => !g v)) :: S) F σ') ?_ ?_
  · refine cf_for (srcList l vs) srcList_ok (fun q S' F' => F' = F ∧ ∃ ox, S' = (z, .list ((vs.take q).filter fun v => !g v)) :: (y, .list ((vs.take q).filter g)) :: (L, .ns (LSp (some (.ref l)) (some (.ref pr)) (some (.ref y)) (some (.ref z)) ox)) :: S) room'.hh ?_ ?_ ?_ ?_ (fun _ => rfl) (fun _ _ => rfl)
    · walk_at "E"
      exact iter_list (fun it => ⟨rfl, none, rfl⟩) (hmem _ fun p hp => by simp [hp])
    · rintro q it S' F' ⟨rfl, ox, rfl⟩
      exact hmem _ fun p hp => by simp [hp]
    · rintro q it S' F' v ⟨rfl, ox, rfl⟩ hi v' hv
      have hf1 := hfl g q
      have hf2 := hfl (fun v => !g v) q
      have hmv : v ∈ vs := List.mem_of_getElem? hi
      have hq : q < vs.length := (List.getElem?_eq_some_iff.mp hi).1
      have et : vs.take (q + 1) = vs.take q ++ [v] := by rw [List.take_add_one, show vs[q]? = some v from hi]; rfl
      refine cu_assign_name hv ?_
      walk_at "e"
      refine cf_cons ?_
      refine cf_if ?_
      walk_at "E"
      refine cwith_def ?_ (by walk_at "w")
      walk_at "E"
      obtain ⟨hfn, hcal⟩ := hp A' ((it, CO.iter ((srcList l vs).k (q + 1))) :: (z, .list ((vs.take q).filter fun v => !g v)) :: (y, .list ((vs.take q).filter g)) :: (L, .ns (LSp (some (.ref l)) (some (.ref pr)) (some (.ref y)) (some (.ref z)) (some v))) :: S) v room' (fun p hp => by simp [hp]) hmv
      refine ⟨hfn, ?_⟩
      refine cal_mono hcal ?_
      rintro w σ' ⟨rfl, hbk⟩
      refine tr_bool ?_
      cases hg : g v
      · simp only [Bool.false_eq_true, if_false]
        refine wbF hbk ?_
        clear hbk
        walk_at "E"
        walk_at "capp"
        walk_at "E"
        dsimp only
        refine ⟨_, _, Pick.refl _, fun _ y => y, rfl, some v, ?_⟩
        rw [et, List.filter_append, List.filter_append]
        simp [hg]
      · simp only [if_true]
        refine wbF hbk ?_
        clear hbk
        walk_at "E"
        walk_at "capp"
        walk_at "E"
        dsimp only
        refine ⟨_, _, Pick.refl _, fun _ y => y, rfl, some v, ?_⟩
        rw [et, List.filter_append, List.filter_append]
        simp [hg]
    · rintro S' F' ⟨rfl, ox, rfl⟩
      refine cf_nil ⟨rfl, ox, ?_⟩
      have e : (srcList l vs).items.length = vs.length := rfl
      rw [e, List.take_length]
      walk_at "b"
  rintro σ₁ ⟨ox, hbk⟩
  refine then_next (wbF hbk ?_)
  clear hbk
  walk_at "E"
  intro d
  walk_at "E"
  exact h d y z _ (by walk_at "b")
structure LA where
  L : Addr
  cO : Addr
  cF : Addr
  cR : Addr
  cB : Addr
  cD : Addr
  cT : Addr
  cG : Addr
  cP : Addr
  cK : Addr
noncomputable def lawEnv (fd : FuncData) (a : LA) : Env := newEnv fd.scope a.L fd.globals [(Str.ofString "takes", a.cK), (Str.ofString "place", a.cP), (Str.ofString "ranges", a.cG), (Str.ofString "turned", a.cT), (Str.ofString "barred", a.cD), (Str.ofString "bit", a.cB), (Str.ofString "rows", a.cR), (Str.ofString "figures", a.cF), (Str.ofString "order", a.cO)] (fd.qualname ++ ".<locals>.") (some 93) fd.code none fd.builtins
noncomputable abbrev LL (sc nu to ta le nb du tu me tx re ye no : Option Value) : List (Str × Option Value) :=
  [(Str.ofString "script", sc), (Str.ofString "numbers", nu), (Str.ofString "total", to), (Str.ofString "table", ta), (Str.ofString "left", le), (Str.ofString "number", nb), (Str.ofString "due", du), (Str.ofString "turn", tu), (Str.ofString "members", me), (Str.ofString "text", tx), (Str.ofString "rest", re), (Str.ofString "yes", ye), (Str.ofString "no", no)]
noncomputable abbrev SL (a : LA) (oO oF oR oB oD oT oG oP oK : Option Value) (m : List (Str × Option Value)) (S : List (Addr × CO)) : List (Addr × CO) :=
  (a.cK, .cell oK) :: (a.cP, .cell oP) :: (a.cG, .cell oG) :: (a.cT, .cell oT) :: (a.cD, .cell oD) :: (a.cB, .cell oB) :: (a.cR, .cell oR) :: (a.cF, .cell oF) :: (a.cO, .cell oO) :: (a.L, .ns m) :: S
noncomputable def intOf : Value → Int
  | .int i _ => i
  | _ => 0
noncomputable def numsOf (xs : List Int) : List Int := (xs.take 10).map fun x => x % 1000000000
theorem item_In {m : List Int} {k : Nat} {v : Value} (h : (m.map In)[k]? = some v) : ∃ c, v = In c ∧ c ∈ m := by
  rw [List.getElem?_map] at h
  cases q : m[k]? with
  | none => rw [q] at h; cases h
  | some c => rw [q] at h; injection h with h; exact ⟨c, h.symm, List.mem_of_getElem? q⟩
theorem fm_In (g : Int → Int) : ∀ m : List Int, (m.map In).filterMap (fun v => some (In (g (intOf v)))) = (m.map g).map In
  | [] => rfl
  | c :: r => by
    rw [List.map_cons, List.filterMap_cons]
    show In (g c) :: _ = _
    rw [fm_In g r]; rfl
theorem slc_map {α β : Type} (f : α → β) (l : List α) (lo hi : Option Int) : slc (l.map f) lo hi = (slc l lo hi).map f := by
  unfold slc
  rw [List.length_map, List.map_take, List.map_drop]

theorem law_st0u {cx : Cx} {A : Around} {P : Params} {p : Program} {loose : List Str} {S : List (Addr × CO)} {F : Fz} {n : Nat} {fd : FuncData} {env : Env} {st : Stmt} {a : LA} (hfd : fdAt P 93 = some fd) (hE : lawEnv fd a = env) (hb : (bodyAt P 93)[0]? = some st)
    (hF : Fz.Le F (Fz.top p loose (hd.heap_39 P))) (room : Room A (n + 3)) (l : Addr) (xs : List Int) (hl : Sees ⟨S, F⟩ l (.list (xs.map In))) (hz : xs.length ≤ 63) {nu to ta le nb du tu me tx re ye no oO oF oR oB oD oT oG oP oK : Option Value} :
    CFu cx A (exec st env) (fun f σ' => f = .next ∧ ∃ nr, Back (SL a oO oF oR oB oD oT oG oP oK (LL (some (.ref l)) (some (.ref nr)) to ta le nb du tu me tx re ye no) ((nr, .list ((numsOf xs).map In)) :: S)) F σ')
      ⟨SL a oO oF oR oB oD oT oG oP oK (LL (some (.ref l)) nu to ta le nb du tu me tx re ye no) S, F⟩ := by
  have h0 : (bodyAt P 93)[0]? = some (Stmt.Assign _ _ _) := rfl
  rw [h0] at hb
  injection hb with hb
  subst hb
  have h1 : fdAt P 93 = some _ := rfl
  rw [h1] at hfd
  injection hfd with hfd
  subst hfd
  clear h0 h1
  dsimp only [SL]
  have hmem : ∀ S', (∀ p ∈ S, p ∈ S') → Sees ⟨S', F⟩ l (.list (xs.map In)) := fun S' hs => sees_mono hl hs fun _ y => y
  refine cfu_assign_comp (cl := []) [Str.ofString "x"] ?_ (by subst hE; kernel_rfl) (by decide +kernel) room.hh (by subst hE; kernel_rfl) (by rfl) (by decide +kernel) (fun _ => rfl) (fun _ _ => rfl)
  refine cvu_slice (L := a.L) (v := .ref l) ?_ (by walk_at "m") (by walk_at "m") (by walk_at "w") (by walk_at "w") (by walk_at "k") (by kernel_rfl)
  refine cut_list (fun d => ?_) (hmem _ fun p hp => by simp [hp]) .none (.int _) (by simp; omega)
  rw [slc_map, slc_t (j := 10) _ 10 rfl]
  refine ⟨srcList d _, srcList_ok, iter_list (fun it => ?_) (.own (by walk_at "m"))⟩
  refine pure_body (fun v => some (In (intOf v % 1000000000))) (by decide +kernel) (by rfl) (by kernel_rfl) (by simp [srcList]; omega) (fun S' hs => .own (hs _ (by walk_at "m"))) (fun C acc k v ys hv => ?_) (fun acc C o => ?_)
  · obtain ⟨c, rfl, hcm⟩ := item_In hv
    generalize hE2 : compEnvC _ _ C env = env2
    refine tests_nil ?_
    simp only [if_true]
    walk_at "E"
    refine op_pow_int (by decide) (by decide +kernel) ?_
    walk_at "E"
    refine op_mod_int (by decide) ?_
    exact ⟨rfl, by walk_at "b"⟩
  · have e : (srcList d ((xs.take 10).map In)).items.filterMap (fun v => some (In (intOf v % 1000000000))) = (numsOf xs).map In := fm_In (fun x => x % 1000000000) (xs.take 10)
    rw [e]
    refine' store_local (L := a.L) ?_ ?h0 ?h1 ?h2 ?h3 ?h4
    case h1 => walk_at "u"
    case h0 => walk_at "u"
    case h2 => walk_at "w"
    case h3 => walk_at "w"
    case h4 => walk_at "k"
    refine ⟨_, _, .head, ?_⟩
    exact ⟨rfl, acc, by walk_at "b"⟩

theorem perm_pick (l : List Nat) (i : Nat) (h : i < l.length) : (l[i] :: l.eraseIdx i).Perm l := by
  induction l generalizing i with
  | nil => simp at h
  | cons x r ih =>
    cases i with
    | zero => exact .refl _
    | succ i =>
      have h' : i < r.length := by simpa using h
      show (r[i] :: x :: r.eraseIdx i).Perm (x :: r)
      exact (List.Perm.swap _ _ _).trans (List.Perm.cons _ (ih i h'))
theorem law_st6 {cx : Cx} {A : Around} {P : Params} {p : Program} {loose : List Str} {S : List (Addr × CO)} {F : Fz} {n : Nat} {fd : FuncData} {env : Env} {st : Stmt} {a : LA} (hfd : fdAt P 93 = some fd) (hE : lawEnv fd a = env) (hb : (bodyAt P 93)[6]? = some st)
    (hF : Fz.Le F (Fz.top p loose (hd.heap_39 P))) (room : Room A (n + 3)) (ord lf : Addr) (l0 : List Nat) (hz : l0.length ≤ 7) (tot : Int) {sc nu ta nb du tu me tx re ye no oF oR oB oD oT oG oP oK : Option Value} :
    CF cx A (exec st env) (fun f σ' => f = .next ∧ ∃ (o : List Nat) (tot' : Int) (oP' : Option Value), o.Perm l0 ∧ Back (SL a (some (.ref ord)) oF oR oB oD oT oG oP' oK (LL sc nu (some (In tot')) ta (some (.ref lf)) nb du tu me tx re ye no) ((ord, .list (o.map fun c => St [c])) :: S)) F σ')
      ⟨SL a (some (.ref ord)) oF oR oB oD oT oG oP oK (LL sc nu (some (In tot)) ta (some (.ref lf)) nb du tu me tx re ye no) ((ord, .list []) :: (lf, .list (l0.map fun c => St [c])) :: S), F⟩ := by
  refine cf_hide fun G hG => ?_
  have h0 : (bodyAt P 93)[6]? = some (Stmt.While _ _ _ _) := rfl
  rw [h0] at hb
  injection hb with hb
  subst hb
  have h1 : fdAt P 93 = some _ := rfl
  rw [h1] at hfd
  injection hfd with hfd
  subst hfd
  clear h0 h1
  have hxO : env.cells.lookup (Str.ofString "order") = some a.cO := by subst hE; kernel_rfl
  have hxP : env.cells.lookup (Str.ofString "place") = some a.cP := by subst hE; kernel_rfl
  refine cf_while (fun q σ => ∃ (o l : List Nat) (tot : Int) (oP : Option Value), q = l.length ∧ (o ++ l).Perm l0 ∧ Back (SL a (some (.ref ord)) oF oR oB oD oT oG oP oK (LL sc nu (some (In tot)) ta (some (.ref lf)) nb du tu me tx re ye no) ((ord, .list (o.map fun c => St [c])) :: (lf, .list (l.map fun c => St [c])) :: S)) F σ) l0.length ⟨[], l0, tot, oP, rfl, .refl _, by exact back_refl⟩ ?_
  rintro q σ ⟨o, l, tot, oP, rfl, hp, hbk⟩
  refine wbB hbk ?_
  clear hbk
  have hlen : o.length + l.length ≤ 7 := by have := hp.length_eq; simp at this; omega
  dsimp only [SL]
  walk_at "E"
  intro d
  refine op_ne_nil room (.own (by walk_at "m")) (.own (by walk_at "m")) ?_
  walk_at "E"
  refine cb_ite (fun q => ?_) fun q => ?_
  · have hne : l ≠ [] := by simpa using q
    have hpos : 0 < l.length := List.length_pos_iff.mpr hne
    walk_at "E"
    refine op_mod_int (by simp; omega) ?_
    walk_at "E"
    refine iop_div_int (by simp; omega) (by simp; omega) ?_
    walk_at "E"
    have hi0 : 0 ≤ tot % (((l.map fun c => St [c]).length : Nat) : Int) := Int.emod_nonneg _ (by simp; omega)
    have hi1 : tot % (((l.map fun c => St [c]).length : Nat) : Int) < l.length := by
      have := Int.emod_lt_of_pos tot (b := (((l.map fun c => St [c]).length : Nat) : Int)) (by simp; omega)
      simpa using this
    generalize tot % (((l.map fun c => St [c]).length : Nat) : Int) = i at hi0 hi1
    obtain ⟨k, rfl⟩ : ∃ k : Nat, i = (k : Int) := ⟨i.toNat, by omega⟩
    have hk : k < l.length := by omega
    refine meth_list ?_ (.own (by walk_at "m")) PySem.F.slot_list_pop PySem.F.type_list_pop
    walk_at "E"
    refine' cal_pop_at (y := St [l[k]]) ?_ ?u hi0 ?gy ?z
    case u => walk_at "u"
    case gy => simp [hk]
    case z => simp; omega
    walk_at "E"
    refine' cal_append ?_ ?u ?hs
    case u => walk_at "u"
    case hs => simp; omega
    walk_at "E"
    dsimp only
    have e1 : (l.map fun c => St [c]).eraseIdx ((k : Int).toNat) = (l.eraseIdx k).map fun c => St [c] := by rw [map_eraseIdx]; rfl
    have e2 : (o.map fun c => St [c]) ++ [St [l[k]]] = (o ++ [l[k]]).map fun c => St [c] := by simp
    rw [e1, e2]
    have hl2 : (l.eraseIdx k).length + 1 = l.length := by rw [List.length_eraseIdx]; simp [hk]; omega
    refine ⟨(l.eraseIdx k).length, by omega, o ++ [l[k]], l.eraseIdx k, _, _, rfl, ?_, by walk_at "b"⟩
    rw [List.append_assoc]
    exact (List.Perm.append_left o (perm_pick l k hk)).trans hp
  · have hne : l = [] := by simpa using q
    subst hne
    refine cf_nil (hG _ _ ⟨rfl, o, tot, oP, by simpa using hp, ?_⟩)
    walk_at "b"

theorem wbI {cx : Cx} {A : Around} {σ : CS} {x : Value} {src : Src} {K : Addr → List (Addr × CO) → Fz → Prop} {S' : List (Addr × CO)} {F' : Fz} (hb : Back S' F' σ) (h : Iter cx A x src K ⟨S', F'⟩) : Iter cx A x src K σ := fun x' s hx R => by
  obtain ⟨S, F⟩ := σ
  exact h x' s hx (R.weak hb.1 hb.2)
noncomputable def figN (k : Nat) : List Nat := [k % 8, k / 8 % 8, k / 64 % 8].filter fun d => decide (0 < d)
noncomputable abbrev NV (k : Nat) : Value := In (k : Int)
theorem figN_ok (k : Nat) : figOk (figN k) := by
  refine ⟨Nat.le_trans (List.length_filter_le _ _) (by simp), fun c hc => ?_⟩
  obtain ⟨h1, h2⟩ := List.mem_filter.mp hc
  simp only [decide_eq_true_eq] at h2
  simp only [List.mem_cons, List.not_mem_nil, or_false] at h1
  omega
theorem fm_pos : ∀ l : List Nat, (l.map NV).filterMap (fun v => if decide (0 < intOf v) then some v else none) = (l.filter fun d => decide (0 < d)).map NV
  | [] => rfl
  | c :: r => by
    rw [List.map_cons, List.filterMap_cons, List.filter_cons]
    have e : decide (0 < intOf (NV c)) = decide (0 < c) := by show decide (0 < (c : Int)) = _; apply decide_eq_decide.mpr; omega
    rw [e, fm_pos r]
    by_cases q : 0 < c <;> simp [q]
theorem law_st8 {cx : Cx} {A : Around} {P : Params} {p : Program} {loose : List Str} {S : List (Addr × CO)} {F : Fz} {n : Nat} {fd : FuncData} {env : Env} {st : Stmt} {a : LA} (hfd : fdAt P 93 = some fd) (hE : lawEnv fd a = env) (hb : (bodyAt P 93)[8]? = some st)
    (hF : Fz.Le F (Fz.top p loose (hd.heap_39 P))) (room : Room A (n + 3)) (fg nr : Addr) (ns : List Nat) (hz : ns.length ≤ 10) (hnr : Sees ⟨S, F⟩ nr (.list (ns.map NV))) {sc to ta le nb du tu me tx re ye no oO oR oB oD oT oG oP oK : Option Value} :
    CF cx A (exec st env) (fun f σ' => f = .next ∧ ∃ (refs : List Addr) (F' : Fz) (nb' : Option Value), Fz.Le F' F ∧ RowsF F' refs ((ns ++ [83, 10, 83, 417]).map fun k => (figN k).map NV) ∧
        Back (SL a oO (some (.ref fg)) oR oB oD oT oG oP oK (LL sc (some (.ref nr)) to ta le nb' du tu me tx re ye no) ((fg, .list (refs.map .ref)) :: S)) F' σ')
      ⟨SL a oO (some (.ref fg)) oR oB oD oT oG oP oK (LL sc (some (.ref nr)) to ta le nb du tu me tx re ye no) ((fg, .list []) :: S), F⟩ := by
  refine cf_hide fun G hG => ?_
  have h0 : (bodyAt P 93)[8]? = some (Stmt.For _ _ _ _ _) := rfl
  rw [h0] at hb
  injection hb with hb
  subst hb
  have h1 : fdAt P 93 = some _ := rfl
  rw [h1] at hfd
  injection hfd with hfd
  subst hfd
  clear h0 h1
  have hxF : env.cells.lookup (Str.ofString "figures") = some a.cF := by subst hE; kernel_rfl
  have hmem : ∀ S', (∀ p ∈ S, p ∈ S') → Sees ⟨S', F⟩ nr (.list (ns.map NV)) := fun S' hs => sees_mono hnr hs fun _ y => y
  refine cf_for2 ((ns ++ [83, 10, 83, 417]).map NV) (fun src q S' F' => Fz.Le F' F ∧ ∃ (d : Addr) (refs : List Addr) (nb : Option Value), src = srcList d ((ns ++ [83, 10, 83, 417]).map NV) ∧ RowsF F' refs (((ns ++ [83, 10, 83, 417]).take q).map fun k => (figN k).map NV) ∧
      S' = (d, .list ((ns ++ [83, 10, 83, 417]).map NV)) :: SL a oO (some (.ref fg)) oR oB oD oT oG oP oK (LL sc (some (.ref nr)) to ta le nb du tu me tx re ye no) ((fg, .list (refs.map .ref)) :: S)) room.hh ?_ ?_ ?_ ?_ (fun _ => rfl) (fun _ _ => rfl)
  · dsimp only [SL]
    walk_at "E"
    intro d4
    refine op_add_list (fun d => ?_) (hmem _ fun p hp => by simp [hp]) (.own (by walk_at "m")) (by simp; omega)
    have e : ns.map NV ++ [In 83, In 10, In 83, In 417] = (ns ++ [83, 10, 83, 417]).map NV := by simp
    rw [e]
    refine ⟨srcList d _, srcList_ok, rfl, ?_⟩
    refine wbI (S' := (d, .list ((ns ++ [83, 10, 83, 417]).map NV)) :: SL a oO (some (.ref fg)) oR oB oD oT oG oP oK (LL sc (some (.ref nr)) to ta le nb du tu me tx re ye no) ((fg, .list []) :: S)) (F' := F) (by walk_at "b") ?_
    refine iter_list (fun it => ⟨fun _ y => y, d, [], nb, rfl, .nil, rfl⟩) (.own (by walk_at "m"))
  · rintro src q it S' F' ⟨hle, d, refs, nb, rfl, hR, rfl⟩
    exact .own (by walk_at "m")
  · rintro src q it S' F' v ⟨hle, d, refs, nb, rfl, hR, rfl⟩ hi v' hv
    obtain ⟨k, hk, rfl⟩ : ∃ k, (ns ++ [83, 10, 83, 417])[q]? = some k ∧ v = NV k := by
      rw [List.getElem?_map] at hi
      cases h : (ns ++ [83, 10, 83, 417])[q]? with
      | none => rw [h] at hi; cases hi
      | some k => rw [h] at hi; injection hi with hi; exact ⟨k, rfl, hi.symm⟩
    have hql : q < (ns ++ [83, 10, 83, 417]).length := (List.getElem?_eq_some_iff.mp hk).1
    have hrl : refs.length = q := by have := hR.len; rw [List.length_map, List.length_take] at this; omega
    have hF' : Fz.Le F' (Fz.top p loose (hd.heap_39 P)) := fun h y => hF h (hle h y)
    refine cu_assign_name hv ?_
    dsimp only [SL]
    walk_at "e"
    refine cfT (Q := fun f σ₂ => f = .next ∧ ∃ acc, Back ((acc, .list ((figN k).map NV)) :: (it, .iter ((srcList d ((ns ++ [83, 10, 83, 417]).map NV)).k (q + 1))) :: (d, .list ((ns ++ [83, 10, 83, 417]).map NV)) :: SL a oO (some (.ref fg)) oR oB oD oT oG oP oK (LL sc (some (.ref nr)) to ta le (some (NV k)) du tu me tx re ye no) ((fg, .list ((refs ++ [acc]).map .ref)) :: S)) F' σ₂) ?_ ?_
    · walk_at "E"
      refine cv_listcomp2 (cl := []) [Str.ofString "one"] ?_ (by decide +kernel) room.hh (by subst hE; kernel_rfl) (by rfl) (by decide +kernel) (fun _ => rfl) (fun _ _ => rfl)
      walk_at "E"
      refine op_mod_int (by decide) ?_
      walk_at "E"
      refine op_div_int (by decide) (by decide) ?_
      walk_at "E"
      refine op_mod_int (by decide) ?_
      walk_at "E"
      refine op_div_int (by decide) (by decide) ?_
      walk_at "E"
      refine op_mod_int (by decide) ?_
      walk_at "E"
      intro d2
      have e3 : [In ((k : Int) % 8), In ((k : Int) / 8 % 8), In ((k : Int) / 64 % 8)] = [k % 8, k / 8 % 8, k / 64 % 8].map NV := by
        have a1 : (k : Int) % 8 = ((k % 8 : Nat) : Int) := by omega
        have a2 : (k : Int) / 8 % 8 = ((k / 8 % 8 : Nat) : Int) := by omega
        have a3 : (k : Int) / 64 % 8 = ((k / 64 % 8 : Nat) : Int) := by omega
        rw [a1, a2, a3]; rfl
      rw [e3]
      refine ⟨srcTuple d2 _, srcTuple_ok, iter_tuple (fun it2 => ?_) (.own (by walk_at "m"))⟩
      refine pure_body (fun v => if decide (0 < intOf v) then some v else none) (by decide +kernel) (by rfl) (by kernel_rfl) (by simp [srcTuple]) (fun S' hs => .own (hs _ (by walk_at "m"))) (fun C acc k2 v ys hv => ?_) (fun acc C o => ?_)
      · obtain ⟨c, rfl⟩ : ∃ c : Nat, v = NV c := by
          have hm := List.mem_of_getElem? hv
          obtain ⟨c, _, rfl⟩ := List.mem_map.mp hm
          exact ⟨c, rfl⟩
        generalize hE2 : compEnvC _ _ C env = env2
        refine tests_one ?_
        walk_at "E"
        refine cb_ite (fun q => ?_) fun q => ?_
        · rw [show decide (0 < intOf (NV c)) = true from q]
          walk_at "E"
          exact ⟨rfl, by walk_at "b"⟩
        · rw [show decide (0 < intOf (NV c)) = false from q]
          exact ⟨rfl, by walk_at "b"⟩
      · have e : (srcTuple d2 ([k % 8, k / 8 % 8, k / 64 % 8].map NV)).items.filterMap (fun v => if decide (0 < intOf v) then some v else none) = (figN k).map NV := fm_pos _
        rw [e]
        refine ⟨_, _, .head, ?_⟩
        dsimp only
        walk_at "E"
        refine' cal_append ?_ ?u ?hs
        case u => walk_at "u"
        case hs => (have h4 : (ns ++ [83, 10, 83, 417]).length = ns.length + 4 := by simp); simp; omega
        walk_at "E"
        have e5 : refs.map Value.ref ++ [Value.ref acc] = (refs ++ [acc]).map Value.ref := by simp
        rw [e5]
        exact ⟨by trivial, acc, by walk_at "b"⟩
    · rintro f σ₁ ⟨rfl, acc, hbk⟩
      refine ⟨_, Turns.trans (Turns.back hbk) (Turns.freeze .head rfl), ?_⟩
      dsimp only
      refine ⟨_, _, .refl _, fun _ y => y, fun h y => hle h y.1, d, refs ++ [acc], some (NV k), rfl, ?_, rfl⟩
      have eM : ((ns ++ [83, 10, 83, 417]).take (q + 1)).map (fun k => (figN k).map NV) = ((ns ++ [83, 10, 83, 417]).take q).map (fun k => (figN k).map NV) ++ [(figN k).map NV] := by
        rw [List.take_add_one, hk, Option.toList_some, List.map_append]; rfl
      rw [eM]
      exact (hR.le le_fst).snoc le_last
  · rintro src S' F' ⟨hle, d, refs, nb, rfl, hR, rfl⟩
    refine cf_nil (hG _ _ ⟨rfl, refs, F', nb, hle, ?_, ?_⟩)
    · rw [List.length_map, List.take_length] at hR
      exact hR
    · dsimp only [SL]
      walk_at "b"

noncomputable def nameOf (o f : List Nat) : List Nat := f.map fun d => o.getD (d - 1) 0
noncomputable def rowV (o : List Nat) (figs : List (List Nat)) (k : Nat) : List Value := [St (nameOf o (figs.getD k [])), NV k]
theorem fm_name (o : List Nat) : ∀ fl : List Nat, (fl.map NV).filterMap (fun v => some (St [o.getD (intOf v - 1).toNat 0])) = ((nameOf o fl).map fun c => [c]).map St
  | [] => rfl
  | c :: r => by
    rw [List.map_cons, List.filterMap_cons]
    simp only [nameOf, List.map_cons]
    have ih := fm_name o r
    simp only [nameOf] at ih
    rw [ih]
    have : (intOf (NV c) - 1).toNat = c - 1 := by show ((c : Int) - 1).toNat = _; omega
    rw [this]
theorem law_st9 {cx : Cx} {A : Around} {P : Params} {p : Program} {loose : List Str} {S : List (Addr × CO)} {F : Fz} {n : Nat} {fd : FuncData} {env : Env} {st : Stmt} {a : LA} (hfd : fdAt P 93 = some fd) (hE : lawEnv fd a = env) (hb : (bodyAt P 93)[9]? = some st)
    (hF : Fz.Le F (Fz.top p loose (hd.heap_39 P))) (room : Room A (n + 3)) (fg ord : Addr) (o : List Nat) (ho : o.length = 7) (refs : List Addr) (figs : List (List Nat)) (hfl : figs.length ≤ 14) (hok : ∀ f ∈ figs, figOk f)
    (hR : RowsF F refs (figs.map fun f => f.map NV)) (hfg : Fz.Le F (.obj fg (.list (refs.map .ref)))) (hord : Fz.Le F (.obj ord (.list (o.map fun c => St [c])))) {sc nu to ta le nb du tu me tx re ye no oR oB oD oT oG oP oK : Option Value} :
    CF cx A (exec st env) (fun f σ' => f = .next ∧ ∃ (rw : Addr) (rr : List Addr) (F' : Fz), Fz.Le F' F ∧ RowsF F' rr ((List.range figs.length).map (rowV o figs)) ∧
        Back (SL a (some (.ref ord)) (some (.ref fg)) (some (.ref rw)) oB oD oT oG oP oK (LL sc nu to ta le nb du tu me tx re ye no) ((rw, .list (rr.map .ref)) :: S)) F' σ')
      ⟨SL a (some (.ref ord)) (some (.ref fg)) oR oB oD oT oG oP oK (LL sc nu to ta le nb du tu me tx re ye no) S, F⟩ := by
  refine cf_hide fun G hG => ?_
  have h0 : (bodyAt P 93)[9]? = some (Stmt.Assign _ _ _) := rfl
  rw [h0] at hb
  injection hb with hb
  subst hb
  have h1 : fdAt P 93 = some _ := rfl
  rw [h1] at hfd
  injection hfd with hfd
  subst hfd
  clear h0 h1
  have hxO : env.cells.lookup (Str.ofString "order") = some a.cO := by subst hE; kernel_rfl
  have hxF : env.cells.lookup (Str.ofString "figures") = some a.cF := by subst hE; kernel_rfl
  have hxR : env.cells.lookup (Str.ofString "rows") = some a.cR := by subst hE; kernel_rfl
  have hlen : refs.length = figs.length := by have := hR.len; simpa using this
  dsimp only [SL]
  refine cf_assign ?_ (by subst hE; kernel_rfl)
  refine cv_listcomp (cl := [(Str.ofString "order", a.cO), (Str.ofString "figures", a.cF)]) (srcRange 0 figs.length) srcRange_ok [Str.ofString "k"] ?_ (by decide +kernel) room.hh (by subst hE; kernel_rfl) (by rfl) (by decide +kernel) (fun _ => rfl) (fun _ _ => rfl)
  walk_at "E"
  refine cal_len_list (.frozen hfg) (by simp; omega) ?_
  walk_at "E"
  refine cal_range1 fun r => ?_
  refine iter_range (fun it => ?_) .head (by simp; omega) (by decide) (by simp; omega)
  refine gen_body (fun q ys F' => ∃ rr, ys = rr.map Value.ref ∧ RowsF F' rr ((List.range q).map (rowV o figs))) (by decide +kernel) (by rfl) (by kernel_rfl) (by simp [srcRange]; omega) ⟨[], rfl, .nil⟩ (fun _ _ _ _ => trivial) (fun C acc q v ys F' hle hI hy hi => ?_) (fun acc C ov ys F' hle hI hy => ?_)
  · have hql : q < figs.length := by have := (List.getElem?_eq_some_iff.mp hi).1; simpa [srcRange] using this
    obtain rfl : v = NV q := by
      have : (srcRange 0 figs.length).items[q]? = some (In (0 + (q : Int))) := by simp [srcRange, hql]
      rw [this] at hi
      injection hi with hi
      rw [← hi, Int.zero_add]
    obtain ⟨rr, rfl, hRR⟩ := hI
    obtain ⟨fr, hfr1, hfr2⟩ := hR.get (i := q) (v := (figs[q]).map NV) (by simp [hql])
    have hF' : Fz.Le F' (Fz.top p loose (hd.heap_39 P)) := fun h y => hF h (hle h y)
    have hfgok := hok (figs[q]) (List.getElem_mem hql)
    have hl3 : (figs[q]).length ≤ 3 := hfgok.1
    refine tests_nil ?_
    simp only [if_true]
    generalize hE2 : compEnvC _ _ C env = env2
    have hx2F : env2.cells.lookup (Str.ofString "figures") = some a.cF := by subst hE2; kernel_rfl
    have hx2O : env2.cells.lookup (Str.ofString "order") = some a.cO := by subst hE2; kernel_rfl
    walk_at "E"
    refine cv_listcomp (cl := [(Str.ofString "order", a.cO)]) (srcList fr ((figs[q]).map NV)) srcList_ok [Str.ofString "one"] ?_ (by decide +kernel) room.hh (by subst hE2; kernel_rfl) (by rfl) (by decide +kernel) (fun _ => rfl) (fun _ _ => rfl)
    walk_at "E"
    refine sub_listN q (.ref fr) rfl (.frozen fun h y => hfg h (hle h y)) (by simp [hfr1]) (by simp; omega) ?_ (fun _ _ => rfl)
    refine iter_list (fun it2 => ?_) (.frozen fun h y => hfr2 h (hle h y))
    refine pure_body (fun v => some (St [o.getD (intOf v - 1).toNat 0])) (by decide +kernel) (by rfl) (by kernel_rfl) (by simp [srcList]; omega) (fun S' hs => .frozen fun h y => hfr2 h (hle h y)) (fun C2 acc2 k2 v ys2 hv => ?_) (fun acc2 C2 ov => ?_)
    · obtain ⟨c, rfl, hc⟩ : ∃ c : Nat, v = NV c ∧ c ∈ figs[q] := by
        have hm := List.mem_of_getElem? hv
        obtain ⟨c, hc, rfl⟩ := List.mem_map.mp hm
        exact ⟨c, rfl, hc⟩
      have hc8 := hfgok.2 c hc
      generalize hE3 : compEnvC _ _ C2 env2 = env3
      have hx3O : env3.cells.lookup (Str.ofString "order") = some a.cO := by subst hE3; kernel_rfl
      refine tests_nil ?_
      simp only [if_true]
      walk_at "E"
      have hco : c - 1 < o.length := by omega
      have hcs : ((c : Int) - 1) = ((c - 1 : Nat) : Int) := by omega
      refine sub_listN (c - 1) (St [o[c - 1]]) hcs (.frozen fun h y => hord h (hle h y)) (by simp [hco]) (by simp; omega) ?_ (fun _ _ => rfl)
      refine ⟨?_, by walk_at "b"⟩
      have : (intOf (NV c) - 1).toNat = c - 1 := by show ((c : Int) - 1).toNat = _; omega
      rw [this]
      simp [List.getD, hco]
    · have e : (srcList fr ((figs[q]).map NV)).items.filterMap (fun v => some (St [o.getD (intOf v - 1).toNat 0])) = ((nameOf o figs[q]).map fun c => [c]).map St := fm_name o _
      rw [e]
      refine ⟨_, _, .head, ?_⟩
      dsimp only
      walk_at "E"
      refine cal_join_list (ys := (nameOf o figs[q]).map fun c => [c]) ?_ (.own (by walk_at "m")) ?_
      · rw [intercalate_nil]
        rw [flat_sing]
        walk_at "E"
        intro d
        refine ⟨F'.and (.obj d (.list (rowV o figs q))), le_fst, ⟨rr ++ [d], by simp, ?_⟩, ?_⟩
        · have eM : (List.range (q + 1)).map (rowV o figs) = (List.range q).map (rowV o figs) ++ [rowV o figs q] := by rw [List.range_succ, List.map_append]; rfl
          rw [eM]
          exact (hRR.le le_fst).snoc le_last
        · have er : rowV o figs q = [St (nameOf o figs[q]), In (q : Int)] := by unfold rowV; simp [hql]
          rw [er]
          refine Turns.trans (Turns.freeze (a := d) .head rfl) (Turns.back ?_)
          walk_at "b"
      · have hs : ∀ l : List Nat, ((l.map fun c => [c]).map (·.length)).sum = l.length := by
          intro l
          induction l with
          | nil => rfl
          | cons c r ih => simp only [List.map_cons, List.sum_cons, ih]; simp; omega
        rw [hs]
        simp [nameOf]
        omega
  · obtain ⟨rr, rfl, hRR⟩ := hI
    have eN : (srcRange 0 figs.length).items.length = figs.length := by simp [srcRange]
    rw [eN] at hRR
    refine ⟨_, _, .head, ?_⟩
    dsimp only
    refine' store_cell (c := a.cR) ?_ ?h0 hxR ?h2 ?h3
    case h0 => walk_at "u"
    case h2 => walk_at "w"
    case h3 => walk_at "k"
    exact hG _ _ ⟨rfl, acc, rr, F', hle, hRR, by walk_at "b"⟩

theorem law_st10 {cx : Cx} {A : Around} {P : Params} {p : Program} {loose : List Str} {S : List (Addr × CO)} {F : Fz} {n : Nat} {fd : FuncData} {env : Env} {st : Stmt} {a : LA} (hfd : fdAt P 93 = some fd) (hE : lawEnv fd a = env) (hb : (bodyAt P 93)[10]? = some st)
    (hF : Fz.Le F (Fz.top p loose (hd.heap_39 P))) (room : Room A (n + 3)) (fg rw : Addr) (refs rr : List Addr) (figs : List (List Nat)) (hfl : figs.length ≤ 14) (hfl2 : 2 ≤ figs.length) (hok : ∀ f ∈ figs, figOk f)
    (hR : RowsF F refs (figs.map fun f => f.map NV)) (hfg : Fz.Le F (.obj fg (.list (refs.map .ref)))) (hrr : rr.length = figs.length) (hrw : Fz.Le F (.obj rw (.list (rr.map .ref)))) {sc nu to ta le nb du tu me tx re ye no oO oB oD oT oG oP oK : Option Value} :
    CF cx A (exec st env) (fun f σ' => f = .next ∧ ∃ (dd : Addr) (is : List Nat), is.Perm (List.range figs.length) ∧ (∀ i j, i < j → j < figs.length → rankF (fun k => figs.getD k []) (is.getD i 0) < rankF (fun k => figs.getD k []) (is.getD j 0)) ∧
        Back (SL a oO (some (.ref fg)) (some (.ref rw)) oB oD oT oG oP oK (LL sc nu to ta le nb (some (.ref dd)) tu me tx re ye no) ((dd, .list (is.map fun i => .ref (rr.getD i 0))) :: S)) F σ')
      ⟨SL a oO (some (.ref fg)) (some (.ref rw)) oB oD oT oG oP oK (LL sc nu to ta le nb du tu me tx re ye no) S, F⟩ := by
  refine cf_hide fun G hG => ?_
  have h0 : (bodyAt P 93)[10]? = some (Stmt.Assign _ _ _) := rfl
  rw [h0] at hb
  injection hb with hb
  subst hb
  have h1 : fdAt P 93 = some _ := rfl
  rw [h1] at hfd
  injection hfd with hfd
  subst hfd
  clear h0 h1
  have hxF : env.cells.lookup (Str.ofString "figures") = some a.cF := by subst hE; kernel_rfl
  have hxR : env.cells.lookup (Str.ofString "rows") = some a.cR := by subst hE; kernel_rfl
  have hlen : refs.length = figs.length := by have := hR.len; simpa using this
  dsimp only [SL]
  refine cf_assign_comp2 (cl := [(Str.ofString "rows", a.cR)]) [Str.ofString "pair"] ?_ (by subst hE; kernel_rfl) (by decide +kernel) room.hh (by subst hE; kernel_rfl) (by rfl) (by decide +kernel) (fun _ => rfl) (fun _ _ => rfl)
  walk_at "E"
  refine cv_listcomp (cl := [(Str.ofString "figures", a.cF)]) (srcRange 0 figs.length) srcRange_ok [Str.ofString "k"] ?_ (by decide +kernel) room.hh (by subst hE; kernel_rfl) (by rfl) (by decide +kernel) (fun _ => rfl) (fun _ _ => rfl)
  walk_at "E"
  refine cal_len_list (.frozen hfg) (by simp; omega) ?_
  walk_at "E"
  refine cal_range1 fun r => ?_
  refine iter_range (fun it => ?_) .head (by simp; omega) (by decide) (by simp; omega)
  refine gen_body (fun q ys F' => ∃ pr, ys = pr.map Value.ref ∧ RowsF F' pr ((List.range q).map fun k => [.ref (refs.getD k 0), NV k])) (by decide +kernel) (by rfl) (by kernel_rfl) (by simp [srcRange]; omega) ⟨[], rfl, .nil⟩ (fun _ _ _ _ => trivial) (fun C acc q v ys F' hle hI hy hi => ?_) (fun acc C ov ys F' hle hI hy => ?_)
  · have hql : q < figs.length := by have := (List.getElem?_eq_some_iff.mp hi).1; simpa [srcRange] using this
    obtain rfl : v = NV q := by
      have : (srcRange 0 figs.length).items[q]? = some (In (0 + (q : Int))) := by simp [srcRange, hql]
      rw [this] at hi
      injection hi with hi
      rw [← hi, Int.zero_add]
    obtain ⟨pr, rfl, hRR⟩ := hI
    have hfr1 : refs[q]? = some (refs.getD q 0) := by
      have : q < refs.length := by omega
      simp [List.getD, this]
    generalize hE2 : compEnvC _ _ C env = env2
    have hx2F : env2.cells.lookup (Str.ofString "figures") = some a.cF := by subst hE2; kernel_rfl
    refine tests_nil ?_
    simp only [if_true]
    walk_at "E"
    refine sub_listN q (.ref (refs.getD q 0)) rfl (.frozen fun h y => hfg h (hle h y)) (by rw [List.getElem?_map, hfr1]; rfl) (by simp; omega) ?_ (fun _ _ => rfl)
    walk_at "E"
    intro d
    refine ⟨F'.and (.obj d (.list [.ref (refs.getD q 0), NV q])), le_fst, ⟨pr ++ [d], by simp, ?_⟩, Turns.trans (Turns.freeze (a := d) .head rfl) (Turns.back (by walk_at "b"))⟩
    have eM : (List.range (q + 1)).map (fun k => [Value.ref (refs.getD k 0), NV k]) = (List.range q).map (fun k => [Value.ref (refs.getD k 0), NV k]) ++ [[.ref (refs.getD q 0), NV q]] := by rw [List.range_succ, List.map_append]; rfl
    rw [eM]
    exact (hRR.le le_fst).snoc le_last
  · obtain ⟨pr, rfl, hRR⟩ := hI
    have eN : (srcRange 0 figs.length).items.length = figs.length := by simp [srcRange]
    rw [eN] at hRR
    have hpl : pr.length = figs.length := by have := hRR.len; simpa using this
    refine ⟨_, _, .head, ?_⟩
    dsimp only
    walk_at "E"
    have hget : ∀ i, i < figs.length → pr[i]? = some (pr.getD i 0) ∧ Fz.Le F' (.obj (pr.getD i 0) (.list [.ref (refs.getD i 0), NV i])) := by
      intro i hi
      obtain ⟨x, h1, h2⟩ := hRR.get (i := i) (v := [.ref (refs.getD i 0), NV i]) (by simp [hi])
      have : pr.getD i 0 = x := by simp [List.getD, h1]
      rw [this]
      exact ⟨h1, h2⟩
    have hgF : ∀ i, i < figs.length → Fz.Le F' (.obj (refs.getD i 0) (.list ((figs.getD i []).map NV))) := by
      intro i hi
      obtain ⟨x, h1, h2⟩ := hR.get (i := i) (v := (figs.getD i []).map NV) (by simp [hi, List.getD])
      have : refs.getD i 0 = x := by simp [List.getD, h1]
      rw [this]
      exact fun h y => h2 h (hle h y)
    refine cal_sorted (k := n + 1) room (L := a.L) (m := LL sc nu to ta le nb du tu me tx re ye no) (by walk_at "m") pr (fun i => (figs.getD i []).map fun c : Nat => (c : Int)) (rankF fun k => figs.getD k []) (.own (by walk_at "m")) (by omega) (by omega) (fun i hi => ?_) (fun i j hi hj h => ?_) (fun i j hi hj => ?_) (fun D is hp hs => ?_)
    · obtain ⟨h1, h2⟩ := hget i (by omega)
      refine ⟨_, refs.getD i 0, h1, .frozen h2, .frozen ?_⟩
      rw [List.map_map]
      exact hgF i (by omega)
    · exact rank_inj (fig := fun k => figs.getD k []) (n := pr.length) (by omega) i j hi hj h
    · refine rank_lt (fig := fun k => figs.getD k []) (n := pr.length) (by omega) (fun k hk => ?_) i j hi hj
      have : k < figs.length := by omega
      have e : figs.getD k [] = figs[k] := by simp [List.getD, this]
      rw [e]
      exact hok _ (List.getElem_mem this)
    · rw [hpl] at hp hs
      have hil : is.length = figs.length := by simpa using hp.length_eq
      have hislt : ∀ i ∈ is, i < figs.length := fun i hi => List.mem_range.mp (hp.mem_iff.mp hi)
      refine ⟨srcList D _, srcList_ok, iter_list (fun it2 => ?_) (.own (by walk_at "m"))⟩
      refine gen_body (fun q ys F'' => ys = (is.take q).map fun i => Value.ref (rr.getD i 0)) (by decide +kernel) (by rfl) (by kernel_rfl) (by simp [srcList]; omega) (by rfl) (fun S' F'' _ hs => .own (hs _ (by walk_at "m"))) (fun C2 acc2 q v ys F2 hle2 hI hy hi => ?_) (fun acc2 C2 ov2 ys F2 hle2 hI hy => ?_)
      · obtain ⟨i, hi1, rfl⟩ : ∃ i, is[q]? = some i ∧ v = .ref (pr.getD i 0) := by
          have hi' : (is.map fun i => Value.ref (pr.getD i 0))[q]? = some v := hi
          rw [List.getElem?_map] at hi'
          cases h : is[q]? with
          | none => rw [h] at hi'; cases hi'
          | some k => rw [h] at hi'; injection hi' with hi'; exact ⟨k, rfl, hi'.symm⟩
        have hil2 := hislt i (List.mem_of_getElem? hi1)
        have hri : rr[i]? = some (rr.getD i 0) := by
          have : i < rr.length := by omega
          simp [List.getD, this]
        generalize hE2 : compEnvC _ _ C2 env = env2
        have hx2R : env2.cells.lookup (Str.ofString "rows") = some a.cR := by subst hE2; kernel_rfl
        refine tests_nil ?_
        simp only [if_true]
        walk_at "E"
        refine sub_listN 1 (NV i) rfl (.frozen fun h y => (hget i hil2).2 h (hle2 h y)) (by rfl) (by simp) ?_ (fun _ _ => rfl)
        refine sub_listN i (.ref (rr.getD i 0)) rfl (.frozen fun h y => hrw h (hle h (hle2 h y))) (by rw [List.getElem?_map, hri]; rfl) (by simp; omega) ?_ (fun _ _ => rfl)
        refine ⟨F2, fun _ y => y, ?_, Turns.back (by walk_at "b")⟩
        rw [hI, List.take_add_one, hi1, Option.toList_some, List.map_append]
        rfl
      · subst hI
        refine' store_local (L := a.L) ?_ ?h0 ?h1 ?h2 ?h3 ?h4
        case h1 => walk_at "u"
        case h0 => walk_at "u"
        case h2 => walk_at "w"
        case h3 => walk_at "w"
        case h4 => walk_at "k"
        refine ⟨_, _, .head, ?_⟩
        refine hG _ _ ⟨rfl, acc2, is, hp, hs, ?_⟩
        have e : (srcList D (is.map fun i => Value.ref (pr.getD i 0))).items.length = is.length := by simp [srcList]
        rw [e, List.take_length]
        refine ⟨?_, fun h y => hle h (hle2 h y)⟩
        dsimp only
        walk_at "p"

noncomputable def forBody : Option Stmt → List Stmt
  | some (.For _ _ b _ _) => b
  | _ => []
noncomputable def turnAt (P : Params) (i : Nat) : Option Stmt := (forBody (bodyAt P 93)[11]?)[i]?
noncomputable abbrev S1 (c : Nat) : Value := St [c]
noncomputable def membB (bit i : Nat) (b : Bool) : Bool := decide ((i + 1) / bit % 2 = 1) != b
noncomputable def memb (o : List Nat) (bit : Nat) (b : Bool) : List Nat := ((List.range 7).filter fun i => membB bit i b).map fun i => o.getD i 0
theorem bit_cast (i bit : Nat) : decide ((1 + (i : Int)) / (bit : Int) % 2 = 1) = decide ((i + 1) / bit % 2 = 1) := by
  apply decide_eq_decide.mpr
  have e1 : (1 + (i : Int)) = ((i + 1 : Nat) : Int) := by omega
  rw [e1, ← Int.natCast_ediv]
  omega
theorem fm_memb (o : List Nat) (bit : Nat) (b : Bool) : ∀ l : List Nat, (l.map fun i : Nat => In (1 + (i : Int))).filterMap (fun v => if (decide (intOf v / (bit : Int) % 2 = 1) != b) then some (S1 (o.getD (intOf v - 1).toNat 0)) else none) = ((l.filter fun i => membB bit i b).map fun i => o.getD i 0).map S1
  | [] => rfl
  | i :: r => by
    rw [List.map_cons, List.filterMap_cons, List.filter_cons]
    have e1 : (decide (intOf (In (1 + (i : Int))) / (bit : Int) % 2 = 1) != b) = membB bit i b := by
      show (decide ((1 + (i : Int)) / (bit : Int) % 2 = 1) != b) = _
      rw [bit_cast]; rfl
    have e2 : (intOf (In (1 + (i : Int))) - 1).toNat = i := by show (1 + (i : Int) - 1).toNat = i; omega
    rw [e1, e2, fm_memb o bit b r]
    cases membB bit i b <;> simp
theorem law_t3 {cx : Cx} {A : Around} {P : Params} {p : Program} {loose : List Str} {S : List (Addr × CO)} {F : Fz} {n : Nat} {fd : FuncData} {env : Env} {st : Stmt} {a : LA} (hfd : fdAt P 93 = some fd) (hE : lawEnv fd a = env) (hb : turnAt P 3 = some st)
    (hF : Fz.Le F (Fz.top p loose (hd.heap_39 P))) (room : Room A (n + 3)) (ord : Addr) (o : List Nat) (ho : o.length = 7) (hord : Fz.Le F (.obj ord (.list (o.map S1)))) (bit : Nat) (hb0 : 0 < bit) (hb1 : bit < 1000) (b : Bool) {sc nu to ta le nb du tu me tx re ye no oF oR oT oG oP oK : Option Value} :
    CF cx A (exec st env) (fun f σ' => f = .next ∧ ∃ (mm : Addr), Back (SL a (some (.ref ord)) oF oR (some (In (bit : Int))) (some (.bool b)) oT oG oP oK (LL sc nu to ta le nb du tu (some (.ref mm)) tx re ye no) ((mm, .list ((memb o bit b).map S1)) :: S)) F σ')
      ⟨SL a (some (.ref ord)) oF oR (some (In (bit : Int))) (some (.bool b)) oT oG oP oK (LL sc nu to ta le nb du tu me tx re ye no) S, F⟩ := by
  refine cf_hide fun G hG => ?_
  have h0 : turnAt P 3 = some (Stmt.Assign _ _ _) := rfl
  rw [h0] at hb
  injection hb with hb
  subst hb
  have h1 : fdAt P 93 = some _ := rfl
  rw [h1] at hfd
  injection hfd with hfd
  subst hfd
  clear h0 h1
  dsimp only [SL]
  refine cf_assign_comp (cl := [(Str.ofString "order", a.cO), (Str.ofString "bit", a.cB), (Str.ofString "barred", a.cD)]) (srcRange 1 7) srcRange_ok [Str.ofString "k"] ?_ (by subst hE; kernel_rfl) (by decide +kernel) room.hh (by subst hE; kernel_rfl) (by rfl) (by decide +kernel) (fun _ => rfl) (fun _ _ => rfl)
  walk_at "E"
  refine cal_range2 fun r => ?_
  refine iter_range (fun it => ?_) .head (by decide) (by decide) (by decide)
  refine pure_body (fun v => if (decide (intOf v / (bit : Int) % 2 = 1) != b) then some (S1 (o.getD (intOf v - 1).toNat 0)) else none) (by decide +kernel) (by rfl) (by kernel_rfl) (by simp [srcRange]) (fun S' hs => trivial) (fun C acc k v ys hv => ?_) (fun acc C ov => ?_)
  · have hk7 : k < 7 := by have := (List.getElem?_eq_some_iff.mp hv).1; simpa [srcRange] using this
    obtain rfl : v = In (1 + (k : Int)) := by
      have : (srcRange 1 7).items[k]? = some (In (1 + (k : Int))) := by simp [srcRange, hk7]
      rw [this] at hv
      injection hv with hv
      exact hv.symm
    generalize hE2 : compEnvC _ _ C env = env2
    have hx2O : env2.cells.lookup (Str.ofString "order") = some a.cO := by subst hE2; kernel_rfl
    have hx2B : env2.cells.lookup (Str.ofString "bit") = some a.cB := by subst hE2; kernel_rfl
    have hx2D : env2.cells.lookup (Str.ofString "barred") = some a.cD := by subst hE2; kernel_rfl
    refine tests_one ?_
    walk_at "E"
    refine op_div_int (by omega) (by omega) ?_
    walk_at "E"
    refine op_mod_int (by decide) ?_
    walk_at "E"
    refine cb_ite (fun q => ?_) fun q => ?_
    · rw [show (decide (intOf (In (1 + (k : Int))) / (bit : Int) % 2 = 1) != b) = true from q]
      walk_at "E"
      have hc : (1 + (k : Int) - 1) = ((k : Nat) : Int) := by omega
      refine sub_listN k (S1 o[k]) hc (.frozen hord) (by simp [ho, hk7]) (by simp; omega) ?_ (fun _ _ => rfl)
      refine ⟨?_, by walk_at "b"⟩
      have e2 : (intOf (In (1 + (k : Int))) - 1).toNat = k := by show (1 + (k : Int) - 1).toNat = k; omega
      rw [e2]
      simp [List.getD, ho, hk7]
    · rw [show (decide (intOf (In (1 + (k : Int))) / (bit : Int) % 2 = 1) != b) = false from q]
      exact ⟨rfl, by walk_at "b"⟩
  · have e : (srcRange 1 7).items.filterMap (fun v => if (decide (intOf v / (bit : Int) % 2 = 1) != b) then some (S1 (o.getD (intOf v - 1).toNat 0)) else none) = (memb o bit b).map S1 := fm_memb o bit b (List.range 7)
    rw [e]
    refine' store_local (L := a.L) ?_ ?h0 ?h1 ?h2 ?h3 ?h4
    case h1 => walk_at "u"
    case h0 => walk_at "u"
    case h2 => walk_at "w"
    case h3 => walk_at "w"
    case h4 => walk_at "k"
    refine ⟨_, _, .head, ?_⟩
    exact hG _ _ ⟨rfl, acc, by walk_at "b"⟩

theorem flat_rep (c : Nat) : ∀ k : Nat, (List.replicate k [c]).flatten = List.replicate k c
  | 0 => rfl
  | k + 1 => by rw [List.replicate_succ, List.flatten_cons, flat_rep c k, List.replicate_succ]; rfl
noncomputable def sfOf (m : List Nat) (b st : Bool) : List Nat := bB b ++ bodyB m st
noncomputable def txtOf (pl : Nat) (m : List Nat) (b st : Bool) : List Nat := [40, 63, 115, 58] ++ ((List.replicate pl 46 ++ ([91] ++ fin3 (cloak (trans2 (bS b) (sfOf m b st))) ++ [93])) ++ [46, 42]) ++ [41, 92, 90]
theorem law_t4 {cx : Cx} {A : Around} {P : Params} {p : Program} {loose : List Str} {S : List (Addr × CO)} {F : Fz} {n : Nat} {fd : FuncData} {env : Env} {st : Stmt} {a : LA} (hfd : fdAt P 93 = some fd) (hE : lawEnv fd a = env) (hb : turnAt P 4 = some st)
    (hF : Fz.Le F (Fz.top p loose (hd.heap_39 P))) (hB : Fz.Le F Fz.bm) (room : Room A (n + 5)) (hP : (64, CO.tab 68 qsT) ∈ S) (mm : Addr) (m : List Nat) (h128 : ∀ c ∈ m, c < 128) (hne : ∃ c ∈ m, c ≠ 33 ∧ c ≠ 45) (hl : m.length ≤ 7) (bit pl : Nat) (hpl : pl ≤ 2) (b : Bool) {sc nu to ta le nb du tu tx re ye no oO oF oR oT oG oK : Option Value} :
    CF cx A (exec st env) (fun f σ' => f = .next ∧ Back (SL a oO oF oR (some (In (bit : Int))) (some (.bool b)) oT oG (some (In (pl : Int))) oK (LL sc nu to ta le nb du tu (some (.ref mm)) (some (St (txtOf pl m b (decide (bit = 2))))) re ye no) ((mm, .list (m.map S1)) :: S)) F σ')
      ⟨SL a oO oF oR (some (In (bit : Int))) (some (.bool b)) oT oG (some (In (pl : Int))) oK (LL sc nu to ta le nb du tu (some (.ref mm)) tx re ye no) ((mm, .list (m.map S1)) :: S), F⟩ := by
  refine cf_hide fun G hG => ?_
  have h0 : turnAt P 4 = some (Stmt.Assign _ _ _) := rfl
  rw [h0] at hb
  injection hb with hb
  subst hb
  have h1 : fdAt P 93 = some _ := rfl
  rw [h1] at hfd
  injection hfd with hfd
  subst hfd
  clear h0 h1
  have hxB : env.cells.lookup (Str.ofString "bit") = some a.cB := by subst hE; kernel_rfl
  have hxD : env.cells.lookup (Str.ofString "barred") = some a.cD := by subst hE; kernel_rfl
  have hxP : env.cells.lookup (Str.ofString "place") = some a.cP := by subst hE; kernel_rfl
  obtain ⟨⟨j1, j2, hj1, hj2, hj20, hj10, hno⟩, hsf0, hsfl, hskip, hok, ht128, ht2, hc1, hc2, sg, hsg, hsg0, hsgl, hsgok, hsgt, hcov⟩ := bracket_all m b (decide (bit = 2)) h128 hne hl pl
  dsimp only [SL]
  walk_at "E"
  refine cv_gref (a := 50) ?_ hF (by kernel_rfl) (by subst hE; rfl) (by subst hE; rfl) (by subst hE; kernel_rfl) (by kernel_rfl)
  refine cwith_def ?_ (by walk_at "w")
  walk_at "E"
  refine op_mul_str ?_ (by omega) (by omega) (by decide)
  rw [flat_rep, Int.toNat_natCast]
  walk_at "E"
  refine cv_gref (a := 81) ?_ hF (by kernel_rfl) (by subst hE; rfl) (by subst hE; rfl) (by subst hE; kernel_rfl) (by kernel_rfl)
  refine cwith_def ?_ (by walk_at "w")
  walk_at "E"
  refine ⟨fnAt_of hF (a := 81) (by rfl) (by rfl), ?_⟩
  have ebit : decide ((bit : Int) = 2) = decide (bit = 2) := by apply decide_eq_decide.mpr; omega
  rw [ebit]
  refine law_bracket_spec hF (Room.mono room (by omega) : Room A ((n + 2) + 3)) mm m b (decide (bit = 2)) (.own (by walk_at "m")) (by omega) h128 _ fun σ' hbk => ?_
  refine wbO hbk ?_
  clear hbk
  have hbl : (brk m b (decide (bit = 2))).length ≤ 40 := by rw [brk_eq]; simp only [List.length_append, List.length_cons, List.length_nil] at hsfl ⊢; omega
  refine op_add_str (by simp only [List.length_replicate]; omega) ?_
  walk_at "E"
  refine op_add_str (by simp only [List.length_append, List.length_replicate, List.length_cons, List.length_nil]; omega) ?_
  walk_at "E"
  refine ⟨fnAt_of hF (a := 50) (by rfl) (by rfl), ?_⟩
  have ex : List.replicate pl 63 ++ brk m b (decide (bit = 2)) ++ [42] = List.replicate pl 63 ++ ([91] ++ ((bB b ++ bodyB m (decide (bit = 2))) ++ [93, 42])) := by rw [brk_eq]; simp
  rw [ex]
  refine translate50_spec hF hB (Room.mono room (by omega) : Room A (n + 5)) (by simp [hP]) pl (by omega) (bB b ++ bodyB m (decide (bit = 2))) _ rfl (by simp only [List.length_append, List.length_replicate, List.length_cons, List.length_nil] at hsfl ⊢; omega) (pl + 1) j1 j2 (pl + 1 + (bB b ++ bodyB m (decide (bit = 2))).length) rfl rfl hsf0 hj1 hj2 hj20 hj10 hno (bS b) hskip hok ht128 ht2 hc1 hc2 ?_ _ fun σ' hbk => ?_
  · rw [hsg, List.length_append]
    have := encs_len sg
    have : (if b = true then [94] else [] : List Nat).length ≤ 1 := by cases b <;> decide
    omega
  refine wbS hbk ?_
  clear hbk
  walk_at "E"
  refine hG _ _ ⟨rfl, ?_⟩
  unfold txtOf sfOf
  walk_at "b"

theorem one_le (x d : Nat) : (!decide ([d] < [x])) = decide (x ≤ d) := by
  have h : ([d] < [x]) ↔ d < x := by simp [List.cons_lt_cons_iff]
  by_cases q : x ≤ d
  · rw [decide_eq_true q, decide_eq_false (fun z => by have := h.mp z; omega)]; rfl
  · rw [decide_eq_false q, decide_eq_true (h.mpr (by omega))]; rfl
theorem law_t7 {cx : Cx} {A : Around} {P : Params} {p : Program} {loose : List Str} {S : List (Addr × CO)} {F : Fz} {n : Nat} {fd : FuncData} {env : Env} {st : Stmt} {a : LA} (hfd : fdAt P 93 = some fd) (hE : lawEnv fd a = env) (hb : turnAt P 7 = some st)
    (hF : Fz.Le F (Fz.top p loose (hd.heap_39 P))) (room : Room A (n + 3)) (ord rg : Addr) (o : List Nat) (ho : o.length = 7) (hord : Fz.Le F (.obj ord (.list (o.map S1)))) (refs : List Addr) (rs : List (Nat × Nat)) (hrs : rs.length ≤ 1000) (hR : RowsF F refs (rs.map rangeV)) (hrg : Fz.Le F (.obj rg (.list (refs.map .ref)))) (turned : Bool) (m : List Nat) (hcov : ∀ c, cov rs c ↔ c ∈ m)
    {sc nu to ta le nb du tu me tx re ye no oF oR oB oD oP oK : Option Value} :
    CF cx A (exec st env) (fun f σ' => f = .next ∧ ∃ tk, Back (SL a (some (.ref ord)) oF oR oB oD (some (.bool turned)) (some (.ref rg)) oP (some (.ref tk)) (LL sc nu to ta le nb du tu me tx re ye no) ((tk, .list ((o.filter fun c => decide (c ∈ m) != turned).map S1)) :: S)) F σ')
      ⟨SL a (some (.ref ord)) oF oR oB oD (some (.bool turned)) (some (.ref rg)) oP oK (LL sc nu to ta le nb du tu me tx re ye no) S, F⟩ := by
  refine cf_hide fun G hG => ?_
  have h0 : turnAt P 7 = some (Stmt.Assign _ _ _) := rfl
  rw [h0] at hb
  injection hb with hb
  subst hb
  have h1 : fdAt P 93 = some _ := rfl
  rw [h1] at hfd
  injection hfd with hfd
  subst hfd
  clear h0 h1
  have hxO : env.cells.lookup (Str.ofString "order") = some a.cO := by subst hE; kernel_rfl
  have hxK : env.cells.lookup (Str.ofString "takes") = some a.cK := by subst hE; kernel_rfl
  have hrl : refs.length = rs.length := by have := hR.len; simpa using this
  dsimp only [SL]
  refine cf_assign ?_ (by subst hE; kernel_rfl)
  refine cv_listcomp (cl := [(Str.ofString "turned", a.cT), (Str.ofString "ranges", a.cG)]) (srcList ord (o.map S1)) srcList_ok [] ?_ (by decide +kernel) room.hh (by subst hE; kernel_rfl) (by rfl) (by decide +kernel) (fun _ => rfl) (fun _ _ => rfl)
  walk_at "E"
  refine iter_list (fun it => ?_) (.frozen hord)
  intro acc C
  refine cells_step rfl (cells_cell fun c => cells_step rfl (cells_step rfl (cells_nil ?_)))
  generalize hE2 : compEnvC _ _ C env = env2
  have hx2S : env2.cells.lookup (Str.ofString "sign") = some c := by subst hE2; kernel_rfl
  have hx2G : env2.cells.lookup (Str.ofString "ranges") = some a.cG := by subst hE2; kernel_rfl
  have hx2T : env2.cells.lookup (Str.ofString "turned") = some a.cT := by subst hE2; kernel_rfl
  refine cell_loop (fun q ys => ys = ((o.take q).filter fun c => decide (c ∈ m) != turned).map S1) hx2S (by subst hE2; rfl) (by subst hE2; kernel_rfl) (by simp [srcList]; omega) rfl (fun S' hs => .frozen hord) (fun k v ys hI hy hi => ?_) (fun ov ys hI hy => ?_)
  · obtain ⟨d, hd1, rfl⟩ : ∃ d, o[k]? = some d ∧ v = S1 d := by
      have hi' : (o.map S1)[k]? = some v := hi
      rw [List.getElem?_map] at hi'
      cases h : o[k]? with
      | none => rw [h] at hi'; cases hi'
      | some k => rw [h] at hi'; injection hi' with hi'; exact ⟨k, rfl, hi'.symm⟩
    have hnext : ∀ bb : Bool, (decide (d ∈ m) != turned) = bb → (if bb then ys ++ [S1 d] else ys) = ((o.take (k + 1)).filter fun c => decide (c ∈ m) != turned).map S1 := by
      intro bb hbb
      rw [hI, List.take_add_one, hd1, Option.toList_some, List.filter_append, List.map_append]
      simp only [List.filter_cons, List.filter_nil]
      rw [hbb]
      cases bb <;> simp
    refine tests_one ?_
    walk_at "E"
    refine cv_listcomp (cl := [(Str.ofString "sign", c)]) (srcList rg (refs.map Value.ref)) srcList_ok [Str.ofString "one"] ?_ (by decide +kernel) room.hh (by subst hE2; kernel_rfl) (by rfl) (by decide +kernel) (fun _ => rfl) (fun _ _ => rfl)
    walk_at "E"
    refine iter_list (fun it2 => ?_) (.frozen hrg)
    refine gen_body (fun q ys2 F2 => decide (ys2 ≠ []) = (rs.take q).any fun p => decide (p.1 ≤ d) && decide (d ≤ p.2)) (by decide +kernel) (by rfl) (by kernel_rfl) (by simp [srcList]; omega) (by simp) (fun S' F2 hle hs => .frozen fun h y => hrg h (hle h y)) (fun C2 acc2 q v2 ys2 F2 hle hI2 hy2 hi2 => ?_) (fun acc2 C2 ov2 ys2 F2 hle hI2 hy2 => ?_)
    · obtain ⟨r, hr1, rfl⟩ : ∃ r, refs[q]? = some r ∧ v2 = .ref r := by
        have hi' : (refs.map Value.ref)[q]? = some v2 := hi2
        rw [List.getElem?_map] at hi'
        cases h : refs[q]? with
        | none => rw [h] at hi'; cases hi'
        | some k => rw [h] at hi'; injection hi' with hi'; exact ⟨k, rfl, hi'.symm⟩
      have hql : q < rs.length := by have := (List.getElem?_eq_some_iff.mp hr1).1; omega
      obtain ⟨r', hr2, hr3⟩ := hR.get (i := q) (v := rangeV rs[q]) (by simp [hql])
      obtain rfl : r' = r := by rw [hr1] at hr2; injection hr2 with h; exact h.symm
      have hr4 : Fz.Le F2 (.obj r' (.list [St [rs[q].1], St [rs[q].2]])) := fun h y => hr3 h (hle h y)
      generalize hE3 : compEnvC _ _ C2 env2 = env3
      have hx3S : env3.cells.lookup (Str.ofString "sign") = some c := by subst hE3; kernel_rfl
      have hany : ∀ bb : Bool, (decide (rs[q].1 ≤ d) && decide (d ≤ rs[q].2)) = bb → ((rs.take (q + 1)).any fun p => decide (p.1 ≤ d) && decide (d ≤ p.2)) = (((rs.take q).any fun p => decide (p.1 ≤ d) && decide (d ≤ p.2)) || bb) := by
        intro bb hbb
        rw [List.take_add_one, List.getElem?_eq_getElem hql, Option.toList_some, List.any_append]
        simp [hbb]
      refine tests_one ?_
      walk_at "E"
      refine sub_listN 0 (St [rs[q].1]) rfl (.frozen hr4) (by rfl) (by simp) ?_ (fun _ _ => rfl)
      walk_at "E"
      rw [one_le]
      have hno : (decide (rs[q].1 ≤ d) && decide (d ≤ rs[q].2)) = false → decide (ys2 ≠ []) = (rs.take (q + 1)).any fun p => decide (p.1 ≤ d) && decide (d ≤ p.2) := fun z => by
        rw [hany false z, hI2, Bool.or_false]
      refine cb_ite (fun q1 => ?_) fun q1 => ?_
      · walk_at "E"
        refine sub_listN 1 (St [rs[q].2]) rfl (.frozen hr4) (by rfl) (by simp) ?_ (fun _ _ => rfl)
        walk_at "E"
        rw [one_le]
        refine cb_ite (fun q2 => ?_) fun q2 => ?_
        · walk_at "E"
          refine ⟨F2, fun _ y => y, ?_, Turns.back (by walk_at "b")⟩
          rw [hany true (by rw [q1, q2]; rfl)]
          simp
        · exact ⟨hno (by rw [q2]; simp), Turns.back (by walk_at "b")⟩
      · simp only [Bool.false_eq_true, if_false]
        exact ⟨hno (by rw [q1]; rfl), Turns.back (by walk_at "b")⟩
    · have e0 : (srcList rg (refs.map Value.ref)).items.length = rs.length := by simp [srcList, hrl]
      rw [e0, List.take_length] at hI2
      have hyl : ys2.length ≤ 1000 := by rw [e0] at hy2; omega
      refine ⟨_, _, .head, ?_⟩
      dsimp only
      walk_at "E"
      intro dn
      refine op_ne_nil room (.own (by walk_at "m")) (.own (by walk_at "m")) ?_
      walk_at "E"
      have hd : decide (ys2 ≠ []) = decide (d ∈ m) := by
        rw [hI2]
        cases hq : (rs.any fun p => decide (p.1 ≤ d) && decide (d ≤ p.2)) with
        | true =>
          obtain ⟨p, hp, h2⟩ := List.any_eq_true.mp hq
          simp only [Bool.and_eq_true, decide_eq_true_eq] at h2
          exact (decide_eq_true ((hcov d).mp ⟨p, hp, h2⟩)).symm
        | false =>
          refine (decide_eq_false fun hm => ?_).symm
          obtain ⟨p, hp, h2, h3⟩ := (hcov d).mpr hm
          have := List.any_eq_false.mp hq p hp
          simp [h2, h3] at this
      rw [hd]
      refine cb_ite (fun q => ?_) fun q => ?_
      · walk_at "E"
        exact ⟨by have := hnext true q; simpa using this, by (refine ⟨?_, fun h y => hle h y⟩; dsimp only; walk_at "p")⟩
      · exact ⟨by have := hnext false q; simpa using this, by (refine ⟨?_, fun h y => hle h y⟩; dsimp only; walk_at "p")⟩
  · have e0 : (srcList ord (o.map S1)).items.length = o.length := by simp [srcList]
    rw [e0, List.take_length] at hI
    subst hI
    refine ⟨_, _, .tail .head, ?_⟩
    dsimp only
    refine' store_cell (c := a.cK) ?_ ?h0 hxK ?h2 ?h3
    case h0 => walk_at "u"
    case h2 => walk_at "w"
    case h3 => walk_at "k"
    exact hG _ _ ⟨rfl, acc, by walk_at "b"⟩

section
theorem pick_drop4 {α : Type} {l r : List α} {a b c d : α} (h : Pick l (a :: b :: c :: d :: r)) : Pick l (a :: b :: c :: r) := by
  cases h with
  | cons d1 h =>
    cases h with
    | cons d2 h =>
      cases h with
      | cons d3 h => exact .cons d1 (.cons d2 (.cons d3 (pick_tl h)))
theorem cf_fact {cx : Cx} {A : Around} {S : List (Addr × CO)} {F : Fz} {t : Sem Flow} {Q : Flow → CS → Prop} {X : Prop} (hX : ∀ h, F.p h → X) (k : X → CF cx A t Q ⟨S, F⟩) : CF cx A t Q ⟨S, F⟩ := fun s R => by
  obtain ⟨B, f, _⟩ := R.fz
  exact k (hX B f) s R
theorem orel_list {h : Heap} {a : Addr} {v w : List Value} (x : ORel h a (.list v)) (y : ORel h a (.list w)) : v = w := by
  obtain ⟨xs, n, e, m⟩ := x
  obtain ⟨ys, k, e2, m2⟩ := y
  rw [e] at e2
  injection e2 with e2
  injection e2 with _ _ e2
  injection e2 with e2 _
  rw [← m, ← m2, e2]
theorem rows_inj {F : Fz} {rr : List Addr} {o : List Nat} {figs : List (List Nat)} {N : Nat} (hR : RowsF F rr ((List.range N).map (rowV o figs))) : ∀ h, F.p h → ∀ i j, i < N → j < N → rr.getD i 0 = rr.getD j 0 → i = j := by
  intro h hp i j hi hj e
  obtain ⟨x, h1, h2⟩ := hR.get (i := i) (v := rowV o figs i) (by simp [hi])
  obtain ⟨y, h3, h4⟩ := hR.get (i := j) (v := rowV o figs j) (by simp [hj])
  have ex : rr.getD i 0 = x := by simp [List.getD, h1]
  have ey : rr.getD j 0 = y := by simp [List.getD, h3]
  rw [ex, ey] at e
  subst e
  have := orel_list (h2 h hp) (h4 h hp)
  unfold rowV at this
  injection this with _ this
  injection this with this _
  injection this with this _
  omega
noncomputable def gOf (rr : List Addr) (N : Nat) (G : Nat → Bool) : Value → Bool
  | .ref x => (List.range N).any fun k => decide (rr.getD k 0 = x) && G k
  | _ => false
theorem gOf_at {rr : List Addr} {N : Nat} {G : Nat → Bool} (hinj : ∀ i j, i < N → j < N → rr.getD i 0 = rr.getD j 0 → i = j) {k : Nat} (hk : k < N) : gOf rr N G (.ref (rr.getD k 0)) = G k := by
  unfold gOf
  cases hG : G k with
  | true => exact List.any_eq_true.mpr ⟨k, List.mem_range.mpr hk, by simp [hG]⟩
  | false =>
    refine List.any_eq_false.mpr fun j hj => ?_
    by_cases e : rr.getD j 0 = rr.getD k 0
    · have := hinj j k (List.mem_range.mp hj) hk e
      subst this
      simp [hG]
    · rw [decide_eq_false e]; simp
theorem gOf_filter {rr : List Addr} {N : Nat} {G : Nat → Bool} (hinj : ∀ i j, i < N → j < N → rr.getD i 0 = rr.getD j 0 → i = j) : ∀ rl : List Nat, (∀ k ∈ rl, k < N) →
    (rl.map fun k => Value.ref (rr.getD k 0)).filter (gOf rr N G) = (rl.filter G).map (fun k => Value.ref (rr.getD k 0)) ∧ (rl.map fun k => Value.ref (rr.getD k 0)).filter (fun v => !gOf rr N G v) = (rl.filter fun k => !G k).map (fun k => Value.ref (rr.getD k 0))
  | [], _ => ⟨rfl, rfl⟩
  | k :: r, h => by
    have ih := gOf_filter (G := G) hinj r fun j hj => h j (.tail _ hj)
    have e := gOf_at (G := G) hinj (h k (.head _))
    rw [List.map_cons, List.filter_cons, List.filter_cons, List.filter_cons, List.filter_cons, e, ih.1, ih.2]
    cases G k <;> simp
local macro_rules | `(tactic| walk_at "cel") => `(tactic| walk_at "= cv_free . s !A w w K K")
noncomputable def qsL : List (Pos × Str) := [(⟨164, 36, 164, 80⟩, Str.ofString "law.<locals>.<lambda>")]
noncomputable def gRow (o : List Nat) (figs : List (List Nat)) (pl : Nat) (tks : List Nat) (k : Nat) : Bool := decide (((nameOf o (figs.getD k [])).drop pl).take 1 ∈ tks.map fun c => [c])
theorem law_t8 {cx : Cx} {A : Around} {P : Params} {p : Program} {loose : List Str} {S : List (Addr × CO)} {F : Fz} {n : Nat} {fd : FuncData} {env : Env} {st : Stmt} {a : LA} (hfd : fdAt P 93 = some fd) (hE : lawEnv fd a = env) (hb : turnAt P 8 = some st)
    (hF : Fz.Le F (Fz.top p loose (hd.heap_39 P))) (hB : Fz.Le F Fz.bm) (room : Room A (n + 5)) (hP : (90, CO.tab 92 qsL) ∈ S) (rw tk : Addr) (rr : List Addr) (o : List Nat) (figs : List (List Nat)) (N : Nat) (hN : N ≤ 14) (hok : ∀ k, figOk (figs.getD k []))
    (hR : RowsF F rr ((List.range N).map (rowV o figs))) (hinj : ∀ i j, i < N → j < N → rr.getD i 0 = rr.getD j 0 → i = j) (rl : List Nat) (hrl : ∀ k ∈ rl, k < N) (hrln : rl.length ≤ 14) (hrw : Fz.Le F (.obj rw (.list (rl.map fun k => .ref (rr.getD k 0))))) (pl : Nat) (hpl : pl ≤ 2) (tks : List Nat) (htk : Fz.Le F (.obj tk (.list (tks.map S1))))
    {sc nu to ta le nb du tu me tx re ye no oO oF oB oD oT oG : Option Value} :
    CF cx A (exec st env) (fun f σ' => f = .next ∧ ∃ (y z : Addr), Back (SL a oO oF (some (.ref rw)) oB oD oT oG (some (In (pl : Int))) (some (.ref tk)) (LL sc nu to ta le nb du tu me tx re (some (.ref y)) (some (.ref z))) ((y, .list ((rl.filter (gRow o figs pl tks)).map fun k => .ref (rr.getD k 0))) :: (z, .list ((rl.filter fun k => !gRow o figs pl tks k).map fun k => .ref (rr.getD k 0))) :: S)) F σ')
      ⟨SL a oO oF (some (.ref rw)) oB oD oT oG (some (In (pl : Int))) (some (.ref tk)) (LL sc nu to ta le nb du tu me tx re ye no) S, F⟩ := by
  refine cf_hide fun G hG => ?_
  have h0 : turnAt P 8 = some (Stmt.Assign _ _ _) := rfl
  rw [h0] at hb
  injection hb with hb
  subst hb
  have h1 : fdAt P 93 = some _ := rfl
  rw [h1] at hfd
  injection hfd with hfd
  subst hfd
  clear h0 h1
  have hxR : env.cells.lookup (Str.ofString "rows") = some a.cR := by subst hE; kernel_rfl
  obtain ⟨hf1, hf2⟩ := gOf_filter (G := gRow o figs pl tks) hinj rl hrl
  dsimp only [SL]
  refine cf_unpack (nps := [(Str.ofString "yes", _), (Str.ofString "no", _)]) ?_ room.hh (by walk_at "k") (by walk_at "k")
  refine cvT (Q := fun v σ₁ => ∃ t y z, v = .ref t ∧ Back ((t, .tuple [.ref y, .ref z]) :: (y, .list ((rl.filter (gRow o figs pl tks)).map fun k => .ref (rr.getD k 0))) :: (z, .list ((rl.filter fun k => !gRow o figs pl tks k).map fun k => .ref (rr.getD k 0))) :: SL a oO oF (some (.ref rw)) oB oD oT oG (some (In (pl : Int))) (some (.ref tk)) (LL sc nu to ta le nb du tu me tx re ye no) S) F σ₁) ?_ ?_
  · walk_at "E"
    refine cv_gref (a := 38) ?_ hF (by kernel_rfl) (by subst hE; rfl) (by subst hE; rfl) (by subst hE; kernel_rfl) (by kernel_rfl)
    refine cwith_def ?_ (by walk_at "w")
    walk_at "E"
    refine cv_lambda (P := 90) (c := 92) (qs := qsL) (clos := [(Str.ofString "takes", a.cK), (Str.ofString "place", a.cP)]) hB (by simp [hP]) (by subst hE; rfl) (by subst hE; rfl) (by subst hE; kernel_rfl) (by subst hE; kernel_rfl) ?_ ?_ fun f => ?_
    · subst hE
      exact List.mem_singleton.mpr (by kernel_rfl)
    · subst hE; kernel_rfl
    walk_at "E"
    refine ⟨fnAt_of hF (a := 38) (by rfl) (by rfl), ?_⟩
    refine split_spec (n := n + 4) hF room rw f (rl.map fun k => Value.ref (rr.getD k 0)) (gOf rr N (gRow o figs pl tks)) (.frozen hrw) (by simp; omega) (fun A' S' v room' hS' hv => ?_) _ (fun t y z σ' hbk => ?_)
    · obtain ⟨k, hk, rfl⟩ := List.mem_map.mp hv
      have hkN := hrl k hk
      rw [gOf_at hinj hkN]
      have hfm := hS' _ (List.mem_cons_self)
      refine ⟨sees_fn hfm, ?_⟩
      obtain ⟨x, hx1, hx2⟩ := hR.get (i := k) (v := rowV o figs k) (by simp [hkN])
      have ex : rr.getD k 0 = x := by simp [List.getD, hx1]
      rw [ex]
      have hm2 : (a.cP, CO.cell (some (In (pl : Int)))) ∈ S' := hS' _ (by simp)
      have hm3 : (a.cK, CO.cell (some (Value.ref tk))) ∈ S' := hS' _ (by simp)
      refine cal_lam (n := n + 3) [Str.ofString "row"] hF hfm room' (fun pm cv ctv vs' e => ?_) rfl (by decide +kernel) (by rfl) (by rfl) (by rfl) (by decide +kernel) (by decide +kernel) fun L2 A2 cv room2 => ?_
      · obtain ⟨v1, rfl⟩ : ∃ v1, vs' = [v1] := by
          match vs', e with
          | [v1], _ => exact ⟨v1, rfl⟩
        rfl
      dsimp only [zipS, List.zip, List.zipWith, List.map]
      generalize hE2 : newEnv _ L2 _ _ _ _ _ _ _ = env2
      have hx2P : env2.cells.lookup (Str.ofString "place") = some a.cP := by subst hE2; kernel_rfl
      have hx2K : env2.cells.lookup (Str.ofString "takes") = some a.cK := by subst hE2; kernel_rfl
      have hs2 : Sees ⟨(L2, CO.ns [(Str.ofString "row", some (Value.ref x))]) :: S', F⟩ a.cP (.cell (some (In (pl : Int)))) := .own (.tail _ hm2)
      have hs3 : Sees ⟨(L2, CO.ns [(Str.ofString "row", some (Value.ref x))]) :: S', F⟩ a.cK (.cell (some (Value.ref tk))) := .own (.tail _ hm3)
      walk_at "E"
      refine sub_listN 0 (St (nameOf o (figs.getD k []))) rfl (.frozen hx2) (by rfl) (by simp [rowV]) ?_ (fun _ _ => rfl)
      walk_at "E"
      have hl3 := (hok k).1
      refine cut_str ?_ (.int _) (.int _) (by unfold nameOf; rw [List.length_map]; omega)
      rw [slc_ft _ pl (pl + 1) rfl (by omega)]
      have e1 : pl + 1 - pl = 1 := by omega
      rw [e1]
      walk_at "E"
      refine op_in_list (ys := tks.map fun c => [c]) ?_ (.frozen fun h y => by rw [List.map_map]; exact htk h y)
      exact ⟨rfl, .skip (.refl _), fun _ y => y⟩
    · rw [hf1, hf2] at hbk
      refine ⟨t, y, z, rfl, ?_⟩
      obtain ⟨hp1, hp2⟩ := hbk
      refine ⟨?_, hp2⟩
      exact pick_drop4 hp1
  · rintro v σ₁ ⟨t, y, z, rfl, hbk⟩
    refine ⟨_, Turns.back hbk, t, _, rfl, .own (by walk_at "m"), rfl, ?_⟩
    dsimp only [List.map, Stores]
    walk_at "E"
    exact hG _ _ ⟨rfl, y, z, by walk_at "b"⟩
end

theorem memb_mem {o : List Nat} {bit i : Nat} {b : Bool} (h : i < 7) (hb : membB bit i b = true) : o.getD i 0 ∈ memb o bit b :=
  List.mem_map.mpr ⟨i, List.mem_filter.mpr ⟨List.mem_range.mpr h, hb⟩, rfl⟩
theorem getD_inj {o : List Nat} (ho : o.length = 7) (hn : o.Nodup) {i j : Nat} (hi : i < 7) (hj : j < 7) (e : o.getD i 0 = o.getD j 0) : i = j := by
  have h1 : o.getD i 0 = o[i] := by simp [List.getD, ho, hi]
  have h2 : o.getD j 0 = o[j] := by simp [List.getD, ho, hj]
  rw [h1, h2] at e
  exact (List.getElem_inj hn).mp e
theorem memb_iff {o : List Nat} (ho : o.length = 7) (hn : o.Nodup) {bit i : Nat} {b : Bool} (h : i < 7) : o.getD i 0 ∈ memb o bit b ↔ membB bit i b = true := by
  refine ⟨fun hm => ?_, memb_mem h⟩
  obtain ⟨j, hj, e⟩ := List.mem_map.mp hm
  obtain ⟨h1, h2⟩ := List.mem_filter.mp hj
  have := getD_inj ho hn (List.mem_range.mp h1) h e
  subst this
  exact h2
theorem memb_ne {o : List Nat} (ho : o.length = 7) (hn : o.Nodup) (t : Nat) (b : Bool) : ∃ c ∈ memb o (2 ^ (t % 3)) b, c ≠ 33 ∧ c ≠ 45 := by
  have key : ∀ i j k, i < 7 → j < 7 → k < 7 → i ≠ j → j ≠ k → i ≠ k → membB (2 ^ (t % 3)) i b = true → membB (2 ^ (t % 3)) j b = true → membB (2 ^ (t % 3)) k b = true → ∃ c ∈ memb o (2 ^ (t % 3)) b, c ≠ 33 ∧ c ≠ 45 := by
    intro i j k hi hj hk h1 h2 h3 b1 b2 b3
    have d1 : o.getD i 0 ≠ o.getD j 0 := fun e => h1 (getD_inj ho hn hi hj e)
    have d2 : o.getD j 0 ≠ o.getD k 0 := fun e => h2 (getD_inj ho hn hj hk e)
    have d3 : o.getD i 0 ≠ o.getD k 0 := fun e => h3 (getD_inj ho hn hi hk e)
    have m1 := memb_mem (o := o) hi b1
    have m2 := memb_mem (o := o) hj b2
    have m3 := memb_mem (o := o) hk b3
    by_cases q1 : o.getD i 0 ≠ 33 ∧ o.getD i 0 ≠ 45
    · exact ⟨_, m1, q1⟩
    · by_cases q2 : o.getD j 0 ≠ 33 ∧ o.getD j 0 ≠ 45
      · exact ⟨_, m2, q2⟩
      · exact ⟨_, m3, by omega⟩
  have h3 : t % 3 = 0 ∨ t % 3 = 1 ∨ t % 3 = 2 := by omega
  rcases h3 with e | e | e <;> rw [e] at key ⊢ <;> cases b
  · exact key 0 2 4 (by decide) (by decide) (by decide) (by decide) (by decide) (by decide) (by decide) (by decide) (by decide)
  · exact key 1 3 5 (by decide) (by decide) (by decide) (by decide) (by decide) (by decide) (by decide) (by decide) (by decide)
  · exact key 1 2 5 (by decide) (by decide) (by decide) (by decide) (by decide) (by decide) (by decide) (by decide) (by decide)
  · exact key 0 3 4 (by decide) (by decide) (by decide) (by decide) (by decide) (by decide) (by decide) (by decide) (by decide)
  · exact key 3 4 5 (by decide) (by decide) (by decide) (by decide) (by decide) (by decide) (by decide) (by decide) (by decide)
  · exact key 0 1 2 (by decide) (by decide) (by decide) (by decide) (by decide) (by decide) (by decide) (by decide) (by decide)
theorem memb_sub {o : List Nat} (ho : o.length = 7) {bit : Nat} {b : Bool} : ∀ c ∈ memb o bit b, c ∈ o := by
  intro c hc
  obtain ⟨j, hj, e⟩ := List.mem_map.mp hc
  have hj7 := List.mem_range.mp (List.mem_filter.mp hj).1
  have h1 : o.getD j 0 = o[j] := by simp [List.getD, ho, hj7]
  rw [← e, h1]
  exact List.getElem_mem _
theorem memb_len (o : List Nat) (bit : Nat) (b : Bool) : (memb o bit b).length ≤ 7 := by
  unfold memb
  rw [List.length_map]
  exact Nat.le_trans (List.length_filter_le _ _) (by simp)
theorem gRow_bit {o : List Nat} (ho : o.length = 7) (hn : o.Nodup) {figs : List (List Nat)} (hok : ∀ k, figOk (figs.getD k [])) (t : Nat) (b : Bool) (k : Nat) :
    gRow o figs (2 - t / 3) (o.filter fun c => decide (c ∈ memb o (2 ^ (t % 3)) b) != b) k = figBit t (figs.getD k []) := by
  unfold gRow figBit
  obtain ⟨hl, hc⟩ := hok k
  generalize figs.getD k [] = f at hl hc
  generalize 2 - t / 3 = pl
  have e1 : ((nameOf o f).drop pl).take 1 = (match f[pl]? with | some d => [o.getD (d - 1) 0] | none => []) := by
    unfold nameOf
    rw [← List.map_drop, ← List.map_take]
    cases q : f[pl]? with
    | none =>
      have : f.drop pl = [] := List.drop_eq_nil_of_le (by simpa using q)
      rw [this]; rfl
    | some d =>
      obtain ⟨h1, h2⟩ := List.getElem?_eq_some_iff.mp q
      rw [List.drop_eq_getElem_cons h1, h2]; rfl
  rw [e1]
  cases q : f[pl]? with
  | none =>
    refine decide_eq_false fun h => ?_
    obtain ⟨c, _, e⟩ := List.mem_map.mp h
    cases e
  | some d =>
    have hd := hc d (List.mem_of_getElem? q)
    have h7 : d - 1 < 7 := by omega
    have hm : o.getD (d - 1) 0 ∈ o := by
      have h1 : o.getD (d - 1) 0 = o[d - 1] := by simp [List.getD, ho, h7]
      rw [h1]; exact List.getElem_mem _
    have e2 : membB (2 ^ (t % 3)) (d - 1) b = ((d / 2 ^ (t % 3) % 2 == 1) != b) := by
      unfold membB
      have : d - 1 + 1 = d := by omega
      rw [this]
      congr 1
    have e3 : decide (o.getD (d - 1) 0 ∈ memb o (2 ^ (t % 3)) b) = ((d / 2 ^ (t % 3) % 2 == 1) != b) := by
      rw [← e2]
      cases q2 : membB (2 ^ (t % 3)) (d - 1) b with
      | true => exact decide_eq_true ((memb_iff ho hn h7).mpr q2)
      | false => exact decide_eq_false fun z => by have := (memb_iff ho hn h7).mp z; rw [q2] at this; cases this
    have e4 : (((d / 2 ^ (t % 3) % 2 == 1) != b) != b) = (d / 2 ^ (t % 3) % 2 == 1) := by
      cases (d / 2 ^ (t % 3) % 2 == 1) <;> cases b <;> rfl
    show decide ([o.getD (d - 1) 0] ∈ _) = (d / 2 ^ (t % 3) % 2 == 1)
    cases q3 : (d / 2 ^ (t % 3) % 2 == 1) with
    | true =>
      refine decide_eq_true (List.mem_map.mpr ⟨_, List.mem_filter.mpr ⟨hm, ?_⟩, rfl⟩)
      rw [e3, e4, q3]
    | false =>
      refine decide_eq_false fun z => ?_
      obtain ⟨c, hc1, hc2⟩ := List.mem_map.mp z
      have hcc : c = o.getD (d - 1) 0 := by injection hc2
      subst hcc
      have := (List.mem_filter.mp hc1).2
      rw [e3, e4, q3] at this
      cases this
theorem take_txt (pl : Nat) (m : List Nat) (b st : Bool) : (txtOf pl m b st).take (pl + 5) = [40, 63, 115, 58] ++ List.replicate pl 46 ++ [91] := by
  have e : txtOf pl m b st = ([40, 63, 115, 58] ++ List.replicate pl 46 ++ [91]) ++ (fin3 (cloak (trans2 (bS b) (sfOf m b st))) ++ [93] ++ [46, 42] ++ [41, 92, 90]) := by simp [txtOf]
  rw [e]
  exact List.take_left' (by simp)
theorem drop_txt (pl : Nat) (m : List Nat) (b st : Bool) : (txtOf pl m b st).drop (pl + 5) = fin3 (cloak (trans2 (bS b) (sfOf m b st))) ++ 93 :: [46, 42, 41, 92, 90] := by
  have e : txtOf pl m b st = ([40, 63, 115, 58] ++ List.replicate pl 46 ++ [91]) ++ (fin3 (cloak (trans2 (bS b) (sfOf m b st))) ++ 93 :: [46, 42, 41, 92, 90]) := by simp [txtOf]
  rw [e]
  exact List.drop_left' (by simp)

structure OrdOk (o : List Nat) : Prop where
  len : o.length = 7
  nd : o.Nodup
  small : ∀ c ∈ o, c < 128
theorem rangesOf_len : ∀ l : List (Nat × Nat), (rangesOf l).length ≤ l.length
  | p :: q :: r :: t => by
    rw [rangesOf]
    split
    · have := rangesOf_len t; simp only [List.length_cons]; omega
    · have := rangesOf_len (q :: r :: t); simp only [List.length_cons] at this ⊢; omega
  | [p, q] => by simp [rangesOf]
  | [p] => by simp [rangesOf]
  | [] => by simp [rangesOf]
structure TV where
  rw : Addr
  F : Fz
  tu : Option Value
  me : Option Value
  tx : Option Value
  re : Option Value
  ye : Option Value
  no : Option Value
  oB : Option Value
  oD : Option Value
  oT : Option Value
  oG : Option Value
  oP : Option Value
  oK : Option Value
theorem law_turn {cx : Cx} {A : Around} {P : Params} {p : Program} {loose : List Str} {S : List (Addr × CO)} {F : Fz} {n : Nat} {fd : FuncData} {env : Env} {a : LA} {body : List Stmt} (hfd : fdAt P 93 = some fd) (hE : lawEnv fd a = env) (hb : forBody (bodyAt P 93)[11]? = body)
    (hF : Fz.Le F (Fz.top p loose (hd.heap_39 P))) (hB : Fz.Le F Fz.bm) (room : Room A (n + 5)) (hP1 : (64, CO.tab 68 qsT) ∈ S) (hP2 : (90, CO.tab 92 qsL) ∈ S) (ord nr : Addr) (o : List Nat) (ho : OrdOk o) (hord : Fz.Le F (.obj ord (.list (o.map S1)))) (ns : List Nat) (hns : ns.length ≤ 10) (hnr : Fz.Le F (.obj nr (.list (ns.map NV))))
    (figs : List (List Nat)) (N : Nat) (hN : N ≤ 14) (hok : ∀ k, figOk (figs.getD k [])) (rr : List Addr) (hR : RowsF F rr ((List.range N).map (rowV o figs))) (hinj : ∀ i j, i < N → j < N → rr.getD i 0 = rr.getD j 0 → i = j)
    (rw : Addr) (rl : List Nat) (hrl : ∀ k ∈ rl, k < N) (hrln : rl.length ≤ 14) (hrw : Fz.Le F (.obj rw (.list (rl.map fun k => .ref (rr.getD k 0))))) (t : Nat) (ht : t < 9) {sc to ta le nb du me tx re ye no oF oB oD oT oG oP oK : Option Value} :
    CF cx A (execs body env) (fun f σ' => f = .next ∧ ∃ v : TV, Fz.Le v.F F ∧ Fz.Le v.F (.obj v.rw (.list ((pass (fun k => figBit t (figs.getD k [])) rl).map fun k => .ref (rr.getD k 0)))) ∧
        Back (SL a (some (.ref ord)) oF (some (.ref v.rw)) v.oB v.oD v.oT v.oG v.oP v.oK (LL sc (some (.ref nr)) to ta le nb du (some (In (t : Int))) v.me v.tx v.re v.ye v.no) S) v.F σ')
      ⟨SL a (some (.ref ord)) oF (some (.ref rw)) oB oD oT oG oP oK (LL sc (some (.ref nr)) to ta le nb du (some (In (t : Int))) me tx re ye no) S, F⟩ := by
  refine cf_hide fun G hG => ?_
  have h0 : forBody (bodyAt P 93)[11]? = [_, _, _, _, _, _, _, _, _, _, _] := rfl
  rw [h0] at hb
  subst hb
  have h1 : fdAt P 93 = some _ := rfl
  have hfd0 := hfd
  rw [h1] at hfd
  injection hfd with hfd
  subst hfd
  clear h0 h1
  have hxR : env.cells.lookup (Str.ofString "rows") = some a.cR := by subst hE; kernel_rfl
  have hxB : env.cells.lookup (Str.ofString "bit") = some a.cB := by subst hE; kernel_rfl
  have hxD : env.cells.lookup (Str.ofString "barred") = some a.cD := by subst hE; kernel_rfl
  have hxT : env.cells.lookup (Str.ofString "turned") = some a.cT := by subst hE; kernel_rfl
  have hxG : env.cells.lookup (Str.ofString "ranges") = some a.cG := by subst hE; kernel_rfl
  have hxP : env.cells.lookup (Str.ofString "place") = some a.cP := by subst hE; kernel_rfl
  dsimp only [SL]
  walk_at "E"
  refine op_div_int (by decide) (by decide) ?_
  have e1 : (2 - (t : Int) / 3) = ((2 - t / 3 : Nat) : Int) := by omega
  walk_at "e"
  rw [e1]
  walk_at "E"
  refine op_mod_int (by decide) ?_
  have e2 : ((t : Int) % 3).toNat = t % 3 := by omega
  have hib : (Builtin.Int.intBits 2 : Int) = 2 := by decide +kernel
  refine op_pow_int (by omega) (by rw [hib]; omega) ?_
  rw [e2]
  have e3 : ((2 : Int) ^ (t % 3)) = ((2 ^ (t % 3) : Nat) : Int) := by simp
  rw [e3]
  walk_at "E"
  refine cal_len_list (.frozen hnr) (by simp; omega) ?_
  walk_at "E"
  refine op_mod_int (by decide) ?_
  walk_at "e"
  walk_at "e"
  walk_at "e"
  walk_at "e"
  generalize hbb : decide (((t : Int) + ((ns.map NV).length : Nat)) % 2 = 1) = b
  have hbit0 : 0 < 2 ^ (t % 3) := Nat.two_pow_pos _
  have hbit1 : 2 ^ (t % 3) < 1000 := by
    have h3 : t % 3 = 0 ∨ t % 3 = 1 ∨ t % 3 = 2 := by omega
    rcases h3 with e | e | e <;> rw [e] <;> decide
  have hm128 : ∀ c ∈ memb o (2 ^ (t % 3)) b, c < 128 := fun c hc => ho.small c (memb_sub ho.len c hc)
  have hmne := memb_ne ho.len ho.nd t b
  have hml := memb_len o (2 ^ (t % 3)) b
  refine cf_cons ?_
  refine cf_cutP _ (law_t3 (p := p) (loose := loose) hfd0 hE rfl hF (Room.mono room (by omega) : Room A ((n + 2) + 3)) ord o ho.len hord (2 ^ (t % 3)) hbit0 hbit1 b) ?_
  rintro σ₁ ⟨mm, hbk⟩
  refine then_next (wbF hbk ?_)
  clear hbk
  refine cf_cons ?_
  refine cf_cutP _ (law_t4 (p := p) (loose := loose) hfd0 hE rfl hF hB room hP1 mm (memb o (2 ^ (t % 3)) b) hm128 hmne hml (2 ^ (t % 3)) (2 - t / 3) (by omega) b) ?_
  intro σ₁ hbk
  refine then_next (wbF hbk ?_)
  clear hbk
  obtain ⟨_, hsf0, hsfl, hskip, hok2, ht128, ht2, hc1, hc2, sg, hsg, hsg0, hsgl, hsgok, hsgt, hcov⟩ := bracket_all (memb o (2 ^ (t % 3)) b) b (decide (2 ^ (t % 3) = 2)) hm128 hmne hml (2 - t / 3)
  have hgrow := fun k => gRow_bit ho.len ho.nd hok t b k
  generalize hpl : 2 - t / 3 = pl at hgrow hsg ⊢
  have hpl2 : pl ≤ 2 := by omega
  generalize memb o (2 ^ (t % 3)) b = m at *
  generalize decide (2 ^ (t % 3) = 2) = strw at *
  have htx := take_txt pl m b strw
  have hdx := drop_txt pl m b strw
  rw [show fin3 (cloak (trans2 (bS b) (sfOf m b strw))) = _ from hsg] at hdx
  have hxl : (txtOf pl m b strw).length ≤ 1000 := by
    have h5 := congrArg List.length (List.take_append_drop (pl + 5) (txtOf pl m b strw))
    rw [List.length_append, htx, hdx] at h5
    have h6 := encs_len sg
    have h7 : (if b = true then [94] else [] : List Nat).length ≤ 1 := by cases b <;> decide
    simp only [List.length_append, List.length_cons, List.length_nil, List.length_replicate] at h5
    omega
  generalize txtOf pl m b strw = txt at *
  dsimp only [SL]
  walk_at "e"
  refine cf_if ?_
  walk_at "E"
  refine cut_str ?_ .none (.int _) (by omega)
  rw [slc_t (j := (pl : Int) + 5) _ (pl + 5) (by omega), htx]
  walk_at "E"
  refine op_mul_str ?_ (by omega) (by omega) (by decide)
  rw [flat_rep, Int.toNat_natCast]
  walk_at "E"
  refine op_add_str (by simp only [List.length_append, List.length_replicate, List.length_cons, List.length_nil]; omega) ?_
  walk_at "E"
  refine op_add_str (by simp only [List.length_append, List.length_replicate, List.length_cons, List.length_nil]; omega) ?_
  walk_at "E"
  rw [decide_eq_false (fun h => h rfl), if_neg (by decide)]
  refine cf_nil (then_next ?_)
  refine cf_cons ?_
  refine cf_unpack (nps := [(Str.ofString "turned", _), (Str.ofString "ranges", _), (Str.ofString "rest", _)]) ?_ room.hh (by walk_at "k") (by walk_at "k")
  refine cvT (Q := fun v σ₁ => ∃ (tt rg : Addr) (refs : List Addr) (F' : Fz), v = .ref tt ∧ Fz.Le F' F ∧ RowsF F' refs ((rangesOf sg).map rangeV) ∧ Back ((tt, .tuple [.bool b, .ref rg, St [46, 42, 41, 92, 90]]) :: (rg, .list (refs.map .ref)) :: SL a (some (.ref ord)) oF (some (.ref rw)) (some (In ((2 ^ (t % 3) : Nat) : Int))) (some (.bool b)) oT oG (some (In (pl : Int))) oK (LL sc (some (.ref nr)) to ta le nb du (some (In (t : Int))) (some (.ref mm)) (some (St txt)) re ye no) ((mm, .list (m.map S1)) :: S)) F' σ₁) ?_ ?_
  · walk_at "E"
    refine cv_gref (a := 88) ?_ hF (by kernel_rfl) (by subst hE; rfl) (by subst hE; rfl) (by subst hE; kernel_rfl) (by kernel_rfl)
    refine cwith_def ?_ (by walk_at "w")
    walk_at "E"
    refine ⟨fnAt_of hF (a := 88) (by rfl) (by rfl), ?_⟩
    have e5 : (pl : Int) + 5 = ((pl + 5 : Nat) : Int) := by omega
    rw [e5]
    refine law_set_spec hF (Room.mono room (by omega) : Room A ((n + 2) + 3)) txt (pl + 5) b sg [46, 42, 41, 92, 90] hxl ?_ hsg0 (by omega) hsgok hsgt _ fun tt rg refs F' σ' hle hRR hbk => ?_
    · rw [hdx, List.append_assoc]
    · exact ⟨tt, rg, refs, F', rfl, hle, hRR, hbk⟩
  rintro v σ₁ ⟨tt, rg, refs, F', rfl, hle, hRR, hbk⟩
  refine ⟨_, Turns.back hbk, tt, _, rfl, .own (by walk_at "m"), rfl, ?_⟩
  clear hbk
  dsimp only [List.map, Stores]
  walk_at "e"
  walk_at "e"
  walk_at "e"
  walk_at "e"
  refine frF (a := rg) (.tail .head) rfl ?_
  refine wbF (S' := SL a (some (.ref ord)) oF (some (.ref rw)) (some (In ((2 ^ (t % 3) : Nat) : Int))) (some (.bool b)) (some (.bool b)) (some (.ref rg)) (some (In (pl : Int))) oK (LL sc (some (.ref nr)) to ta le nb du (some (In (t : Int))) (some (.ref mm)) (some (St txt)) (some (St [46, 42, 41, 92, 90])) ye no) ((mm, .list (m.map S1)) :: S)) (F' := F'.and (.obj rg (.list (refs.map .ref)))) (by walk_at "b") ?_
  refine cf_cons ?_
  have hle1 : Fz.Le (F'.and (.obj rg (.list (refs.map .ref)))) F := fun h y => hle h y.1
  refine cf_cutP _ (law_t7 (p := p) (loose := loose) hfd0 hE rfl (fun h y => hF h (hle1 h y)) (Room.mono room (by omega) : Room A ((n + 2) + 3)) ord rg o ho.len (fun h y => hord h (hle1 h y)) refs (rangesOf sg) (by have := rangesOf_len sg; omega) (hRR.le le_fst) le_last b m hcov) ?_
  rintro σ₁ ⟨tk, hbk⟩
  refine then_next (wbF hbk ?_)
  clear hbk
  generalize hF2 : F'.and (.obj rg (.list (refs.map .ref))) = F2 at hle1 ⊢
  dsimp only [SL]
  refine frF (a := tk) (by walk_at "d") rfl ?_
  have hle2 : Fz.Le (F2.and (.obj tk (.list ((o.filter fun c => decide (c ∈ m) != b).map S1)))) F := fun h y => hle1 h y.1
  have hltk : Fz.Le (F2.and (.obj tk (.list ((o.filter fun c => decide (c ∈ m) != b).map S1)))) (.obj tk (.list ((o.filter fun c => decide (c ∈ m) != b).map S1))) := le_last
  generalize hF3 : F2.and (.obj tk (.list ((o.filter fun c => decide (c ∈ m) != b).map S1))) = F3 at hle2 hltk ⊢
  refine cf_cons ?_
  refine cf_cutP _ (law_t8 (p := p) (loose := loose) (S := (mm, .list (m.map S1)) :: S) hfd0 hE rfl (fun h y => hF h (hle2 h y)) (fun h y => hB h (hle2 h y)) room (by simp [hP2]) rw tk rr o figs N hN hok (hR.le hle2) hinj rl hrl hrln (fun h y => hrw h (hle2 h y)) pl hpl2 (o.filter fun c => decide (c ∈ m) != b) hltk) ?_
  rintro σ₁ ⟨y, z, hbk⟩
  refine then_next (wbF hbk ?_)
  clear hbk
  have hg : gRow o figs pl (o.filter fun c => decide (c ∈ m) != b) = fun k => figBit t (figs.getD k []) := funext hgrow
  rw [hg]
  dsimp only [SL]
  refine cf_cons ?_
  walk_at "E"
  have hfl1 : (rl.filter fun k => figBit t (figs.getD k [])).length ≤ 14 := Nat.le_trans (List.length_filter_le _ _) hrln
  have hfl2 : (rl.filter fun k => !figBit t (figs.getD k [])).length ≤ 14 := Nat.le_trans (List.length_filter_le _ _) hrln
  refine op_add_list (fun d => ?_) (.own (by walk_at "m")) (.own (by walk_at "m")) (by simp only [List.length_map]; omega)
  rw [← List.map_append]
  walk_at "e"
  walk_at "e"
  refine frF (a := d) .head rfl ?_
  have hle4 : Fz.Le (F3.and (.obj d (.list ((pass (fun k => figBit t (figs.getD k [])) rl).map fun k => .ref (rr.getD k 0))))) F := fun h y => hle2 h y.1
  have hld : Fz.Le (F3.and (.obj d (.list ((pass (fun k => figBit t (figs.getD k [])) rl).map fun k => .ref (rr.getD k 0))))) (.obj d (.list ((pass (fun k => figBit t (figs.getD k [])) rl).map fun k => .ref (rr.getD k 0)))) := le_last
  show CF _ _ _ _ ⟨_, F3.and (.obj d (.list ((pass (fun k => figBit t (figs.getD k [])) rl).map fun k => .ref (rr.getD k 0))))⟩
  generalize F3.and (.obj d (.list ((pass (fun k => figBit t (figs.getD k [])) rl).map fun k => .ref (rr.getD k 0)))) = F4 at hle4 hld ⊢
  refine cf_cons (cf_if ?_)
  walk_at "E"
  rw [decide_eq_false (fun h => h rfl), if_neg (by decide)]
  refine cf_nil (then_next (cf_nil ?_))
  exact hG _ _ ⟨rfl, ⟨d, F4, none, _, _, _, _, _, _, _, _, _, _, _⟩, hle4, hld, by walk_at "b"⟩

noncomputable def tab14 : List Nat := [33, 93, 45, 94, 91, 92, 97, 38, 126, 124, 42, 63, 46, 98]
noncomputable def windowOf (s : Nat) : List Nat := ((tab14 ++ tab14).drop s).take 7
theorem window_ok : ∀ s < 14, (windowOf s).length = 7 ∧ (windowOf s).Nodup ∧ ∀ c ∈ windowOf s, c < 128 := by decide
theorem ordOk_of {s : Nat} (hs : s < 14) {o : List Nat} (h : o.Perm (windowOf s)) : OrdOk o := by
  obtain ⟨h1, h2, h3⟩ := window_ok s hs
  exact ⟨h.length_eq.trans h1, h.nodup_iff.mpr h2, fun c hc => h3 c (h.mem_iff.mp hc)⟩
noncomputable def natsOf (xs : List Int) : List Nat := (xs.take 10).map fun x => (x % 1000000000).toNat
theorem natsOf_eq (xs : List Int) : (numsOf xs).map In = (natsOf xs).map NV := by
  unfold numsOf natsOf
  rw [List.map_map, List.map_map]
  refine List.map_congr_left fun x _ => ?_
  have h : 0 ≤ x % 1000000000 := Int.emod_nonneg _ (by decide)
  show In (x % 1000000000) = In (((x % 1000000000).toNat : Nat) : Int)
  rw [Int.toNat_of_nonneg h]
noncomputable def figsOf (ns : List Nat) : List (List Nat) := (ns ++ [83, 10, 83, 417]).map figN
theorem figs_ok (ns : List Nat) : ∀ f ∈ figsOf ns, figOk f := by
  intro f hf
  obtain ⟨k, _, rfl⟩ := List.mem_map.mp hf
  exact figN_ok k
theorem figs_getD (ns : List Nat) (k : Nat) : figOk ((figsOf ns).getD k []) := by
  rw [List.getD_eq_getElem?_getD]
  cases q : (figsOf ns)[k]? with
  | none => exact ⟨by simp, fun c hc => by cases hc⟩
  | some f => exact figs_ok ns f (List.mem_of_getElem? q)
theorem rr_eq {rr : List Addr} {N : Nat} (h : rr.length = N) : rr.map Value.ref = (List.range N).map fun k => Value.ref (rr.getD k 0) := by
  refine List.ext_getElem (by simp [h]) fun i h1 h2 => ?_
  have : i < rr.length := by simpa using h1
  simp [List.getD, this]
theorem del_SL {a : LA} {oO oF oR oB oD oT oG oP oK : Option Value} {m : List (Str × Option Value)} {S : List (Addr × CO)} {x : Addr × CO} : Del (SL a oO oF oR oB oD oT oG oP oK m (x :: S)) x (SL a oO oF oR oB oD oT oG oP oK m S) := by walk_at "d"
theorem law_spec0 {cx : Cx} {A : Around} {P : Params} {p : Program} {loose : List Str} {S : List (Addr × CO)} {F : Fz} {n : Nat}
    (hF : Fz.Le F (Fz.top p loose (hd.heap_39 P))) (hB : Fz.Le F Fz.bm) (room : Room A (n + 6)) (hP1 : (64, CO.tab 68 qsT) ∈ S) (hP2 : (90, CO.tab 92 qsL) ∈ S) (l : Addr) (xs : List Int) (hl : Sees ⟨S, F⟩ l (.list (xs.map In))) (hz : xs.length ≤ 63) (Q : Value → CS → Prop) (h : ∀ σ', Back S F σ' → Q (.bool true) σ') :
    CVu cx A (call (.ref 93) [.ref l]) Q ⟨S, F⟩ := by
  refine call_KC0 (vs := [.ref l]) [Str.ofString "script"] [Str.ofString "script", Str.ofString "numbers", Str.ofString "total", Str.ofString "table", Str.ofString "left", Str.ofString "number", Str.ofString "due", Str.ofString "turn", Str.ofString "members", Str.ofString "text", Str.ofString "rest", Str.ofString "yes", Str.ofString "no"] rfl hF (by rfl) (by rfl) (by kernel_rfl) (by rfl) room (fun vs' e => ?_) (by decide +kernel) (by rfl) (by rfl) fun L => ?_
  · obtain ⟨v1, rfl⟩ : ∃ v1, vs' = [v1] := by
      match vs', e with
      | [v1], _ => exact ⟨v1, rfl⟩
    rfl
  show Cells [_, _, _, _, _, _, _, _, _, _, _, _, _, _, _, _, _, _, _, _, _, _, _, _, _, _, _, _, _, _, _] _ _ _
  repeat (refine cells_step rfl ?_)
  refine cells_cell fun cO => cells_cell fun cF => cells_step rfl (cells_cell fun cR => cells_step rfl (cells_step rfl (cells_cell fun cB => cells_cell fun cD => cells_step rfl (cells_step rfl (cells_cell fun cT => cells_cell fun cG => cells_step rfl (cells_step rfl (cells_step rfl (cells_cell fun cP => cells_cell fun cK => ?_))))))))
  repeat (refine cells_step rfl ?_)
  refine cells_nil ?_
  intro A₁ A' room'
  obtain ⟨a, rfl, rfl, rfl, rfl, rfl, rfl, rfl, rfl, rfl, rfl⟩ : ∃ a : LA, a.L = L ∧ a.cO = cO ∧ a.cF = cF ∧ a.cR = cR ∧ a.cB = cB ∧ a.cD = cD ∧ a.cT = cT ∧ a.cG = cG ∧ a.cP = cP ∧ a.cK = cK := ⟨⟨L, cO, cF, cR, cB, cD, cT, cG, cP, cK⟩, rfl, rfl, rfl, rfl, rfl, rfl, rfl, rfl, rfl, rfl⟩
  generalize hE0 : newEnv _ a.L _ _ _ _ _ _ _ = env
  have hxO : env.cells.lookup (Str.ofString "order") = some a.cO := by subst hE0; kernel_rfl
  have hxF : env.cells.lookup (Str.ofString "figures") = some a.cF := by subst hE0; kernel_rfl
  have hxR : env.cells.lookup (Str.ofString "rows") = some a.cR := by subst hE0; kernel_rfl
  dsimp only [nones, List.zip, List.zipWith, List.map]
  intro v1 hv1
  refine' store_local0 (L := a.L) hv1 ?_ ?h0 ?h1 ?h2 ?h3 ?h4
  case h1 => walk_at "u"
  case h0 => walk_at "u"
  case h2 => walk_at "w"
  case h3 => walk_at "w"
  case h4 => walk_at "k"
  refine ⟨hF, ?_⟩
  refine cfu_cons ?_
  refine cfu_cutP _ (law_st0u (p := p) (loose := loose) rfl hE0 rfl hF (Room.mono room' (by omega) : Room A' ((n + 2) + 3)) l xs hl hz) ?_
  rintro σ₁ ⟨nr, hbk⟩
  rw [natsOf_eq] at hbk
  have hnl : (natsOf xs).length ≤ 10 := by unfold natsOf; rw [List.length_map, List.length_take]; omega
  generalize natsOf xs = ns at hnl hbk
  have hnri : (ns.map NV) = (ns.map fun k : Nat => (k : Int)).map In := by rw [List.map_map]; rfl
  refine then_next (wbF hbk ?_)
  clear hbk
  refine frG (a := nr) del_SL rfl fun F1 hg1 hnr => ?_
  have hF1 : Fz.Le F1 (Fz.top p loose (hd.heap_39 P)) := fun h y => hF h (hg1 h y)
  walk_at "E"
  refine cal_sum room'.hh (ks := ns.map fun k : Nat => (k : Int)) (.frozen (by rw [← hnri]; exact hnr)) ?_
  generalize (ns.map fun k : Nat => (k : Int)).sum = tot
  walk_at "E"
  refine op_mul_str ?_ (by decide) (by decide) (by decide)
  walk_at "E"
  refine op_mod_int (by decide) ?_
  walk_at "E"
  refine op_mod_int (by decide) ?_
  walk_at "E"
  refine cut_str ?_ (.int _) (.int _) (by decide)
  have hs0 : 0 ≤ tot % 14 := Int.emod_nonneg _ (by decide)
  have hs1 : tot % 14 < 14 := Int.emod_lt_of_pos _ (by decide)
  obtain ⟨s, hs⟩ : ∃ s : Nat, tot % 14 = (s : Int) := ⟨(tot % 14).toNat, by omega⟩
  rw [hs]
  rw [slc_ft _ s (s + 7) rfl (by omega)]
  have hsl : s < 14 := by omega
  have hw : ((List.replicate (2 : Int).toNat [33, 93, 45, 94, 91, 92, 97, 38, 126, 124, 42, 63, 46, 98]).flatten.drop s).take (s + 7 - s) = windowOf s := by
    rw [Nat.add_sub_cancel_left]; rfl
  rw [hw]
  clear hw
  generalize (List.replicate (2 : Int).toNat [33, 93, 45, 94, 91, 92, 97, 38, 126, 124, 42, 63, 46, 98]).flatten = tb
  walk_at "E"
  refine cal_list_str (fun lf => ?_) room'.hh (by rw [(window_ok s hsl).1]; decide)
  walk_at "E"
  refine iop_div_int (by decide) (by decide) ?_
  walk_at "E"
  intro ord
  walk_at "E"
  refine wbF (S' := SL a (some (.ref ord)) none none none none none none none none (LL (some (.ref l)) (some (.ref nr)) (some (In (tot / 14))) (some (St tb)) (some (.ref lf)) none none none none none none none none) ((ord, .list []) :: (lf, .list ((windowOf s).map fun c => St [c])) :: S)) (F' := F1) (by walk_at "b") ?_
  refine cf_cutP _ (law_st6 (p := p) (loose := loose) rfl hE0 rfl hF1 (Room.mono room' (by omega) : Room A' ((n + 2) + 3)) ord lf (windowOf s) (Nat.le_of_eq (window_ok s hsl).1) (tot / 14)) ?_
  rintro σ₁ ⟨o, tot', oP', hperm, hbk⟩
  have ho := ordOk_of hsl hperm
  refine then_next (wbF hbk ?_)
  clear hbk
  refine frG (a := ord) del_SL rfl fun F2 hg2 hord => ?_
  walk_at "E"
  intro fg
  walk_at "E"
  refine wbF (S' := SL a (some (.ref ord)) (some (.ref fg)) none none none none none oP' none (LL (some (.ref l)) (some (.ref nr)) (some (In tot')) (some (St tb)) (some (.ref lf)) none none none none none none none none) ((fg, .list []) :: S)) (F' := F2) (by walk_at "b") ?_
  refine cf_cutP _ (law_st8 (p := p) (loose := loose) rfl hE0 rfl (fun h y => hF1 h (hg2 h y)) (Room.mono room' (by omega) : Room A' ((n + 2) + 3)) fg nr ns hnl (.frozen fun h y => hnr h (hg2 h y))) ?_
  rintro σ₁ ⟨refs, F3, nb', hle3, hR, hbk⟩
  have hR' : RowsF F3 refs ((figsOf ns).map fun f => f.map NV) := by
    have e : (figsOf ns).map (fun f => f.map NV) = (ns ++ [83, 10, 83, 417]).map fun k => (figN k).map NV := by unfold figsOf; rw [List.map_map]; rfl
    rw [e]; exact hR
  have hfl : (figsOf ns).length ≤ 14 := by unfold figsOf; simp; omega
  have hfl2 : 2 ≤ (figsOf ns).length := by unfold figsOf; simp
  have hfo := figs_ok ns
  have hfd := figs_getD ns
  clear hR
  generalize figsOf ns = figs at hR' hfl hfl2 hfo hfd
  refine then_next (wbF hbk ?_)
  clear hbk
  refine frG (a := fg) del_SL rfl fun F4 hle4 hfg => ?_
  have hle0 : Fz.Le F4 F := fun h y => hg1 h (hg2 h (hle3 h (hle4 h y)))
  refine cf_cons ?_
  refine cf_cutP _ (law_st9 (p := p) (loose := loose) rfl hE0 rfl (fun h y => hF h (hle0 h y)) (Room.mono room' (by omega) : Room A' ((n + 2) + 3)) fg ord o ho.len refs figs hfl hfo (hR'.le hle4) hfg (fun h y => hord h (hle3 h (hle4 h y)))) ?_
  rintro σ₁ ⟨rw, rr, F5, hle5, hRR, hbk⟩
  have hrl : rr.length = figs.length := by have := hRR.len; simpa using this
  refine then_next (wbF hbk ?_)
  clear hbk
  refine frG (a := rw) del_SL rfl fun F6 hle6 hrw => ?_
  refine cf_cons ?_
  refine cf_cutP _ (law_st10 (p := p) (loose := loose) rfl hE0 rfl (fun h y => hF h (hle0 h (hle5 h (hle6 h y)))) (Room.mono room' (by omega) : Room A' ((n + 2) + 3)) fg rw refs rr figs hfl hfl2 hfo (hR'.le fun h y => hle4 h (hle5 h (hle6 h y))) (fun h y => hfg h (hle5 h (hle6 h y))) hrl hrw) ?_
  rintro σ₁ ⟨dd, is, hip, his, hbk⟩
  have hpr : ∀ q, ∀ k ∈ passes (fun t k => figBit t (figs.getD k [])) q (List.range figs.length), k < figs.length := fun q k hk => List.mem_range.mp ((passes_perm _ _ q).mem_iff.mp hk)
  have hpl : ∀ q, (passes (fun t k => figBit t (figs.getD k [])) q (List.range figs.length)).length ≤ 14 := fun q => by rw [(passes_perm _ _ q).length_eq, List.length_range]; exact hfl
  refine then_next (wbF hbk ?_)
  clear hbk
  refine frG (a := dd) del_SL rfl fun F7 hle7 hdd => ?_
  have hlen : Fz.Le F7 F5 := fun h y => hle6 h (hle7 h y)
  have hlez : Fz.Le F7 F := fun h y => hle0 h (hle5 h (hlen h y))
  have hF7 : Fz.Le F7 (Fz.top p loose (hd.heap_39 P)) := fun h y => hF h (hlez h y)
  refine cf_fact (X := ∀ i j, i < figs.length → j < figs.length → rr.getD i 0 = rr.getD j 0 → i = j) (rows_inj (hRR.le hlen)) fun hinj => ?_
  refine cf_cons ?_
  refine cf_cutP (fun σ' => ∃ w : TV, Fz.Le w.F F7 ∧ Fz.Le w.F (.obj w.rw (.list ((passes (fun t k => figBit t (figs.getD k [])) 9 (List.range figs.length)).map fun k => .ref (rr.getD k 0)))) ∧
    Back (SL a (some (.ref ord)) (some (.ref fg)) (some (.ref w.rw)) w.oB w.oD w.oT w.oG w.oP w.oK (LL (some (.ref l)) (some (.ref nr)) (some (In tot')) (some (St tb)) (some (.ref lf)) nb' (some (.ref dd)) w.tu w.me w.tx w.re w.ye w.no) S) w.F σ') ?_ ?_
  · refine cf_for (srcRange 0 9) srcRange_ok (fun q S' F' => ∃ w : TV, Fz.Le F' F7 ∧ Fz.Le F' (.obj w.rw (.list ((passes (fun t k => figBit t (figs.getD k [])) q (List.range figs.length)).map fun k => .ref (rr.getD k 0)))) ∧
      S' = SL a (some (.ref ord)) (some (.ref fg)) (some (.ref w.rw)) w.oB w.oD w.oT w.oG w.oP w.oK (LL (some (.ref l)) (some (.ref nr)) (some (In tot')) (some (St tb)) (some (.ref lf)) nb' (some (.ref dd)) w.tu w.me w.tx w.re w.ye w.no) S) room'.hh ?_ (fun _ _ _ _ _ => trivial) ?_ ?_ (fun _ => rfl) (fun _ _ => rfl)
    · walk_at "E"
      refine cal_range1 fun r => ?_
      refine iter_range (fun it => ?_) .head (by decide) (by decide) (by decide)
      exact ⟨⟨rw, F7, _, _, _, _, _, _, _, _, _, _, _, _⟩, fun _ y => y, by rw [show passes (fun t k => figBit t (figs.getD k [])) 0 (List.range figs.length) = List.range figs.length from rfl, ← rr_eq hrl]; exact fun h y => hrw h (hle7 h y), rfl⟩
    · rintro q it S' F' v ⟨w, hle, hrwx, rfl⟩ hi v' hv
      have hq9 : q < 9 := by have := (List.getElem?_eq_some_iff.mp hi).1; simpa [srcRange] using this
      obtain rfl : v = In (q : Int) := by
        have : (srcRange 0 9).items[q]? = some (In (0 + (q : Int))) := by simp [srcRange, hq9]
        rw [this] at hi
        injection hi with hi
        rw [← hi, Int.zero_add]
      refine cu_assign_name hv ?_
      walk_at "e"
      refine wbF (S' := SL a (some (.ref ord)) (some (.ref fg)) (some (.ref w.rw)) w.oB w.oD w.oT w.oG w.oP w.oK (LL (some (.ref l)) (some (.ref nr)) (some (In tot')) (some (St tb)) (some (.ref lf)) nb' (some (.ref dd)) (some (In (q : Int))) w.me w.tx w.re w.ye w.no) ((it, .iter ((srcRange 0 9).k (q + 1))) :: S)) (F' := F') (by walk_at "b") ?_
      refine cfT (law_turn (p := p) (loose := loose) rfl hE0 rfl (fun h y => hF7 h (hle h y)) (fun h y => hB h (hlez h (hle h y))) room' (by simp [hP1]) (by simp [hP2]) ord nr o ho (fun h y => hord h (hle3 h (hle4 h (hle5 h (hlen h (hle h y)))))) ns hnl (fun h y => hnr h (hg2 h (hle3 h (hle4 h (hle5 h (hlen h (hle h y))))))) figs figs.length hfl hfd rr (hRR.le fun h y => hlen h (hle h y)) hinj w.rw _ (hpr q) (hpl q) hrwx q hq9) ?_
      rintro f σ₁ ⟨rfl, x, hle', hrw', hbk⟩
      refine ⟨_, Turns.back hbk, ?_⟩
      dsimp only
      refine ⟨_, x.F, ?_, fun _ y => y, { x with tu := some (In (q : Int)) }, fun h y => hle h (hle' h y), hrw', rfl⟩
      dsimp only [SL]
      walk_at "p"
    · rintro S' F' ⟨w, hle, hrwx, rfl⟩
      exact cf_nil ⟨rfl, { w with F := F' }, hle, hrwx, back_refl⟩
  rintro σ₁ ⟨w, hle, hrwx, hbk⟩
  have hnine := nine (fig := fun k => figs.getD k []) (n := figs.length) (by omega) hfd hip his
  rw [hnine] at hrwx
  have esame : (is.map fun k => Value.ref (rr.getD k 0)) = (is.map fun k => rr.getD k 0).map Value.ref := by rw [List.map_map]; rfl
  rw [esame] at hrwx hdd
  refine then_next (wbF hbk ?_)
  clear hbk
  walk_at "E"
  refine op_eq_same room' (.frozen hrwx) (.frozen fun h y => hdd h (hle h y)) ?_
  walk_at "E"
  refine h _ ⟨?_, fun hp y => hlez hp (hle hp y)⟩
  exact .skip (.skip (.skip (.skip (.skip (.skip (.skip (.skip (.skip (.skip (.refl _))))))))))

set_option maxRecDepth 100000
noncomputable def Fz.base (B : Heap) : Fz := ⟨fun h => Ext B h, fun k x => fun b o e => k b o (x b o e)⟩
noncomputable def headTabs : List (Addr × Addr) := [(68, 64), (92, 90)]
theorem head_core {prog : Program} {w : World} {P : Params} {p : Program} {loose : List Str} {mean : ExcName → Option Value} {mg mb : Str → Option Value} {s₁ : Shared} {x : Addr} {vals : List Value} {xs : List Int}
    (KX : (hd.heap_39 P).In s₁.heap) (T : Top p loose mean mg mb s₁.heap) (hT : TabsAt headTabs s₁.heap) (hg : s₁.gens = #[]) (hL : s₁.heap.get? x = some (seqObj "list" vals.toArray 0)) (hI : IntsAre vals xs) (hz : xs.length ≤ 63) :
    wpAny (model prog w) callerA (call (.ref 93) [.ref x]) (fun v s' => v = .bool true ∧ OldK s₁.heap s'.heap ∧ s'.os = s₁.os ∧ AllBare s'.gens) (fun _ _ => False) s₁ := by
  have X' := ghost_K hT KX (by kernel_rfl)
  have T' := topRead_of (ghost_top hT T)
  obtain ⟨bm, ob, b1, b2, b3, b4, b5, b6⟩ := T.bmain
  have hbm : bm ≠ mainGlobals := fun z => by
    obtain ⟨o, es, ep, q, d, _⟩ := T.g
    rw [← z, b3] at q; cases q; rw [d] at b6; cases b6
  have hb3 : (ghostOf s₁.heap headTabs).get? bm = some ob := ghost_get hT b3 (fun q => by rw [q] at b4; cases b4)
  have hx : (ghostOf s₁.heap headTabs).get? x = some (seqObj "list" vals.toArray 0) := ghost_get hT hL (fun q => by cases q)
  have hmap : vals.map nv = xs.map In := by
    clear hL hx
    induction hI with
    | nil => rfl
    | cons n t _ ih => rw [List.map_cons, List.map_cons, ih (by simp at hz; omega)]; rfl
  generalize hFe : ((((Fz.top topProg (loose ++ (recsOf p).map (·.name) ++ (litsOf p).map (·.1) ++ (clssOf p loose).map (·.name)) (hd.heap_39 P)).and Fz.bm).and (.obj x (.list (xs.map In)))).and (Fz.base (ghostOf s₁.heap headTabs))) = F
  have hF : Fz.Le F (Fz.top topProg (loose ++ (recsOf p).map (·.name) ++ (litsOf p).map (·.1) ++ (clssOf p loose).map (·.name)) (hd.heap_39 P)) := fun h y => by subst hFe; exact y.1.1.1
  have hB : Fz.Le F Fz.bm := fun h y => by subst hFe; exact y.1.1.2
  have hO : Fz.Le F (.obj x (.list (xs.map In))) := fun h y => by subst hFe; exact y.1.2
  have hBase : Fz.Le F (Fz.base (ghostOf s₁.heap headTabs)) := fun h y => by subst hFe; exact y.2
  have hFp : F.p (ghostOf s₁.heap headTabs) := by
    subst hFe
    refine ⟨⟨⟨⟨X', mg, mb, T'⟩, ⟨mg, bm, ob, ghost_ns hT T.g, b1, b2, hbm, hb3, b4, b5, b6⟩⟩, ?_⟩, fun b o e => e⟩
    exact ⟨vals.toArray, 0, hx, by simpa using hmap⟩
  have tabOk : ∀ c P' qs, (c, P') ∈ headTabs → TabOk s₁.heap c P' qs := fun c P' qs hm =>
    ⟨(hT _ hm).1, #[], (hT _ hm).2, trivial, fun y hy cv hcv => by cases hcv⟩
  have R0 : Rep0 ⟨prog, w, s₁.os⟩ ⟨[(90, .tab 92 qsL), (64, .tab 68 qsT)], F⟩ s₁ := by
    refine ⟨rfl, AllBare.of_eq hg, Nat.succ_pos _, (by show ([(90 : Addr), 64] : List Addr).Nodup; decide), ⟨ghostOf s₁.heap headTabs, hFp, fun b o e => of_hideAll _ e, fun q hq => ?_⟩, fun q hq => ?_⟩
    · refine hideAll_none _ ?_
      rcases List.mem_cons.mp hq with rfl | hq
      · decide
      · rcases List.mem_cons.mp hq with rfl | hq
        · decide
        · cases hq
    · rcases List.mem_cons.mp hq with rfl | hq
      · exact tabOk 92 90 qsL (by decide)
      · rcases List.mem_cons.mp hq with rfl | hq
        · exact tabOk 68 64 qsT (by decide)
        · cases hq
  have room : Room callerA (0 + 6) := ⟨by decide, by decide, rfl⟩
  have main := law_spec0 (cx := ⟨prog, w, s₁.os⟩) (A := callerA) (S := [(90, .tab 92 qsL), (64, .tab 68 qsT)]) (n := 0) hF hB room (by simp) (by simp) x xs (.frozen hO) hz
    (fun v σ' => v = .bool true ∧ Back [(90, .tab 92 qsL), (64, .tab 68 qsT)] F σ') (fun σ' hb => ⟨rfl, hb⟩) s₁ R0
  refine wpAny_mono main (fun v s' h => ?_) fun _ _ e => e
  obtain ⟨σ', R', hv, hp, hf⟩ := h
  have R := R'.weak hp hf
  refine ⟨nv_bool hv, ?_, R.os, R.gens⟩
  obtain ⟨B, hBp, hext, _⟩ := R.fz
  have hold : ∀ b o, (ghostOf s₁.heap headTabs).get? b = some o → s'.heap.get? b = some o := fun b o e => hext b o (hBase B hBp b o e)
  have tab' : ∀ c P' qs, (P', CO.tab c qs) ∈ [((90 : Addr), CO.tab 92 qsL), (64, .tab 68 qsT)] → ∃ ps, s'.heap.get? P' = some (tabObj ps) := fun c P' qs hm => by
    obtain ⟨_, ps, e, _⟩ := R.at_ _ hm
    exact ⟨ps, e⟩
  have key : ∀ b o, s₁.heap.get? b = some o → asItWas s₁.heap s'.heap b o ∧ ∃ o', s'.heap.get? b = some o' := fun b o e => by
    by_cases hb : b ∈ headTabs.map (·.2)
    · obtain ⟨q, hq, rfl⟩ := List.mem_map.mp hb
      have e2 := (hT q hq).2
      rw [e] at e2
      injection e2 with e2
      obtain ⟨ps, hps⟩ : ∃ ps, s'.heap.get? q.2 = some (tabObj ps) := by
        rcases List.mem_cons.mp hq with rfl | hq
        · exact tab' 68 64 qsT (by simp)
        · rcases List.mem_cons.mp hq with rfl | hq
          · exact tab' 92 90 qsL (by simp)
          · cases hq
      refine ⟨.inr (.inl ⟨?_, by rw [e2], #[], ps, by rw [e2], by rw [e2, hps]; simp [tabObj]⟩), _, hps⟩
      obtain ⟨oc, vs, f, tf, fl, tg, inF, tx, tt, c1, c2, c3, c4, _⟩ := (hT q hq).1
      exact ⟨q.1, oc, vs, c1, c2, c3, c4⟩
    · have := hold b o (ghost_ne e hb)
      exact ⟨.inl this, _, this⟩
  exact ⟨fun b o e => (key b o e).1, fun b o e => (key b o e).2⟩
end Mine
end

set_option maxRecDepth 100000
set_option maxHeartbeats 8000000
theorem Mine.said : OpenLaw.wellSaid PySem.Challenge.rw_ij0090_01 = true := by kernel_rfl
theorem PySem.Challenge.cw_ij0090_01_holds : PySem.Challenge.rw_ij0090_01.Holds := by
  w_on
  refine holds_law Mine.said fun said => ?_
  refine holds_open (q := Mine.headQ) (loose := Mine.headLoose) (Xt := fun s => xlAt Mine.headQ [] s && recOk [] s) (XP := XL Mine.headQ []) (Yf := Hook.obs (kmHook Mine.hd.heap_39 Mine.headAs Mine.headAs_eq [64, 90])) (Ya := Hook.val (kmHook Mine.hd.heap_39 Mine.headAs Mine.headAs_eq [64, 90])) (YP := Hook.says (kmHook Mine.hd.heap_39 Mine.headAs Mine.headAs_eq [64, 90])) (N := 3396) Mine.head_left (Hook.of (kmHook Mine.hd.heap_39 Mine.headAs Mine.headAs_eq [64, 90])) (Hook.keeps (kmHook Mine.hd.heap_39 Mine.headAs Mine.headAs_eq [64, 90]))
    (fun s e => xl_of s (Bool.and_eq_true_iff.mp e).1) XL.keeps (by rfl) (by rfl) (by rfl) (fun s e => recFacts_of (Bool.and_eq_true_iff.mp e).2) (by rfl) (by first | assumption | decide +kernel) (by decide +kernel) ⟨rfl, rfl, rfl, rfl, rfl, by decide +kernel⟩ ?hw ?hc
  case hw => w_witness2
  case hc =>
    k_fill
    intro w s₀ s₁ mg mb G Y fa o pm cd doc dV kV ho hd hcd hD hmg hg args vals as hpre hlay hrd hwl hlo
    have KX := km_in_of Y
    have hmg0 := hmg
    km_tabs Y
    have X := (Ground.X G).1
    have V := (Ground.X G).2
    refine Ground.open G ?_
    intro T B D TE TW
    try (refine guard_noD D (by decide +kernel) ?_; clear D)
    have hT9 : TabsAt ([(68, 64), (92, 90)] : List (Addr × Addr)) _ := List.forall_mem_cons.mpr ⟨⟨codeHd_of_K (c := 68) (P := 64) KX (by kernel_rfl), hT8 64 (by k_mem)⟩, List.forall_mem_cons.mpr ⟨⟨codeHd_of_K (c := 92) (P := 90) KX (by kernel_rfl), hT8 90 (by k_mem)⟩, fun _ h => nomatch h⟩⟩
    clear hmg
    wrow_args hpre hlay hrd hwl hlo
    rename_i xs hs hlay0 hL1 hr1 hl2 w4 w3 x vals w0 hL ra w1 r0 hI hr hc1 hc2
    have h93 : mg (Str.ofString "law") = some (.ref 93) := mg_of KX T.g (by kernel_rfl)
    have hfa : fa = 93 := Value.ref.inj (Option.some.inj (hmg0.symm.trans h93))
    subst hfa
    have hx : s₁.heap.get? x = some (seqObj "list" vals.toArray 0) := by
      obtain ⟨ws, hws⟩ : ∃ ws, ofPy (PyData.list (List.map PyData.int xs)) = .list ws := ⟨_, rfl⟩
      rw [hws] at w1
      obtain ⟨o', e2, c, n, d⟩ := hL
      cases w1 with
      | list e _ =>
        rw [e] at e2
        cases e2
        have d1 := (Data.seq.inj d).1
        rw [e, d1]
    have hz : xs.length ≤ 63 := by omega
    refine wpAny_mono (Mine.head_core KX T hT9 hg hx hI hz) (fun v s' h => ?_) fun _ _ e => e.elim
    obtain ⟨rfl, h1, h2, h3⟩ := h
    refine ⟨.inl ⟨.bool true, .bool true, [], rfl, fun _ => rfl, .bool true, ?_, ?_⟩, h1, h2, h3⟩
    · refine postW_of (X := true) (by rfl) ?_ rfl
      exact w_eq_bool (k := true) (l := true) (by simp [WTm.value]) (by simp [WTm.value])
    · exact fun _ => ⟨List.nodup_nil, fun a h => nomatch h⟩
