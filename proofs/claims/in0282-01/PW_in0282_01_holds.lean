import PyProof.Rows.All
import Wide.All
import OpenK.AllK
import Wide.FinOn
import Lean
import PySem.Challenge.RW_in0282_01
set_option Elab.async false
open PySem PySem.W PyProof.Rows
local macro_rules | `(tactic| walk_at $s:str) => `(tactic| k_extra $s)
local macro_rules | `(tactic| k_all) => `(tactic| k_extra "all")
local macro_rules | `(tactic| k_ne) => `(tactic| k_extra "ne")
local macro_rules | `(tactic| ktr_room) => `(tactic| k_extra "room")
local macro_rules | `(tactic| ktr_units) => `(tactic| k_extra "units")
local macro_rules | `(tactic| size_fits) => `(tactic| k_extra "size")
section
open PySem PySem.W PyProof.Rows
set_option Elab.async false
set_option maxRecDepth 100000
set_option maxHeartbeats 8000000
namespace Mine
noncomputable abbrev stm (n : Nat) : Option Stmt := PySem.Challenge.pw_in0282_01.main.body[n]?
noncomputable abbrev withF (o : Option Stmt) {n : Str} {a : Arguments} {b : List Stmt} {d : List Expr} {r : Option Expr} {tp : List TypeParam} {sc : Scope} {ts : Option Scope} {bd : Str} {p : Pos} (_ : o = some (.FunctionDef n a b d r tp sc ts bd p)) {α : Sort 1} (k : Arguments → List Stmt → Scope → α) : α := k a b sc
noncomputable def K0 (P : Params) : Frag :=
  withF (stm 2) rfl fun a2 b2 s2 =>
  withF (stm 3) rfl fun a3 b3 s3 =>
  withF (stm 4) rfl fun a4 b4 s4 =>
  withF (stm 5) rfl fun a5 b5 s5 =>
  withF (stm 6) rfl fun a6 b6 s6 =>
  withF (stm 7) rfl fun a7 b7 s7 =>
  withF (stm 10) rfl fun a10 b10 s10 =>
  withF (stm 13) rfl fun a13 b13 s13 =>
  withF (stm 15) rfl fun a15 b15 s15 =>
  withF (stm 16) rfl fun a16 b16 s16 =>
  withF (stm 18) rfl fun a18 b18 s18 =>
  withF (stm 19) rfl fun a19 b19 s19 =>
  withF (stm 22) rfl fun a22 b22 s22 =>
  withF (stm 23) rfl fun a23 b23 s23 =>
  withF (stm 24) rfl fun a24 b24 s24 =>
  withF (stm 25) rfl fun a25 b25 s25 =>
  withF (stm 26) rfl fun a26 b26 s26 =>
  withF (stm 27) rfl fun a27 b27 s27 =>
  withF (stm 28) rfl fun a28 b28 s28 =>
  withF (stm 29) rfl fun a29 b29 s29 =>
  withF (stm 30) rfl fun a30 b30 s30 =>
  withF (stm 31) rfl fun a31 b31 s31 =>
  (nat_lit 2, { cls := .none, data := .dict #[{ hash := PyData.keyHash P (Str.ofString "\x69mport.loaded._sre"), key := .str (Str.ofString "\x69mport.loaded._sre") 183, val := .bool true }, { hash := PyData.keyHash P (Str.ofString "class._frozen_importlib.BuiltinImporter"), key := .str (Str.ofString "class._frozen_importlib.BuiltinImporter") 185, val := .ref 14 }, { hash := PyData.keyHash P (Str.ofString "watched.\x69mport"), key := .str (Str.ofString "watched.\x69mport") 206, val := .ref 18 }, { hash := PyData.keyHash P (Str.ofString "class._frozen_importlib.ModuleSpec"), key := .str (Str.ofString "class._frozen_importlib.ModuleSpec") 216, val := .ref 22 }, { hash := PyData.keyHash P (Str.ofString "sys.modules.booked-epoch"), key := .str (Str.ofString "sys.modules.booked-epoch") 245, val := .int 3 0 }, { hash := PyData.keyHash P (Str.ofString "\x69mport.later-laid._sre"), key := .str (Str.ofString "\x69mport.later-laid._sre") 270, val := .bool true }, { hash := PyData.keyHash P (Str.ofString "watched.library"), key := .str (Str.ofString "watched.library") 272, val := .ref 27 }, { hash := PyData.keyHash P (Str.ofString "watched.library-objects"), key := .str (Str.ofString "watched.library-objects") 0, val := .str (Str.ofString "\x0c") 0 }, { hash := PyData.keyHash P (Str.ofString "watched.library-deep._sre"), key := .str (Str.ofString "watched.library-deep._sre") 273, val := .str (Str.ofString "\x04\x00\x00\x0b\x04\x00\x00\x0b\x04\x00\x00\x03\x04\x00\x00\x0b\x08\x04dict\x02") 0 }] 9 }) ::
  (nat_lit 3, { cls := .type "dict", data := .dict #[{ hash := PyData.keyHash P (Str.ofString "__name__"), key := .str (Str.ofString "__name__") 165, val := .str (Str.ofString "law_in0282_01") 588 }, { hash := PyData.keyHash P (Str.ofString "__doc__"), key := .str (Str.ofString "__doc__") 166, val := .none }, { hash := PyData.keyHash P (Str.ofString "__package__"), key := .str (Str.ofString "__package__") 167, val := .none }, { hash := PyData.keyHash P (Str.ofString "__loader__"), key := .str (Str.ofString "__loader__") 168, val := .builtin "__main__.__loader__#opaque" }, { hash := PyData.keyHash P (Str.ofString "__spec__"), key := .str (Str.ofString "__spec__") 169, val := .none }, { hash := PyData.keyHash P (Str.ofString "__annotations__"), key := .str (Str.ofString "__annotations__") 170, val := .ref 6 }, { hash := PyData.keyHash P (Str.ofString "__builtins__"), key := .str (Str.ofString "__builtins__") 171, val := .ref 4 }, { hash := PyData.keyHash P (Str.ofString "__file__"), key := .str (Str.ofString "__file__") 173, val := .str (Str.ofString "/claim/cut.py") 172 }, { hash := PyData.keyHash P (Str.ofString "__cached__"), key := .str (Str.ofString "__cached__") 174, val := .none }, { hash := PyData.keyHash P (Str.ofString "_sre"), key := .str (Str.ofString "_sre") 275, val := .ref 12 }, { hash := PyData.keyHash P (Str.ofString "_raise_serialization_error"), key := .str (Str.ofString "_raise_serialization_error") 290, val := .ref 38 }, { hash := PyData.keyHash P (Str.ofString "_escape_cdata"), key := .str (Str.ofString "_escape_cdata") 297, val := .ref 45 }, { hash := PyData.keyHash P (Str.ofString "_escape_attrib"), key := .str (Str.ofString "_escape_attrib") 304, val := .ref 52 }, { hash := PyData.keyHash P (Str.ofString "_escape_attrib_html"), key := .str (Str.ofString "_escape_attrib_html") 311, val := .ref 59 }, { hash := PyData.keyHash P (Str.ofString "_escape_cdata_c14n"), key := .str (Str.ofString "_escape_cdata_c14n") 318, val := .ref 66 }, { hash := PyData.keyHash P (Str.ofString "_escape_attrib_c14n"), key := .str (Str.ofString "_escape_attrib_c14n") 325, val := .ref 73 }, { hash := PyData.keyHash P (Str.ofString "_twin_re_1"), key := .str (Str.ofString "_twin_re_1") 365, val := .ref 78 }, { hash := PyData.keyHash P (Str.ofString "translate"), key := .str (Str.ofString "translate") 374, val := .ref 85 }, { hash := PyData.keyHash P (Str.ofString "_special_chars_map"), key := .str (Str.ofString "_special_chars_map") 522, val := .ref 87 }, { hash := PyData.keyHash P (Str.ofString "escape"), key := .str (Str.ofString "escape") 529, val := .ref 97 }, { hash := PyData.keyHash P (Str.ofString "_translate"), key := .str (Str.ofString "_translate") 550, val := .ref 104 }, { hash := PyData.keyHash P (Str.ofString "_join_translated_parts"), key := .str (Str.ofString "_join_translated_parts") 563, val := .ref 111 }, { hash := PyData.keyHash P (Str.ofString "sorted_list_difference"), key := .str (Str.ofString "sorted_list_difference") 579, val := .ref 118 }, { hash := PyData.keyHash P (Str.ofString "three_way_cmp"), key := .str (Str.ofString "three_way_cmp") 587, val := .ref 125 }, { hash := PyData.keyHash P (Str.ofString "_law_tables"), key := .str (Str.ofString "_law_tables") 659, val := .ref 131 }, { hash := PyData.keyHash P (Str.ofString "_law_write"), key := .str (Str.ofString "_law_write") 667, val := .ref 138 }, { hash := PyData.keyHash P (Str.ofString "_law_signs"), key := .str (Str.ofString "_law_signs") 680, val := .ref 145 }, { hash := PyData.keyHash P (Str.ofString "_law_words"), key := .str (Str.ofString "_law_words") 686, val := .ref 150 }, { hash := PyData.keyHash P (Str.ofString "_law_pages"), key := .str (Str.ofString "_law_pages") 692, val := .ref 155 }, { hash := PyData.keyHash P (Str.ofString "_law_piece"), key := .str (Str.ofString "_law_piece") 705, val := .ref 162 }, { hash := PyData.keyHash P (Str.ofString "_law_circle"), key := .str (Str.ofString "_law_circle") 711, val := .ref 167 }, { hash := PyData.keyHash P (Str.ofString "_law_left"), key := .str (Str.ofString "_law_left") 717, val := .ref 172 }, { hash := PyData.keyHash P (Str.ofString "_law_least"), key := .str (Str.ofString "_law_least") 723, val := .ref 177 }, { hash := PyData.keyHash P (Str.ofString "_law_right"), key := .str (Str.ofString "_law_right") 729, val := .ref 182 }, { hash := PyData.keyHash P (Str.ofString "law"), key := .str (Str.ofString "law") 735, val := .ref 187 }] 35 }) ::
  (nat_lit 32, { cls := .type "tuple", data := .seq #[] }) ::
  (nat_lit 34, { cls := .type "tuple", data := .seq #[.str (Str.ofString "text") 287] }) ::
  (nat_lit 35, { cls := .type "tuple", data := .seq #[] }) ::
  (nat_lit 37, { cls := .type "code", data := .fields #[.str (Str.ofString "_raise_serialization_error") 284, .str (Str.ofString "_raise_serialization_error") 285, .str (Str.ofString "/claim/cut.py") 286, .int 3 0, .int 1 0, .int 0 0, .int 0 0, .int 3 0, .ref 32, .bool true, .int 276 0, .ref 33, .none, .ref 34, .ref 35, .ref 36, .int 288 0, .int 3 0, .str (Str.ofString "/claim/cut.py") 289] }) ::
  (nat_lit 38, { cls := .type "function", data := .func { name := Str.ofString "_raise_serialization_error", qualname := Str.ofString "_raise_serialization_error", params := a2, body := FuncBody.stmts b2, scope := s2, globals := 3, closure := [], defaults := .none, kwdefaults := .none, pyModule := .str (Str.ofString "cpy313.xml.etree.ElementTree") 282, code := .ref 37 } }) ::
  (nat_lit 39, { cls := .type "tuple", data := .seq #[] }) ::
  (nat_lit 41, { cls := .type "tuple", data := .seq #[.str (Str.ofString "text") 294] }) ::
  (nat_lit 42, { cls := .type "tuple", data := .seq #[] }) ::
  (nat_lit 44, { cls := .type "code", data := .fields #[.str (Str.ofString "_escape_cdata") 291, .str (Str.ofString "_escape_cdata") 292, .str (Str.ofString "/claim/cut.py") 293, .int 5 0, .int 1 0, .int 0 0, .int 0 0, .int 3 0, .ref 39, .bool true, .int 276 0, .ref 40, .none, .ref 41, .ref 42, .ref 43, .int 295 0, .int 5 0, .str (Str.ofString "/claim/cut.py") 296] }) ::
  (nat_lit 45, { cls := .type "function", data := .func { name := Str.ofString "_escape_cdata", qualname := Str.ofString "_escape_cdata", params := a3, body := FuncBody.stmts b3, scope := s3, globals := 3, closure := [], defaults := .none, kwdefaults := .none, pyModule := .str (Str.ofString "cpy313.xml.etree.ElementTree") 282, code := .ref 44 } }) ::
  (nat_lit 46, { cls := .type "tuple", data := .seq #[] }) ::
  (nat_lit 48, { cls := .type "tuple", data := .seq #[.str (Str.ofString "text") 301] }) ::
  (nat_lit 49, { cls := .type "tuple", data := .seq #[] }) ::
  (nat_lit 51, { cls := .type "code", data := .fields #[.str (Str.ofString "_escape_attrib") 298, .str (Str.ofString "_escape_attrib") 299, .str (Str.ofString "/claim/cut.py") 300, .int 16 0, .int 1 0, .int 0 0, .int 0 0, .int 3 0, .ref 46, .bool true, .int 276 0, .ref 47, .none, .ref 48, .ref 49, .ref 50, .int 302 0, .int 16 0, .str (Str.ofString "/claim/cut.py") 303] }) ::
  (nat_lit 52, { cls := .type "function", data := .func { name := Str.ofString "_escape_attrib", qualname := Str.ofString "_escape_attrib", params := a4, body := FuncBody.stmts b4, scope := s4, globals := 3, closure := [], defaults := .none, kwdefaults := .none, pyModule := .str (Str.ofString "cpy313.xml.etree.ElementTree") 282, code := .ref 51 } }) ::
  (nat_lit 53, { cls := .type "tuple", data := .seq #[] }) ::
  (nat_lit 55, { cls := .type "tuple", data := .seq #[.str (Str.ofString "text") 308] }) ::
  (nat_lit 56, { cls := .type "tuple", data := .seq #[] }) ::
  (nat_lit 58, { cls := .type "code", data := .fields #[.str (Str.ofString "_escape_attrib_html") 305, .str (Str.ofString "_escape_attrib_html") 306, .str (Str.ofString "/claim/cut.py") 307, .int 35 0, .int 1 0, .int 0 0, .int 0 0, .int 3 0, .ref 53, .bool true, .int 276 0, .ref 54, .none, .ref 55, .ref 56, .ref 57, .int 309 0, .int 35 0, .str (Str.ofString "/claim/cut.py") 310] }) ::
  (nat_lit 59, { cls := .type "function", data := .func { name := Str.ofString "_escape_attrib_html", qualname := Str.ofString "_escape_attrib_html", params := a5, body := FuncBody.stmts b5, scope := s5, globals := 3, closure := [], defaults := .none, kwdefaults := .none, pyModule := .str (Str.ofString "cpy313.xml.etree.ElementTree") 282, code := .ref 58 } }) ::
  (nat_lit 60, { cls := .type "tuple", data := .seq #[] }) ::
  (nat_lit 62, { cls := .type "tuple", data := .seq #[.str (Str.ofString "text") 315] }) ::
  (nat_lit 63, { cls := .type "tuple", data := .seq #[] }) ::
  (nat_lit 65, { cls := .type "code", data := .fields #[.str (Str.ofString "_escape_cdata_c14n") 312, .str (Str.ofString "_escape_cdata_c14n") 313, .str (Str.ofString "/claim/cut.py") 314, .int 46 0, .int 1 0, .int 0 0, .int 0 0, .int 3 0, .ref 60, .bool true, .int 276 0, .ref 61, .none, .ref 62, .ref 63, .ref 64, .int 316 0, .int 46 0, .str (Str.ofString "/claim/cut.py") 317] }) ::
  (nat_lit 66, { cls := .type "function", data := .func { name := Str.ofString "_escape_cdata_c14n", qualname := Str.ofString "_escape_cdata_c14n", params := a6, body := FuncBody.stmts b6, scope := s6, globals := 3, closure := [], defaults := .none, kwdefaults := .none, pyModule := .str (Str.ofString "cpy313.xml.etree.ElementTree") 282, code := .ref 65 } }) ::
  (nat_lit 67, { cls := .type "tuple", data := .seq #[] }) ::
  (nat_lit 69, { cls := .type "tuple", data := .seq #[.str (Str.ofString "text") 322] }) ::
  (nat_lit 70, { cls := .type "tuple", data := .seq #[] }) ::
  (nat_lit 72, { cls := .type "code", data := .fields #[.str (Str.ofString "_escape_attrib_c14n") 319, .str (Str.ofString "_escape_attrib_c14n") 320, .str (Str.ofString "/claim/cut.py") 321, .int 59 0, .int 1 0, .int 0 0, .int 0 0, .int 3 0, .ref 67, .bool true, .int 276 0, .ref 68, .none, .ref 69, .ref 70, .ref 71, .int 323 0, .int 59 0, .str (Str.ofString "/claim/cut.py") 324] }) ::
  (nat_lit 73, { cls := .type "function", data := .func { name := Str.ofString "_escape_attrib_c14n", qualname := Str.ofString "_escape_attrib_c14n", params := a7, body := FuncBody.stmts b7, scope := s7, globals := 3, closure := [], defaults := .none, kwdefaults := .none, pyModule := .str (Str.ofString "cpy313.xml.etree.ElementTree") 282, code := .ref 72 } }) ::
  (nat_lit 77, { cls := .type "tuple", data := .seq #[.int 14 0, .int 14 0, .int 4 0, .int 1 0, .int 1 0, .int 9 0, .int 0 0, .int 64 0, .int 0 0, .int 1342177280 0, .int 0 0, .int 0 0, .int 0 0, .int 0 0, .int 0 0, .int 17 0, .int 0 0, .int 13 0, .int 11 0, .int 9 0, .int 0 0, .int 64 0, .int 0 0, .int 1342177280 0, .int 0 0, .int 0 0, .int 0 0, .int 0 0, .int 0 0, .int 17 0, .int 1 0, .int 1 0] }) ::
  (nat_lit 78, { cls := .type "re.Pattern", data := .fields #[.str (Str.ofString "([&~|])") 329, .int 32 364, .int 1 0, .none, .none, .ref 77, .int 0 0] }) ::
  (nat_lit 79, { cls := .type "tuple", data := .seq #[] }) ::
  (nat_lit 81, { cls := .type "tuple", data := .seq #[.str (Str.ofString "pat") 369, .str (Str.ofString "STAR") 370, .str (Str.ofString "parts") 371] }) ::
  (nat_lit 82, { cls := .type "tuple", data := .seq #[] }) ::
  (nat_lit 84, { cls := .type "code", data := .fields #[.str (Str.ofString "translate") 366, .str (Str.ofString "translate") 367, .str (Str.ofString "/claim/cut.py") 368, .int 78 0, .int 1 0, .int 0 0, .int 0 0, .int 3 0, .ref 79, .bool true, .int 276 0, .ref 80, .none, .ref 81, .ref 82, .ref 83, .int 372 0, .int 78 0, .str (Str.ofString "/claim/cut.py") 373] }) ::
  (nat_lit 85, { cls := .type "function", data := .func { name := Str.ofString "translate", qualname := Str.ofString "translate", params := a10, body := FuncBody.stmts b10, scope := s10, globals := 3, closure := [], defaults := .none, kwdefaults := .none, pyModule := .str (Str.ofString "cpy313.fnmatch") 326, code := .ref 84 } }) ::
  (nat_lit 87, { cls := .type "dict", data := .dict #[{ hash := 40, key := .int 40 378, val := .str (Str.ofString "\\(") 382 }, { hash := 41, key := .int 41 384, val := .str (Str.ofString "\\)") 388 }, { hash := 91, key := .int 91 390, val := .str (Str.ofString "\\[") 394 }, { hash := 93, key := .int 93 396, val := .str (Str.ofString "\\]") 400 }, { hash := 123, key := .int 123 402, val := .str (Str.ofString "\\{") 406 }, { hash := 125, key := .int 125 408, val := .str (Str.ofString "\\}") 412 }, { hash := 63, key := .int 63 414, val := .str (Str.ofString "\\?") 418 }, { hash := 42, key := .int 42 420, val := .str (Str.ofString "\\*") 424 }, { hash := 43, key := .int 43 426, val := .str (Str.ofString "\\+") 430 }, { hash := 45, key := .int 45 432, val := .str (Str.ofString "\\-") 436 }, { hash := 124, key := .int 124 438, val := .str (Str.ofString "\\|") 442 }, { hash := 94, key := .int 94 444, val := .str (Str.ofString "\\^") 448 }, { hash := 36, key := .int 36 450, val := .str (Str.ofString "\\$") 454 }, { hash := 92, key := .int 92 456, val := .str (Str.ofString "\\\\") 460 }, { hash := 46, key := .int 46 462, val := .str (Str.ofString "\\.") 466 }, { hash := 38, key := .int 38 468, val := .str (Str.ofString "\\&") 472 }, { hash := 126, key := .int 126 474, val := .str (Str.ofString "\\~") 478 }, { hash := 35, key := .int 35 480, val := .str (Str.ofString "\\#") 484 }, { hash := 32, key := .int 32 486, val := .str (Str.ofString "\\ ") 490 }, { hash := 9, key := .int 9 492, val := .str (Str.ofString "\\\t") 496 }, { hash := 10, key := .int 10 498, val := .str (Str.ofString "\\\n") 502 }, { hash := 13, key := .int 13 504, val := .str (Str.ofString "\\\x0d") 508 }, { hash := 11, key := .int 11 510, val := .str (Str.ofString "\\\x0b") 514 }, { hash := 12, key := .int 12 516, val := .str (Str.ofString "\\\x0c") 520 }] 24 }) ::
  (nat_lit 91, { cls := .type "tuple", data := .seq #[] }) ::
  (nat_lit 93, { cls := .type "tuple", data := .seq #[.str (Str.ofString "pattern") 526] }) ::
  (nat_lit 94, { cls := .type "tuple", data := .seq #[] }) ::
  (nat_lit 96, { cls := .type "code", data := .fields #[.str (Str.ofString "escape") 523, .str (Str.ofString "escape") 524, .str (Str.ofString "/claim/cut.py") 525, .int 84 0, .int 1 0, .int 0 0, .int 0 0, .int 3 0, .ref 91, .bool true, .int 276 0, .ref 92, .none, .ref 93, .ref 94, .ref 95, .int 527 0, .int 84 0, .str (Str.ofString "/claim/cut.py") 528] }) ::
  (nat_lit 97, { cls := .type "function", data := .func { name := Str.ofString "escape", qualname := Str.ofString "escape", params := a13, body := FuncBody.stmts b13, scope := s13, globals := 3, closure := [], defaults := .none, kwdefaults := .none, pyModule := .str (Str.ofString "re") 375, code := .ref 96 } }) ::
  (nat_lit 98, { cls := .type "tuple", data := .seq #[] }) ::
  (nat_lit 100, { cls := .type "tuple", data := .seq #[.str (Str.ofString "pat") 535, .str (Str.ofString "STAR") 536, .str (Str.ofString "QUESTION_MARK") 537, .str (Str.ofString "res") 538, .str (Str.ofString "add") 539, .str (Str.ofString "i") 540, .str (Str.ofString "n") 541, .str (Str.ofString "c") 542, .str (Str.ofString "j") 543, .str (Str.ofString "stuff") 544, .str (Str.ofString "chunks") 545, .str (Str.ofString "k") 546, .str (Str.ofString "chunk") 547] }) ::
  (nat_lit 101, { cls := .type "tuple", data := .seq #[] }) ::
  (nat_lit 103, { cls := .type "code", data := .fields #[.str (Str.ofString "_translate") 532, .str (Str.ofString "_translate") 533, .str (Str.ofString "/claim/cut.py") 534, .int 91 0, .int 3 0, .int 0 0, .int 0 0, .int 3 0, .ref 98, .bool true, .int 276 0, .ref 99, .none, .ref 100, .ref 101, .ref 102, .int 548 0, .int 91 0, .str (Str.ofString "/claim/cut.py") 549] }) ::
  (nat_lit 104, { cls := .type "function", data := .func { name := Str.ofString "_translate", qualname := Str.ofString "_translate", params := a15, body := FuncBody.stmts b15, scope := s15, globals := 3, closure := [], defaults := .none, kwdefaults := .none, pyModule := .str (Str.ofString "cpy313.fnmatch") 530, code := .ref 103 } }) ::
  (nat_lit 105, { cls := .type "tuple", data := .seq #[] }) ::
  (nat_lit 107, { cls := .type "tuple", data := .seq #[.str (Str.ofString "inp") 554, .str (Str.ofString "STAR") 555, .str (Str.ofString "res") 556, .str (Str.ofString "add") 557, .str (Str.ofString "i") 558, .str (Str.ofString "n") 559, .str (Str.ofString "fixed") 560] }) ::
  (nat_lit 108, { cls := .type "tuple", data := .seq #[] }) ::
  (nat_lit 110, { cls := .type "code", data := .fields #[.str (Str.ofString "_join_translated_parts") 551, .str (Str.ofString "_join_translated_parts") 552, .str (Str.ofString "/claim/cut.py") 553, .int 153 0, .int 2 0, .int 0 0, .int 0 0, .int 3 0, .ref 105, .bool true, .int 276 0, .ref 106, .none, .ref 107, .ref 108, .ref 109, .int 561 0, .int 153 0, .str (Str.ofString "/claim/cut.py") 562] }) ::
  (nat_lit 111, { cls := .type "function", data := .func { name := Str.ofString "_join_translated_parts", qualname := Str.ofString "_join_translated_parts", params := a16, body := FuncBody.stmts b16, scope := s16, globals := 3, closure := [], defaults := .none, kwdefaults := .none, pyModule := .str (Str.ofString "cpy313.fnmatch") 530, code := .ref 110 } }) ::
  (nat_lit 112, { cls := .type "tuple", data := .seq #[] }) ::
  (nat_lit 114, { cls := .type "tuple", data := .seq #[.str (Str.ofString "expected") 569, .str (Str.ofString "actual") 570, .str (Str.ofString "i") 571, .str (Str.ofString "j") 572, .str (Str.ofString "missing") 573, .str (Str.ofString "unexpected") 574, .str (Str.ofString "e") 575, .str (Str.ofString "a") 576] }) ::
  (nat_lit 115, { cls := .type "tuple", data := .seq #[] }) ::
  (nat_lit 117, { cls := .type "code", data := .fields #[.str (Str.ofString "sorted_list_difference") 566, .str (Str.ofString "sorted_list_difference") 567, .str (Str.ofString "/claim/cut.py") 568, .int 181 0, .int 2 0, .int 0 0, .int 0 0, .int 3 0, .ref 112, .bool true, .int 276 0, .ref 113, .none, .ref 114, .ref 115, .ref 116, .int 577 0, .int 181 0, .str (Str.ofString "/claim/cut.py") 578] }) ::
  (nat_lit 118, { cls := .type "function", data := .func { name := Str.ofString "sorted_list_difference", qualname := Str.ofString "sorted_list_difference", params := a18, body := FuncBody.stmts b18, scope := s18, globals := 3, closure := [], defaults := .none, kwdefaults := .none, pyModule := .str (Str.ofString "cpy313.unittest.util") 564, code := .ref 117 } }) ::
  (nat_lit 119, { cls := .type "tuple", data := .seq #[] }) ::
  (nat_lit 121, { cls := .type "tuple", data := .seq #[.str (Str.ofString "x") 583, .str (Str.ofString "y") 584] }) ::
  (nat_lit 122, { cls := .type "tuple", data := .seq #[] }) ::
  (nat_lit 124, { cls := .type "code", data := .fields #[.str (Str.ofString "three_way_cmp") 580, .str (Str.ofString "three_way_cmp") 581, .str (Str.ofString "/claim/cut.py") 582, .int 213 0, .int 2 0, .int 0 0, .int 0 0, .int 3 0, .ref 119, .bool true, .int 276 0, .ref 120, .none, .ref 121, .ref 122, .ref 123, .int 585 0, .int 213 0, .str (Str.ofString "/claim/cut.py") 586] }) ::
  (nat_lit 125, { cls := .type "function", data := .func { name := Str.ofString "three_way_cmp", qualname := Str.ofString "three_way_cmp", params := a19, body := FuncBody.stmts b19, scope := s19, globals := 3, closure := [], defaults := .none, kwdefaults := .none, pyModule := .str (Str.ofString "cpy313.unittest.util") 564, code := .ref 124 } }) ::
  (nat_lit 126, { cls := .type "dict", data := .dict #[{ hash := PyData.keyHash P (Str.ofString "&"), key := .str (Str.ofString "&") 590, val := .str (Str.ofString "&amp;") 591 }, { hash := PyData.keyHash P (Str.ofString "<"), key := .str (Str.ofString "<") 592, val := .str (Str.ofString "&lt;") 593 }, { hash := PyData.keyHash P (Str.ofString ">"), key := .str (Str.ofString ">") 594, val := .str (Str.ofString "&gt;") 595 }, { hash := PyData.keyHash P (Str.ofString "\""), key := .str (Str.ofString "\"") 596, val := .str (Str.ofString "&quot;") 597 }, { hash := PyData.keyHash P (Str.ofString "\x0d"), key := .str (Str.ofString "\x0d") 598, val := .str (Str.ofString "&#13;") 599 }, { hash := PyData.keyHash P (Str.ofString "\n"), key := .str (Str.ofString "\n") 600, val := .str (Str.ofString "&#10;") 601 }, { hash := PyData.keyHash P (Str.ofString "\t"), key := .str (Str.ofString "\t") 602, val := .str (Str.ofString "&#09;") 603 }] 7 }) ::
  (nat_lit 127, { cls := .type "dict", data := .dict #[{ hash := PyData.keyHash P (Str.ofString "&"), key := .str (Str.ofString "&") 611, val := .str (Str.ofString "&amp;") 612 }, { hash := PyData.keyHash P (Str.ofString ">"), key := .str (Str.ofString ">") 613, val := .str (Str.ofString "&gt;") 614 }, { hash := PyData.keyHash P (Str.ofString "\""), key := .str (Str.ofString "\"") 615, val := .str (Str.ofString "&quot;") 616 }] 3 }) ::
  (nat_lit 128, { cls := .type "dict", data := .dict #[{ hash := PyData.keyHash P (Str.ofString "&"), key := .str (Str.ofString "&") 620, val := .str (Str.ofString "&amp;") 621 }, { hash := PyData.keyHash P (Str.ofString "<"), key := .str (Str.ofString "<") 622, val := .str (Str.ofString "&lt;") 623 }, { hash := PyData.keyHash P (Str.ofString ">"), key := .str (Str.ofString ">") 624, val := .str (Str.ofString "&gt;") 625 }] 3 }) ::
  (nat_lit 129, { cls := .type "dict", data := .dict #[{ hash := PyData.keyHash P (Str.ofString "&"), key := .str (Str.ofString "&") 629, val := .str (Str.ofString "&amp;") 630 }, { hash := PyData.keyHash P (Str.ofString "<"), key := .str (Str.ofString "<") 631, val := .str (Str.ofString "&lt;") 632 }, { hash := PyData.keyHash P (Str.ofString ">"), key := .str (Str.ofString ">") 633, val := .str (Str.ofString "&gt;") 634 }, { hash := PyData.keyHash P (Str.ofString "\x0d"), key := .str (Str.ofString "\x0d") 635, val := .str (Str.ofString "&#xD;") 636 }] 4 }) ::
  (nat_lit 130, { cls := .type "dict", data := .dict #[{ hash := PyData.keyHash P (Str.ofString "&"), key := .str (Str.ofString "&") 641, val := .str (Str.ofString "&amp;") 642 }, { hash := PyData.keyHash P (Str.ofString "<"), key := .str (Str.ofString "<") 643, val := .str (Str.ofString "&lt;") 644 }, { hash := PyData.keyHash P (Str.ofString "\""), key := .str (Str.ofString "\"") 645, val := .str (Str.ofString "&quot;") 646 }, { hash := PyData.keyHash P (Str.ofString "\t"), key := .str (Str.ofString "\t") 647, val := .str (Str.ofString "&#x9;") 648 }, { hash := PyData.keyHash P (Str.ofString "\n"), key := .str (Str.ofString "\n") 649, val := .str (Str.ofString "&#xA;") 650 }, { hash := PyData.keyHash P (Str.ofString "\x0d"), key := .str (Str.ofString "\x0d") 651, val := .str (Str.ofString "&#xD;") 652 }] 6 }) ::
  (nat_lit 131, { cls := .type "tuple", data := .seq #[.ref 126, .ref 127, .ref 128, .ref 129, .ref 130] }) ::
  (nat_lit 132, { cls := .type "tuple", data := .seq #[] }) ::
  (nat_lit 134, { cls := .type "tuple", data := .seq #[.str (Str.ofString "way") 663, .str (Str.ofString "text") 664] }) ::
  (nat_lit 135, { cls := .type "tuple", data := .seq #[] }) ::
  (nat_lit 137, { cls := .type "code", data := .fields #[.str (Str.ofString "_law_write") 660, .str (Str.ofString "_law_write") 661, .str (Str.ofString "/claim/cut.py") 662, .int 217 0, .int 2 0, .int 0 0, .int 0 0, .int 3 0, .ref 132, .bool true, .int 276 0, .ref 133, .none, .ref 134, .ref 135, .ref 136, .int 665 0, .int 217 0, .str (Str.ofString "/claim/cut.py") 666] }) ::
  (nat_lit 138, { cls := .type "function", data := .func { name := Str.ofString "_law_write", qualname := Str.ofString "_law_write", params := a22, body := FuncBody.stmts b22, scope := s22, globals := 3, closure := [], defaults := .none, kwdefaults := .none, pyModule := .str (Str.ofString "law_in0282_01") 588, code := .ref 137 } }) ::
  (nat_lit 139, { cls := .type "tuple", data := .seq #[] }) ::
  (nat_lit 141, { cls := .type "tuple", data := .seq #[.str (Str.ofString "left") 671, .str (Str.ofString "free") 672, .str (Str.ofString "many") 673, .str (Str.ofString "pool") 674, .str (Str.ofString "sign") 675, .str (Str.ofString "signs") 676, .str (Str.ofString "k") 677] }) ::
  (nat_lit 142, { cls := .type "tuple", data := .seq #[] }) ::
  (nat_lit 144, { cls := .type "code", data := .fields #[.str (Str.ofString "_law_signs") 668, .str (Str.ofString "_law_signs") 669, .str (Str.ofString "/claim/cut.py") 670, .int 227 0, .int 3 0, .int 0 0, .int 0 0, .int 3 0, .ref 139, .bool true, .int 276 0, .ref 140, .none, .ref 141, .ref 142, .ref 143, .int 678 0, .int 227 0, .str (Str.ofString "/claim/cut.py") 679] }) ::
  (nat_lit 145, { cls := .type "function", data := .func { name := Str.ofString "_law_signs", qualname := Str.ofString "_law_signs", params := a23, body := FuncBody.stmts b23, scope := s23, globals := 3, closure := [], defaults := .none, kwdefaults := .none, pyModule := .str (Str.ofString "law_in0282_01") 588, code := .ref 144 } }) ::
  (nat_lit 146, { cls := .type "tuple", data := .seq #[] }) ::
  (nat_lit 149, { cls := .type "code", data := .fields #[.str (Str.ofString "_law_words") 681, .str (Str.ofString "_law_words") 682, .str (Str.ofString "/claim/cut.py") 683, .int 237 0, .int 2 0, .int 0 0, .int 0 0, .int 3 0, .ref 146, .bool true, .int 276 0, .ref 147, .none, .none, .none, .ref 148, .int 684 0, .int 237 0, .str (Str.ofString "/claim/cut.py") 685] }) ::
  (nat_lit 150, { cls := .type "function", data := .func { name := Str.ofString "_law_words", qualname := Str.ofString "_law_words", params := a24, body := FuncBody.stmts b24, scope := s24, globals := 3, closure := [], defaults := .none, kwdefaults := .none, pyModule := .str (Str.ofString "law_in0282_01") 588, code := .ref 149 } }) ::
  (nat_lit 151, { cls := .type "tuple", data := .seq #[] }) ::
  (nat_lit 154, { cls := .type "code", data := .fields #[.str (Str.ofString "_law_pages") 687, .str (Str.ofString "_law_pages") 688, .str (Str.ofString "/claim/cut.py") 689, .int 242 0, .int 1 0, .int 0 0, .int 0 0, .int 3 0, .ref 151, .bool true, .int 276 0, .ref 152, .none, .none, .none, .ref 153, .int 690 0, .int 242 0, .str (Str.ofString "/claim/cut.py") 691] }) ::
  (nat_lit 155, { cls := .type "function", data := .func { name := Str.ofString "_law_pages", qualname := Str.ofString "_law_pages", params := a25, body := FuncBody.stmts b25, scope := s25, globals := 3, closure := [], defaults := .none, kwdefaults := .none, pyModule := .str (Str.ofString "law_in0282_01") 588, code := .ref 154 } }) ::
  (nat_lit 156, { cls := .type "tuple", data := .seq #[] }) ::
  (nat_lit 158, { cls := .type "tuple", data := .seq #[.str (Str.ofString "text") 696, .str (Str.ofString "head") 697, .str (Str.ofString "tail") 698, .str (Str.ofString "piece") 699, .str (Str.ofString "at") 700, .str (Str.ofString "end") 701, .str (Str.ofString "shut") 702] }) ::
  (nat_lit 159, { cls := .type "tuple", data := .seq #[] }) ::
  (nat_lit 161, { cls := .type "code", data := .fields #[.str (Str.ofString "_law_piece") 693, .str (Str.ofString "_law_piece") 694, .str (Str.ofString "/claim/cut.py") 695, .int 251 0, .int 1 0, .int 0 0, .int 0 0, .int 3 0, .ref 156, .bool true, .int 276 0, .ref 157, .none, .ref 158, .ref 159, .ref 160, .int 703 0, .int 251 0, .str (Str.ofString "/claim/cut.py") 704] }) ::
  (nat_lit 162, { cls := .type "function", data := .func { name := Str.ofString "_law_piece", qualname := Str.ofString "_law_piece", params := a26, body := FuncBody.stmts b26, scope := s26, globals := 3, closure := [], defaults := .none, kwdefaults := .none, pyModule := .str (Str.ofString "law_in0282_01") 588, code := .ref 161 } }) ::
  (nat_lit 163, { cls := .type "tuple", data := .seq #[] }) ::
  (nat_lit 166, { cls := .type "code", data := .fields #[.str (Str.ofString "_law_circle") 706, .str (Str.ofString "_law_circle") 707, .str (Str.ofString "/claim/cut.py") 708, .int 271 0, .int 3 0, .int 0 0, .int 0 0, .int 3 0, .ref 163, .bool true, .int 276 0, .ref 164, .none, .none, .none, .ref 165, .int 709 0, .int 271 0, .str (Str.ofString "/claim/cut.py") 710] }) ::
  (nat_lit 167, { cls := .type "function", data := .func { name := Str.ofString "_law_circle", qualname := Str.ofString "_law_circle", params := a27, body := FuncBody.stmts b27, scope := s27, globals := 3, closure := [], defaults := .none, kwdefaults := .none, pyModule := .str (Str.ofString "law_in0282_01") 588, code := .ref 166 } }) ::
  (nat_lit 168, { cls := .type "tuple", data := .seq #[] }) ::
  (nat_lit 171, { cls := .type "code", data := .fields #[.str (Str.ofString "_law_left") 712, .str (Str.ofString "_law_left") 713, .str (Str.ofString "/claim/cut.py") 714, .int 278 0, .int 2 0, .int 0 0, .int 0 0, .int 3 0, .ref 168, .bool true, .int 276 0, .ref 169, .none, .none, .none, .ref 170, .int 715 0, .int 278 0, .str (Str.ofString "/claim/cut.py") 716] }) ::
  (nat_lit 172, { cls := .type "function", data := .func { name := Str.ofString "_law_left", qualname := Str.ofString "_law_left", params := a28, body := FuncBody.stmts b28, scope := s28, globals := 3, closure := [], defaults := .none, kwdefaults := .none, pyModule := .str (Str.ofString "law_in0282_01") 588, code := .ref 171 } }) ::
  (nat_lit 173, { cls := .type "tuple", data := .seq #[] }) ::
  (nat_lit 176, { cls := .type "code", data := .fields #[.str (Str.ofString "_law_least") 718, .str (Str.ofString "_law_least") 719, .str (Str.ofString "/claim/cut.py") 720, .int 287 0, .int 2 0, .int 0 0, .int 0 0, .int 3 0, .ref 173, .bool true, .int 276 0, .ref 174, .none, .none, .none, .ref 175, .int 721 0, .int 287 0, .str (Str.ofString "/claim/cut.py") 722] }) ::
  (nat_lit 177, { cls := .type "function", data := .func { name := Str.ofString "_law_least", qualname := Str.ofString "_law_least", params := a29, body := FuncBody.stmts b29, scope := s29, globals := 3, closure := [], defaults := .none, kwdefaults := .none, pyModule := .str (Str.ofString "law_in0282_01") 588, code := .ref 176 } }) ::
  (nat_lit 178, { cls := .type "tuple", data := .seq #[] }) ::
  (nat_lit 181, { cls := .type "code", data := .fields #[.str (Str.ofString "_law_right") 724, .str (Str.ofString "_law_right") 725, .str (Str.ofString "/claim/cut.py") 726, .int 293 0, .int 3 0, .int 0 0, .int 0 0, .int 3 0, .ref 178, .bool true, .int 276 0, .ref 179, .none, .none, .none, .ref 180, .int 727 0, .int 293 0, .str (Str.ofString "/claim/cut.py") 728] }) ::
  (nat_lit 182, { cls := .type "function", data := .func { name := Str.ofString "_law_right", qualname := Str.ofString "_law_right", params := a30, body := FuncBody.stmts b30, scope := s30, globals := 3, closure := [], defaults := .none, kwdefaults := .none, pyModule := .str (Str.ofString "law_in0282_01") 588, code := .ref 181 } }) ::
  (nat_lit 183, { cls := .type "tuple", data := .seq #[] }) ::
  (nat_lit 186, { cls := .type "code", data := .fields #[.str (Str.ofString "law") 730, .str (Str.ofString "law") 731, .str (Str.ofString "/claim/cut.py") 732, .int 313 0, .int 1 0, .int 0 0, .int 0 0, .int 3 0, .ref 183, .bool true, .int 276 0, .ref 184, .none, .none, .none, .ref 185, .int 733 0, .int 313 0, .str (Str.ofString "/claim/cut.py") 734] }) ::
  (nat_lit 187, { cls := .type "function", data := .func { name := Str.ofString "law", qualname := Str.ofString "law", params := a31, body := FuncBody.stmts b31, scope := s31, globals := 3, closure := [], defaults := .none, kwdefaults := .none, pyModule := .str (Str.ofString "law_in0282_01") 588, code := .ref 186 } }) :: []
noncomputable def heap : Params → Frag := fun P => by
  refine (fun (k : Frag) (_ : K0 P = k) => k) ?K ?h
  case h =>
    conv => lhs; whnf
noncomputable abbrev withS (o : Option Stmt) {s : Stmt} (_ : o = some s) {α : Sort 1} (k : Stmt → α) : α := k s
noncomputable def Q0 : Program :=
  withS (stm 0) rfl fun s0 => withS (stm 2) rfl fun s2 => withS (stm 3) rfl fun s3 => withS (stm 4) rfl fun s4 => withS (stm 5) rfl fun s5 => withS (stm 6) rfl fun s6 => withS (stm 7) rfl fun s7 =>
  withS (stm 9) rfl fun s9 => withS (stm 10) rfl fun s10 => withS (stm 12) rfl fun s12 => withS (stm 13) rfl fun s13 => withS (stm 15) rfl fun s15 => withS (stm 16) rfl fun s16 => withS (stm 18) rfl fun s18 =>
  withS (stm 19) rfl fun s19 => withS (stm 21) rfl fun s21 => withS (stm 22) rfl fun s22 => withS (stm 23) rfl fun s23 => withS (stm 24) rfl fun s24 => withS (stm 25) rfl fun s25 => withS (stm 26) rfl fun s26 =>
  withS (stm 27) rfl fun s27 => withS (stm 28) rfl fun s28 => withS (stm 29) rfl fun s29 => withS (stm 30) rfl fun s30 => withS (stm 31) rfl fun s31 =>
  { PySem.Challenge.pw_in0282_01 with main := { PySem.Challenge.pw_in0282_01.main with body := [s0, s2, s3, s4, s5, s6, s7, s9, s10, s12, s13, s15, s16, s18, s19, s21, s22, s23, s24, s25, s26, s27, s28, s29, s30, s31] } }
noncomputable def seen : Program := by
  refine (fun (k : Program) (_ : Q0 = k) => k) ?Q ?h
  case h =>
    conv => lhs; whnf
noncomputable abbrev loose : List Str := [Str.ofString "_twin_re_1", Str.ofString "_special_chars_map", Str.ofString "_law_tables"]
noncomputable abbrev adrs : List Addr := [2, 3, 32, 34, 35, 37, 38, 39, 41, 42, 44, 45, 46, 48, 49, 51, 52, 53, 55, 56, 58, 59, 60, 62, 63, 65, 66, 67,
          69, 70, 72, 73, 77, 78, 79, 81, 82, 84, 85, 87, 91, 93, 94, 96, 97, 98, 100, 101, 103, 104, 105, 107, 108,
          110, 111, 112, 114, 115, 117, 118, 119, 121, 122, 124, 125, 126, 127, 128, 129, 130, 131, 132, 134, 135, 137,
          138, 139, 141, 142, 144, 145, 146, 149, 150, 151, 154, 155, 156, 158, 159, 161, 162, 163, 166, 167, 168, 171,
          172, 173, 176, 177, 178, 181, 182, 183, 186, 187]
theorem adrs_are : ∀ P, adrs = (heap P).map (·.1) := fun _ => by kernel_rfl
noncomputable abbrev hook : Hook := kmHook heap adrs adrs_are [99]
noncomputable def tests (s : Shared) : Bool := xlAt seen [] s && recOk (RowW.records PySem.Challenge.rw_in0282_01.row.toRowW) s
noncomputable abbrev pw := PySem.Challenge.pw_in0282_01
noncomputable abbrev way (a b : Bool) (w : World) : World := (w.withFollow "special-get-raises" b).withFollow "comprehension-iter-twice" a
abbrev Left (w : World) : Prop := (((Fast.tw10274390034422433532 Fast.tw14364793385576792824 (opening pw) w 4946 (Fast.tw1435165496053646825 (opening pw)).1 (Fast.tw1435165496053646825 (opening pw)).2).bind (Fast.tw14289696077712309145 pw)).bind fun s₀ =>
    match s₀.heap.isNs mainGlobals && s₀.gens.size == 0 with
    | true => (Fast.tw14082659384304107361 Fast.tw14364793385576792824 pw w s₀.heap.objs.size (s₀.heap.nsMap mainGlobals "__annotations__") 4946 s₀ (topStub pw)).bind fun s₁ =>
        match staticsOk (importedModules pw.main.body) s₀.heap s₁.heap && namesBound pw s₁.heap && gensDone s₁ && laidKept s₀.heap s₁.heap with
      | true => some s₁
      | false => none
    | false => none).map (fun s => (Fast.tw4187177175401517315 seen loose (importedModules pw.main.body) tests true s, Hook.obs hook s)) = some (openGood seen loose, Hook.val hook w)
theorem left00 (w : World) : Left (way false false w) := by kernel_rfl
theorem left01 (w : World) : Left (way false true w) := by kernel_rfl
theorem left10 (w : World) : Left (way true false w) := by kernel_rfl
theorem left11 (w : World) : Left (way true true w) := by kernel_rfl
theorem left_of (h : ∀ w, Left w) : LeftO PySem.Challenge.rw_in0282_01.row.toRowW.prog seen loose tests (Hook.obs hook) (Hook.val hook) 4946 := by
  intro w
  have h := h w
  unfold openEnds fencedOpening topFrom
  rw [Fast.te10274390034422433532, Fast.te14364793385576792824, Fast.te1435165496053646825, Fast.te14289696077712309145, Fast.te14082659384304107361, Fast.te4187177175401517315]
  exact h
theorem ways (h : ∀ (a b : Bool) (w : World), Left (way a b w)) (w : World) : Left w :=
  byRow2 "comprehension-iter-twice" (fun w => byRow2 (P := fun w => Left (w.withFollow "comprehension-iter-twice" false)) "special-get-raises" (h false false) (h false true) w)
    (fun w => byRow2 (P := fun w => Left (w.withFollow "comprehension-iter-twice" true)) "special-get-raises" (h true false) (h true true) w) w
theorem hd0 (said : OpenLaw.wellSaid PySem.Challenge.rw_in0282_01 = true) (left : LeftO PySem.Challenge.rw_in0282_01.row.toRowW.prog seen loose tests (Hook.obs hook) (Hook.val hook) 4946) {d : DefRec} {kwd : List (Str × Expr)} (hdef : defOf seen PySem.Challenge.rw_in0282_01.row.name = some (d, kwd))
   (hp : PySem.Challenge.rw_in0282_01.row.prog.theDef PySem.Challenge.rw_in0282_01.row.name = some (d.params, d.body, d.scope)) (hk : kwWritten? d.params.kwonlyargs d.params.kw_defaults = some kwd)
   (walk : WalkO seen loose (XL seen []) hook.says PySem.Challenge.rw_in0282_01.row.toRowW d kwd fun f vs => PySem.call f vs) : PySem.Challenge.rw_in0282_01.Holds := by
  refine holds_law said fun said => ?_
  refine holds_open (q := seen) (loose := loose) (Xt := tests) (XP := XL seen []) (Yf := Hook.obs hook) (Ya := Hook.val hook) (YP := Hook.says hook) (N := 4946) left (Hook.of hook) (Hook.keeps hook) (fun s e => xl_of s (Bool.and_eq_true_iff.mp e).1) XL.keeps
    hdef hp hk (fun s e => recFacts_of (Bool.and_eq_true_iff.mp e).2) (by rfl) said (by decide +kernel) ⟨rfl, rfl, rfl, rfl, rfl, by decide +kernel⟩ ?hw walk
  case hw => w_witness2
theorem said : OpenLaw.wellSaid PySem.Challenge.rw_in0282_01 = true := by
  rw [Fast.te9446332074065402090]
  kernel_rfl
theorem left : LeftO PySem.Challenge.rw_in0282_01.row.toRowW.prog seen loose tests (Hook.obs hook) (Hook.val hook) 4946 :=
  left_of (ways fun a b w => match a, b with
    | false, false => left00 w
    | false, true => left01 w
    | true, false => left10 w
    | true, true => left11 w)
end Mine
end
theorem Mine.walk_off_HD : True := by
  w_top off
  k_with_none
  trivial
section
open PySem PySem.W PyProof.Rows PySem.Calls PySem.Spec
set_option Elab.async false
set_option maxRecDepth 100000
set_option maxHeartbeats 8000000
namespace Mine

/-- what stood in g stands in h -/
noncomputable def Stays (g h : Heap) : Prop := ∀ b o, g.get? b = some o → h.get? b = some o
theorem Stays.refl (g : Heap) : Stays g g := fun _ _ e => e
theorem Stays.trans {a b c : Heap} (x : Stays a b) (y : Stays b c) : Stays a c := fun p o e => y p o (x p o e)

/-- a called def comes back: its own frame over the heap g that the call found -/
noncomputable def LeaveM (h₀ : Heap) (L : Addr) (m : Str → Option Value) (g : Heap) (R : Result → Shared → Prop) (v : Value) (s' : Shared) : Prop :=
  ∃ L' m' news', Fr g L' s'.heap m' ∧ News g L' s'.heap news' ∧ (Fr h₀ L s'.heap m → Stays g s'.heap → News h₀ L s'.heap news' → (∀ p ∈ news', g.get? p.1 = none) → R (.ok (.ret v)) s')
theorem leaveM_ {h₀ g : Heap} {L L' : Addr} {m m' : Str → Option Value} {news' : List (Addr × Obj)} {R : Result → Shared → Prop} {v : Value} {s' : Shared} (F' : Fr g L' s'.heap m') (N' : News g L' s'.heap news')
    (k : Fr h₀ L s'.heap m → Stays g s'.heap → News h₀ L s'.heap news' → (∀ p ∈ news', g.get? p.1 = none) → R (.ok (.ret v)) s') : LeaveM h₀ L m g R v s' := ⟨L', m', news', F', N', k⟩

theorem leaveM_out {h₀ g : Heap} {L : Addr} {m : Str → Option Value} {R : Result → Shared → Prop} {v : Value} {s' : Shared} (F : Fr h₀ L g m) (h : LeaveM h₀ L m g R v s') : R (.ok (.ret v)) s' := by
  obtain ⟨L', m', news', F', N', k⟩ := h
  obtain ⟨oL, es, ep, hL, r⟩ := F.ns
  refine k ⟨⟨oL, es, ep, F'.keep L oL hL, r⟩, fun b o e => F'.keep b o (F.keep b o e), F.above⟩ F'.keep (fun p hp => ⟨(N' p hp).1, fun q => ?_, ?_⟩) fun p hp => (N' p hp).2.2
  · have := (N' p hp).2.2; rw [q, hL] at this; cases this
  · cases q : h₀.get? p.1 with
    | none => rfl
    | some o => have := (N' p hp).2.2; rw [F.keep _ _ q] at this; cases this

section
variable {prog : Program} {w : World} {A A₀ : Around} {s : Shared} {K : Frag} {L : Addr} {h₀ base : Heap} {m mg mb : Str → Option Value} {p : Program} {loose : List Str} {mean : ExcName → Option Value}
  {env : Env} {outer : List Env} {R : Result → Shared → Prop} {name qual : Str} {params : Arguments} {body : List Stmt} {scope : Scope} {dV kV doc pm cdv ct oc : Value} {an od : Option Addr} {osl : Array (Option Value)} {f : Addr} {args : Args} {binds : List (Str × Value)}

/-- entering a def without cells; all that stands at the call is its ground -/
theorem enterP (B : Below A₀ base outer h₀) (F : Fr h₀ L s.heap m) (X₀ : K.In h₀) (T : Top p loose mean mg mb h₀) (hA : A.frames = some (env :: outer)) (hf : env.frame = some L) (hke : env.scope.kind = .function)
    (ho : K.lookup f = some ⟨oc, od, .func (fnOf name qual params body scope dV kV doc pm an cdv ct), osl⟩) (hcd : codeIn K cdv qual = true) (hroom : A.depth < recursionLimit)
    (hbind : BindsTo s (fnOf name qual params body scope dV kV doc pm an cdv ct) args binds) (hloc : ∀ y ∈ binds, scope.names.lookup y.1 = some .local)
    (h : ∀ L' h₁, Fr s.heap L' h₁ (fun y => binds.reverse.lookup y) → News s.heap L' h₁ [] → Below A base (env :: outer) s.heap → K.In s.heap → Top p loose mean mg mb s.heap →
      wpAny (model prog w) (A.deeper (envOf qual scope L' f cdv)) (execs body (envOf qual scope L' f cdv))
        (fun fl s' => LeaveM h₀ L m s.heap R (match fl with | .ret v => v | _ => .none) s')
        (fun e s' => wpAny (model prog w) (A.deeper (envOf qual scope L' f cdv)) (leaving (envOf qual scope L' f cdv) e) (fun _ s'' => R (.error e) s'') (fun e' s'' => R (.error e') s'') s')
        { s with heap := h₁, toks := s.toks + binds.length })
    (hco : scope.isCoroutine = false) (hgen : scope.isGenerator = false) (hk : scope.kind = .function)
    (hcell : ∀ x ∈ scope.names, x.2 ≠ .cell) : codeAny (model prog w) A (.call (.ref f) args) R s := by
  have B₁ := pushX B F hf hke
  refine codeAny_call_def (fd := fnOf name qual params body scope dV kV doc pm an cdv ct) (body := body) (binds := binds) hroom ((X₀.keeps F.keep) _ _ ho) rfl (T.nolimit.keeps F.keep) (codeRec_of (X₀.keeps F.keep) hcd) rfl hbind hcell hloc (fun h₁ hns hk₁ => ?_) hco hgen hk
  refine wpAny_mono (h s.heap.objs.size h₁ ⟨hns, hk₁, Nat.le_refl _⟩ News.nil ⟨hA, B₁.stays, B₁.frames⟩ (X₀.keeps F.keep) (T.keeps F.keep)) (fun fl s' hl => ?_) fun _ _ y => y
  exact leaveM_out F hl

/-- entering a def with cells -/
theorem enterC (B : Below A₀ base outer h₀) (F : Fr h₀ L s.heap m) (X₀ : K.In h₀) (T : Top p loose mean mg mb h₀) (hA : A.frames = some (env :: outer)) (hf : env.frame = some L) (hke : env.scope.kind = .function)
    (ho : K.lookup f = some ⟨oc, od, .func (fnOf name qual params body scope dV kV doc pm an cdv ct), osl⟩) (hcd : codeIn K cdv qual = true) (hroom : A.depth < recursionLimit)
    (hbind : BindsTo s (fnOf name qual params body scope dV kV doc pm an cdv ct) args binds) (hkind : (binds.all fun y => scope.names.lookup y.1 == some .local || scope.names.lookup y.1 == some .cell) = true)
    (hnd : ((cellsFrom 0 scope.names []).map (·.1)).Nodup)
    (h : ∀ L' h₁ tk cells, Fr s.heap L' h₁ (bindL (envOfC qual scope L' f cdv).kindOf binds fun _ => none) → News s.heap L' h₁ cells →
      CellsAre (bindC (envOfC qual scope L' f cdv).kindOf binds fun _ => none) (cellsFrom (L' + 1) scope.names []) cells → Below A base (env :: outer) s.heap → K.In s.heap → Top p loose mean mg mb s.heap →
      wpAny (model prog w) (A.deeper (envOfC qual scope L' f cdv)) (execs body (envOfC qual scope L' f cdv))
        (fun fl s' => LeaveM h₀ L m s.heap R (match fl with | .ret v => v | _ => .none) s')
        (fun e s' => wpAny (model prog w) (A.deeper (envOfC qual scope L' f cdv)) (leaving (envOfC qual scope L' f cdv) e) (fun _ s'' => R (.error e) s'') (fun e' s'' => R (.error e') s'') s')
        { s with heap := h₁, toks := tk })
    (hco : scope.isCoroutine = false) (hgen : scope.isGenerator = false) (hk : scope.kind = .function) : codeAny (model prog w) A (.call (.ref f) args) R s := by
  have B₁ := pushX B F hf hke
  have hlim := T.nolimit
  refine codeAny_call_function hroom ((X₀.keeps F.keep) _ _ ho) rfl hco hgen rfl (codeRec_of (X₀.keeps F.keep) hcd) (hbind _ _ _ _ ?_)
  refine wpAny_newFunctionEnv_cells hk (kindsX hkind _) fun env' he s' x => ?_
  subst he
  refine ⟨(hlim.keeps F.keep).keeps x.toInCall.keep, codeAny_func ?_⟩
  obtain ⟨h₁, tk, rfl, _⟩ := x.done
  have hk₁ := x.toInCall.keep
  obtain ⟨cells, NC, Y⟩ := Cl.news (h₀ := s.heap) (Nat.le_refl _) fun n c hm => ⟨x.cell n c (lookup_of_mem_nodup (cellsFrom_names scope.names 0 (s.heap.objs.size + 1) [] [] rfl ▸ hnd) hm), x.above n c hm⟩
  refine wpAny_mono (h s.heap.objs.size h₁ tk cells ⟨x.toInCall.ns, hk₁, Nat.le_refl _⟩ NC Y ⟨hA, B₁.stays, B₁.frames⟩ (X₀.keeps F.keep) (T.keeps F.keep)) (fun fl s' hl => ?_) fun _ _ y => y
  exact leaveM_out F hl
end

/-- the contract of a def: called with args, under need of the heap, it hands back a value with the objects own of its own; nothing that stood before is changed -/
noncomputable def Tell (w : World) (f : Addr) (k u : Nat) (args : List Value) (need : Heap → Prop) (R : Value → List (Addr × Obj) → Prop) : Prop :=
  ∀ (p : Program) (loose : List Str) (mean : ExcName → Option Value) (mg mb : Str → Option Value) (dp un : Nat) (gd : Option (List Code)) (cn : Str) (cs : Scope) (a : Addr) (ccd : Value) (cl : List (Str × Addr)) (outer : List Env) (A₀ : Around) (base h₀ : Heap) (L : Addr) (m : Str → Option Value) (s : Shared) (Q E : Value → Shared → Prop),
    (Mine.heap w.params).In h₀ → Below A₀ base outer h₀ → Fr h₀ L s.heap m → Top p loose mean mg mb h₀ → cs.kind = .function → dp + k < recursionLimit → un + u < cLine → 0 < s.toks → need s.heap →
    (∀ v own h' tk', Fr h₀ L h' m → Stays s.heap h' → News h₀ L h' own → (∀ q ∈ own, s.heap.get? q.1 = none) → 0 < tk' → R v own → Q v { s with heap := h', toks := tk' }) →
    wpAny (model PySem.Challenge.rw_in0282_01.row.prog w) (ktrTop dp un gd cn cs L a ccd cl outer) (call (.ref f) args) Q E s

/-- the same, the positive count of tokens at the end for nothing -/
theorem Tell.of {w : World} {f : Addr} {k u : Nat} {args : List Value} {need : Heap → Prop} {R : Value → List (Addr × Obj) → Prop}
    (h : ∀ (p : Program) (loose : List Str) (mean : ExcName → Option Value) (mg mb : Str → Option Value) (dp un : Nat) (gd : Option (List Code)) (cn : Str) (cs : Scope) (a : Addr) (ccd : Value) (cl : List (Str × Addr)) (outer : List Env) (A₀ : Around) (base h₀ : Heap) (L : Addr) (m : Str → Option Value) (s : Shared) (Q E : Value → Shared → Prop),
      (Mine.heap w.params).In h₀ → Below A₀ base outer h₀ → Fr h₀ L s.heap m → Top p loose mean mg mb h₀ → cs.kind = .function → dp + k < recursionLimit → un + u < cLine → 0 < s.toks → need s.heap →
      (∀ v own h' tk', Fr h₀ L h' m → Stays s.heap h' → News h₀ L h' own → (∀ q ∈ own, s.heap.get? q.1 = none) → R v own → Q v { s with heap := h', toks := tk' }) →
      wpAny (model PySem.Challenge.rw_in0282_01.row.prog w) (ktrTop dp un gd cn cs L a ccd cl outer) (call (.ref f) args) Q E s) : Tell w f k u args need R := by
  intro p loose mean mg mb dp un gd cn cs a ccd cl outer A₀ base h₀ L m s Q E X B F T hk hd hu ht hn hret
  refine wpAny_mono (wpAny_toks_of (n := 1) ht (h p loose mean mg mb dp un gd cn cs a ccd cl outer A₀ base h₀ L m s (fun v s' => 1 ≤ s'.toks → Q v s') E X B F T hk hd hu ht hn fun v own h' tk' F' st N' fr r ht' => hret v own h' tk' F' st N' fr ht' r)) (fun v s' q => q.2 q.1) fun _ _ q => q.2

/-- a contract met at a call: the callee's objects come ahead of the ledger -/
theorem Tell.use {w : World} {f : Addr} {k u : Nat} {args : List Value} {need : Heap → Prop} {R : Value → List (Addr × Obj) → Prop} (C : Tell w f k u args need R)
    {p : Program} {loose : List Str} {mean : ExcName → Option Value} {mg mb : Str → Option Value} {dp un : Nat} {gd : Option (List Code)} {cn : Str} {cs : Scope} {a : Addr} {ccd : Value} {cl : List (Str × Addr)} {outer : List Env} {A₀ : Around} {base h₀ : Heap} {L : Addr} {m : Str → Option Value} {news : List (Addr × Obj)} {s : Shared} {Q E : Value → Shared → Prop}
    (X : (Mine.heap w.params).In h₀) (B : Below A₀ base outer h₀) (F : Fr h₀ L s.heap m) (N : News h₀ L s.heap news) (T : Top p loose mean mg mb h₀) (hk : cs.kind = .function) (hd : dp + k < recursionLimit) (hu : un + u < cLine) (ht : 0 < s.toks) (hn : need s.heap)
    (hret : ∀ v own h' tk', Fr h₀ L h' m → News h₀ L h' (own ++ news) → (∀ q ∈ own, ∀ q' ∈ news, q'.1 ≠ q.1) → 0 < tk' → R v own → Q v { s with heap := h', toks := tk' }) :
    wpAny (model PySem.Challenge.rw_in0282_01.row.prog w) (ktrTop dp un gd cn cs L a ccd cl outer) (call (.ref f) args) Q E s := by
  refine C p loose mean mg mb dp un gd cn cs a ccd cl outer A₀ base h₀ L m s Q E X B F T hk hd hu ht hn fun v own h' tk' F' st N' fr ht' r => hret v own h' tk' F' (fun q hq => ?_) (fun q hq q' hq' e => ?_) ht' r
  · rcases List.mem_append.mp hq with hq | hq
    · exact N' q hq
    · exact ⟨st _ _ (N q hq).1, (N q hq).2⟩
  · have := (N q' hq').1
    rw [e, fr q hq] at this
    cases this

section
variable {M : Model} {A : Around} {α : Type} {t : Sem α} {Q : α → Shared → Prop} {E : Value → Shared → Prop} {s : Shared} {env : Env}
/-- the count of tokens stays positive over a step -/
theorem with_pos (h0 : 0 < s.toks) (h : wpAny M A t (fun a s' => 0 < s'.toks → Q a s') (fun e s' => 0 < s'.toks → E e s') s) : wpAny M A t Q E s :=
  wpAny_mono (wpAny_toks_of (n := 1) h0 h) (fun _ _ q => q.2 q.1) fun _ _ q => q.2 q.1
theorem gen_pos {h : Heap} {g : Array GenState} {d : Drawn} {os : OsState} {X : Nat} (h0 : 0 < X) (H : ∀ tk, 0 < tk → wpAny M A t Q E ⟨h, g, d, tk, os⟩) : wpAny M A t Q E ⟨h, g, d, X, os⟩ := H X h0
theorem execs_pos {st : Stmt} {rest : List Stmt} {Q : Flow → Shared → Prop} (h0 : 0 < s.toks)
    (h : wpAny M A (exec st env) (fun f s' => 0 < s'.toks → match f with | .next => wpAny M A (execs rest env) Q E s' | f => Q f s') (fun e s' => 0 < s'.toks → E e s') s) : wpAny M A (execs (st :: rest) env) Q E s :=
  wpAny_execs_cons (with_pos h0 h)
end
/-- a statement's end, hidden under a name: the walk goes on through the link -/
noncomputable def Kont (K : Flow → Shared → Prop) : Flow → Shared → Prop := K
section
variable {M : Model} {A : Around} {E : Value → Shared → Prop} {s : Shared} {env : Env} {st : Stmt} {rest : List Stmt} {Q K : Flow → Shared → Prop} {v : Value}
noncomputable def Link (K : Flow → Shared → Prop) (M : Model) (A : Around) (rest : List Stmt) (env : Env) (Q : Flow → Shared → Prop) (E : Value → Shared → Prop) : Prop :=
  ∀ f s', (0 < s'.toks → match f with | .next => wpAny M A (execs rest env) Q E s' | f => Q f s') → Kont K f s'
theorem execs_one (h : wpAny M A (exec st env) Q E s) : wpAny M A (execs [st] env) Q E s :=
  wpAny_execs_cons (wpAny_mono h (fun f s' q => match f, q with
    | .next, q => wpAny_execs_nil q
    | .ret _, q => q
    | .brk, q => q
    | .cont, q => q) fun _ _ q => q)
theorem execs_kont (h0 : 0 < s.toks) (h : ∀ K, Link K M A rest env Q E → wpAny M A (exec st env) (Kont K) E s) : wpAny M A (execs (st :: rest) env) Q E s :=
  wpAny_execs_cons (wpAny_mono (wpAny_toks_of (n := 1) h0 (h (fun f s' => 0 < s'.toks → match f with | .next => wpAny M A (execs rest env) Q E s' | f => Q f s') fun _ _ q => q)) (fun f s' q => by
    have := q.2 q.1
    cases f <;> exact this) fun _ _ q => q.2)
theorem kont_next {hp : Heap} {g : Array GenState} {d : Drawn} {os : OsState} {X : Nat} (L : Link K M A rest env Q E) (h : ∀ tk, 0 < tk → wpAny M A (execs rest env) Q E ⟨hp, g, d, tk, os⟩) : Kont K .next ⟨hp, g, d, X, os⟩ := L _ _ (h X)
theorem kont_ret (L : Link K M A rest env Q E) (h : Q (.ret v) s) : Kont K (.ret v) s := L _ _ fun _ => h
theorem kont_brk (L : Link K M A rest env Q E) (h : Q .brk s) : Kont K .brk s := L _ _ fun _ => h
theorem kont_cont (L : Link K M A rest env Q E) (h : Q .cont s) : Kont K .cont s := L _ _ fun _ => h
noncomputable def Link0 (K : Flow → Shared → Prop) (M : Model) (A : Around) (rest : List Stmt) (env : Env) (Q : Flow → Shared → Prop) (E : Value → Shared → Prop) : Prop :=
  ∀ f s', (match f with | .next => wpAny M A (execs rest env) Q E s' | f => Q f s') → Kont K f s'
theorem execs_kont0 (h : ∀ K, Link0 K M A rest env Q E → wpAny M A (exec st env) (Kont K) E s) : wpAny M A (execs (st :: rest) env) Q E s :=
  wpAny_execs_cons (wpAny_mono (h (fun f s' => match f with | .next => wpAny M A (execs rest env) Q E s' | f => Q f s') fun _ _ q => q) (fun f s' q => by cases f <;> exact q) fun _ _ q => q)
theorem kont0_next (L : Link0 K M A rest env Q E) (h : wpAny M A (execs rest env) Q E s) : Kont K .next s := L _ _ h
theorem kont0_ret (L : Link0 K M A rest env Q E) (h : Q (.ret v) s) : Kont K (.ret v) s := L _ _ h
theorem kont0_brk (L : Link0 K M A rest env Q E) (h : Q .brk s) : Kont K .brk s := L _ _ h
theorem kont0_cont (L : Link0 K M A rest env Q E) (h : Q .cont s) : Kont K .cont s := L _ _ h
theorem lets {body : List Stmt} (h : let A9 := A; let e9 := env; wpAny M A9 (execs body e9) Q E s) : wpAny M A (execs body env) Q E s := h
end

section
variable {a b d k n c R : Nat}
theorem room0 (h : d + k < R) : d < R := Nat.lt_of_le_of_lt (Nat.le_add_right _ _) h
theorem room1 (h : d + k < R) (hk : a ≤ k) : d + a < R := Nat.lt_of_le_of_lt (Nat.add_le_add_left hk _) h
theorem room2 (h : d + k < R) (hk : a + b ≤ k) : d + a + b < R := by rw [Nat.add_assoc]; exact room1 h hk
theorem nn0 : (0 : Int) ≤ (a : Int) := Int.natCast_nonneg _
theorem nn1 : (0 : Int) ≤ (a : Int) + 1 := by omega
theorem nn2 : (0 : Int) ≤ (a : Int) + 1 + 1 := by omega
theorem nn3 : (0 : Int) ≤ (a : Int) + 1 + 1 + 1 := by omega
theorem la0 { P : Prop} (h : a < b ∧ P) : a ≠ b := Nat.ne_of_lt h.1
theorem ga0 { P : Prop} (h : a < b ∧ P) : b ≠ a := Nat.ne_of_gt h.1
theorem la1 {P0 P : Prop} (h : P0 ∧ a < b ∧ P) : a ≠ b := Nat.ne_of_lt h.2.1
theorem ga1 {P0 P : Prop} (h : P0 ∧ a < b ∧ P) : b ≠ a := Nat.ne_of_gt h.2.1
theorem le1 {P0 : Prop} (h : P0 ∧ a < b) : a ≠ b := Nat.ne_of_lt h.2
theorem ge1 {P0 : Prop} (h : P0 ∧ a < b) : b ≠ a := Nat.ne_of_gt h.2
theorem la2 {P0 P1 P : Prop} (h : P0 ∧ P1 ∧ a < b ∧ P) : a ≠ b := Nat.ne_of_lt h.2.2.1
theorem ga2 {P0 P1 P : Prop} (h : P0 ∧ P1 ∧ a < b ∧ P) : b ≠ a := Nat.ne_of_gt h.2.2.1
theorem le2 {P0 P1 : Prop} (h : P0 ∧ P1 ∧ a < b) : a ≠ b := Nat.ne_of_lt h.2.2
theorem ge2 {P0 P1 : Prop} (h : P0 ∧ P1 ∧ a < b) : b ≠ a := Nat.ne_of_gt h.2.2
theorem la3 {P0 P1 P2 P : Prop} (h : P0 ∧ P1 ∧ P2 ∧ a < b ∧ P) : a ≠ b := Nat.ne_of_lt h.2.2.2.1
theorem ga3 {P0 P1 P2 P : Prop} (h : P0 ∧ P1 ∧ P2 ∧ a < b ∧ P) : b ≠ a := Nat.ne_of_gt h.2.2.2.1
theorem le3 {P0 P1 P2 : Prop} (h : P0 ∧ P1 ∧ P2 ∧ a < b) : a ≠ b := Nat.ne_of_lt h.2.2.2
theorem ge3 {P0 P1 P2 : Prop} (h : P0 ∧ P1 ∧ P2 ∧ a < b) : b ≠ a := Nat.ne_of_gt h.2.2.2
theorem la4 {P0 P1 P2 P3 P : Prop} (h : P0 ∧ P1 ∧ P2 ∧ P3 ∧ a < b ∧ P) : a ≠ b := Nat.ne_of_lt h.2.2.2.2.1
theorem ga4 {P0 P1 P2 P3 P : Prop} (h : P0 ∧ P1 ∧ P2 ∧ P3 ∧ a < b ∧ P) : b ≠ a := Nat.ne_of_gt h.2.2.2.2.1
theorem le4 {P0 P1 P2 P3 : Prop} (h : P0 ∧ P1 ∧ P2 ∧ P3 ∧ a < b) : a ≠ b := Nat.ne_of_lt h.2.2.2.2
theorem ge4 {P0 P1 P2 P3 : Prop} (h : P0 ∧ P1 ∧ P2 ∧ P3 ∧ a < b) : b ≠ a := Nat.ne_of_gt h.2.2.2.2
theorem la5 {P0 P1 P2 P3 P4 P : Prop} (h : P0 ∧ P1 ∧ P2 ∧ P3 ∧ P4 ∧ a < b ∧ P) : a ≠ b := Nat.ne_of_lt h.2.2.2.2.2.1
theorem ga5 {P0 P1 P2 P3 P4 P : Prop} (h : P0 ∧ P1 ∧ P2 ∧ P3 ∧ P4 ∧ a < b ∧ P) : b ≠ a := Nat.ne_of_gt h.2.2.2.2.2.1
theorem le5 {P0 P1 P2 P3 P4 : Prop} (h : P0 ∧ P1 ∧ P2 ∧ P3 ∧ P4 ∧ a < b) : a ≠ b := Nat.ne_of_lt h.2.2.2.2.2
theorem ge5 {P0 P1 P2 P3 P4 : Prop} (h : P0 ∧ P1 ∧ P2 ∧ P3 ∧ P4 ∧ a < b) : b ≠ a := Nat.ne_of_gt h.2.2.2.2.2
theorem la6 {P0 P1 P2 P3 P4 P5 P : Prop} (h : P0 ∧ P1 ∧ P2 ∧ P3 ∧ P4 ∧ P5 ∧ a < b ∧ P) : a ≠ b := Nat.ne_of_lt h.2.2.2.2.2.2.1
theorem ga6 {P0 P1 P2 P3 P4 P5 P : Prop} (h : P0 ∧ P1 ∧ P2 ∧ P3 ∧ P4 ∧ P5 ∧ a < b ∧ P) : b ≠ a := Nat.ne_of_gt h.2.2.2.2.2.2.1
theorem le6 {P0 P1 P2 P3 P4 P5 : Prop} (h : P0 ∧ P1 ∧ P2 ∧ P3 ∧ P4 ∧ P5 ∧ a < b) : a ≠ b := Nat.ne_of_lt h.2.2.2.2.2.2
theorem ge6 {P0 P1 P2 P3 P4 P5 : Prop} (h : P0 ∧ P1 ∧ P2 ∧ P3 ∧ P4 ∧ P5 ∧ a < b) : b ≠ a := Nat.ne_of_gt h.2.2.2.2.2.2
theorem la7 {P0 P1 P2 P3 P4 P5 P6 P : Prop} (h : P0 ∧ P1 ∧ P2 ∧ P3 ∧ P4 ∧ P5 ∧ P6 ∧ a < b ∧ P) : a ≠ b := Nat.ne_of_lt h.2.2.2.2.2.2.2.1
theorem ga7 {P0 P1 P2 P3 P4 P5 P6 P : Prop} (h : P0 ∧ P1 ∧ P2 ∧ P3 ∧ P4 ∧ P5 ∧ P6 ∧ a < b ∧ P) : b ≠ a := Nat.ne_of_gt h.2.2.2.2.2.2.2.1
theorem le7 {P0 P1 P2 P3 P4 P5 P6 : Prop} (h : P0 ∧ P1 ∧ P2 ∧ P3 ∧ P4 ∧ P5 ∧ P6 ∧ a < b) : a ≠ b := Nat.ne_of_lt h.2.2.2.2.2.2.2
theorem ge7 {P0 P1 P2 P3 P4 P5 P6 : Prop} (h : P0 ∧ P1 ∧ P2 ∧ P3 ∧ P4 ∧ P5 ∧ P6 ∧ a < b) : b ≠ a := Nat.ne_of_gt h.2.2.2.2.2.2.2
theorem la8 {P0 P1 P2 P3 P4 P5 P6 P7 P : Prop} (h : P0 ∧ P1 ∧ P2 ∧ P3 ∧ P4 ∧ P5 ∧ P6 ∧ P7 ∧ a < b ∧ P) : a ≠ b := Nat.ne_of_lt h.2.2.2.2.2.2.2.2.1
theorem ga8 {P0 P1 P2 P3 P4 P5 P6 P7 P : Prop} (h : P0 ∧ P1 ∧ P2 ∧ P3 ∧ P4 ∧ P5 ∧ P6 ∧ P7 ∧ a < b ∧ P) : b ≠ a := Nat.ne_of_gt h.2.2.2.2.2.2.2.2.1
theorem le8 {P0 P1 P2 P3 P4 P5 P6 P7 : Prop} (h : P0 ∧ P1 ∧ P2 ∧ P3 ∧ P4 ∧ P5 ∧ P6 ∧ P7 ∧ a < b) : a ≠ b := Nat.ne_of_lt h.2.2.2.2.2.2.2.2
theorem ge8 {P0 P1 P2 P3 P4 P5 P6 P7 : Prop} (h : P0 ∧ P1 ∧ P2 ∧ P3 ∧ P4 ∧ P5 ∧ P6 ∧ P7 ∧ a < b) : b ≠ a := Nat.ne_of_gt h.2.2.2.2.2.2.2.2
theorem szT (h : a ≤ 100000) : a ≤ sizeLine := by rw [PySem.sizeLine_eq]; omega
theorem szT1 (h : a ≤ 100000) : a + 1 ≤ sizeLine := by rw [PySem.sizeLine_eq]; omega
theorem szK (h : a ≤ 1000) : a ≤ sizeLine := by rw [PySem.sizeLine_eq]; omega
theorem szK1 (h : a ≤ 1000) : a + 1 ≤ sizeLine := by rw [PySem.sizeLine_eq]; omega
end

end Mine
end
theorem Mine.walk_off_P0 : True := by
  w_top off
  k_with_none
  trivial
section
open PySem PySem.W PyProof.Rows PySem.Calls PySem.Spec
set_option Elab.async false
set_option maxRecDepth 100000
set_option maxHeartbeats 8000000
namespace Mine

/-- a text by its signs' numbers -/
def T (l : List Nat) : Str := ⟨l.toArray⟩
theorem T_len (l : List Nat) : (T l).length = l.length := by simp [T, Str.length]
theorem T_cps (l : List Nat) : (T l).cps.toList = l := by simp [T]
theorem T_inj {a b : List Nat} (h : T a = T b) : a = b := by
  have := congrArg (fun x : Str => x.cps.toList) h
  simpa [T] using this
theorem T_app (a b : List Nat) : T a ++ T b = T (a ++ b) := by
  show Str.append (T a) (T b) = _
  simp [Str.append, T]
theorem eq_T (x : Str) : x = T x.cps.toList := by cases x; simp [T]
theorem T_beq (a b : List Nat) : (T a == T b) = decide (a = b) := by
  by_cases h : a = b
  · subst h; simp
  · have : T a ≠ T b := fun e => h (T_inj e)
    simp [h, this]
theorem T_eq_iff {a b : List Nat} : T a = T b ↔ a = b := ⟨T_inj, fun h => by rw [h]⟩

/-- every sign c of l written z -/
def repl (c : Nat) (z l : List Nat) : List Nat := l.flatMap fun d => if d = c then z else [d]
theorem repl_nil (c z) : repl c z [] = [] := rfl
theorem repl_append (c z a b) : repl c z (a ++ b) = repl c z a ++ repl c z b := by simp [repl]
theorem repl_free {c : Nat} {z l : List Nat} (h : c ∉ l) : repl c z l = l := by
  induction l with
  | nil => rfl
  | cons d l ih =>
    have h1 : d ≠ c := fun e => h (by rw [e]; exact List.mem_cons_self)
    have h2 : c ∉ l := fun e => h (List.mem_cons_of_mem _ e)
    have := ih h2
    unfold repl at this ⊢
    rw [List.flatMap_cons, if_neg h1, this]; rfl
theorem repl_one (c z) : repl c z [c] = z := by simp [repl]
theorem repl_len (c : Nat) (z l : List Nat) : (repl c z l).length ≤ l.length * (z.length + 1) := by
  induction l with
  | nil => simp [repl]
  | cons d l ih =>
    have e : repl c z (d :: l) = (if d = c then z else [d]) ++ repl c z l := rfl
    rw [e, List.length_append, List.length_cons, Nat.succ_mul]
    split <;> simp <;> omega
theorem repl_bind (c z) (f : Nat → List Nat) (l : List Nat) : repl c z (l.flatMap f) = l.flatMap fun d => repl c z (f d) := by
  induction l with
  | nil => rfl
  | cons d l ih => rw [List.flatMap_cons, repl_append, ih, List.flatMap_cons]

theorem join_cons2 (sep x y : Str) (r : List Str) : Str.join sep (x :: y :: r) = x ++ sep ++ Str.join sep (y :: r) := rfl
theorem join_T (sep : List Nat) : ∀ (ps : List (List Nat)), Str.join (T sep) (ps.map T) = T (List.intercalate sep ps)
  | [] => rfl
  | [x] => by simp [Str.join, List.intercalate]
  | x :: y :: r => by
    rw [List.map_cons, List.map_cons, join_cons2, ← List.map_cons, join_T sep (y :: r), T_app, T_app]
    simp [List.intercalate, List.intersperse]
theorem repl_inter (c : Nat) (z : List Nat) : ∀ (ps : List (List Nat)), (∀ p ∈ ps, c ∉ p) → repl c z (List.intercalate [c] ps) = List.intercalate z ps
  | [], _ => rfl
  | [x], h => by simp only [List.intercalate, List.intersperse, List.flatten_cons, List.flatten_nil, List.append_nil]; exact repl_free (h x (by simp))
  | x :: y :: r, h => by
    have ih := repl_inter c z (y :: r) fun p hp => h p (List.mem_cons_of_mem _ hp)
    have e1 : ∀ s : List Nat, List.intercalate s (x :: y :: r) = x ++ s ++ List.intercalate s (y :: r) := fun s => by simp [List.intercalate, List.intersperse]
    rw [e1, e1, repl_append, repl_append, repl_free (h x (by simp)), repl_one, ih]

theorem map_T_of (l : List Str) : l = (l.map fun x => x.cps.toList).map T := by
  induction l with
  | nil => rfl
  | cons x l ih => rw [List.map_cons, List.map_cons, ← ih, ← eq_T]

theorem replace_T (c : Nat) (z l : List Nat) : Txt.replace (T l) (T [c]) (T z) = T (repl c z l) := by
  have e1 := StrLaws.replace_one (T l) (T z) c
  have e2 := StrLaws.join_split (T l) (T [c])
  have hf := StrLaws.split_free (T l) c
  have hT : (⟨#[c]⟩ : Str) = T [c] := rfl
  rw [hT] at e1 hf
  rw [e1]
  have hm := map_T_of (Txt.split (T l) (T [c]))
  generalize hps : (Txt.split (T l) (T [c])).map (fun x => x.cps.toList) = ps at hm
  have hfree : ∀ p ∈ ps, c ∉ p := by
    intro p hp
    rw [← hps] at hp
    obtain ⟨x, hx, rfl⟩ := List.mem_map.mp hp
    exact hf x hx
  rw [hm] at e2 ⊢
  rw [join_T] at e2 ⊢
  have := T_inj e2
  rw [← this, repl_inter c z ps hfree]

/-- one sign through a chain of replacements -/
def ch (ps : List (Nat × List Nat)) (d : Nat) : List Nat := ps.foldl (fun l p => repl p.1 p.2 l) [d]
theorem ch_nil (d : Nat) : ch [] d = [d] := rfl
theorem ch_snoc (ps : List (Nat × List Nat)) (c : Nat) (z : List Nat) (d : Nat) : ch (ps ++ [(c, z)]) d = repl c z (ch ps d) := by simp [ch]
theorem ch_bind (ps : List (Nat × List Nat)) (c : Nat) (z x : List Nat) : repl c z (x.flatMap (ch ps)) = x.flatMap (ch (ps ++ [(c, z)])) := by
  rw [repl_bind]
  exact congrArg (fun f => List.flatMap f x) (funext fun d => (ch_snoc ps c z d).symm)
theorem ch_free : ∀ (ps : List (Nat × List Nat)) (d : Nat), (∀ p ∈ ps, p.1 ≠ d) → ch ps d = [d] := by
  intro ps d h
  unfold ch
  induction ps with
  | nil => rfl
  | cons p ps ih =>
    have e : repl p.1 p.2 [d] = [d] := repl_free (by
      intro hm
      exact h p List.mem_cons_self (List.mem_singleton.mp hm))
    rw [List.foldl_cons, e]
    exact ih fun q hq => h q (List.mem_cons_of_mem _ hq)
theorem flat_nil (x : List Nat) : x.flatMap (ch []) = x := by
  induction x with
  | nil => rfl
  | cons d x ih => rw [List.flatMap_cons, ih]; rfl
theorem ch_len (ps : List (Nat × List Nat)) (h : (ps.all fun p => decide ((ch ps p.1).length ≤ 6)) = true) (d : Nat) : (ch ps d).length ≤ 6 := by
  by_cases hd : ∃ p ∈ ps, p.1 = d
  · obtain ⟨p, hp, rfl⟩ := hd
    exact of_decide_eq_true (List.all_eq_true.mp h p hp)
  · rw [ch_free ps d fun p hp e => hd ⟨p, hp, e⟩]
    simp
theorem flat_len (f : Nat → List Nat) (hf : ∀ d, (f d).length ≤ 6) : ∀ x : List Nat, (x.flatMap f).length ≤ 6 * x.length
  | [] => by simp
  | d :: x => by
    have h1 := flat_len f hf x
    have h2 := hf d
    rw [List.flatMap_cons, List.length_append, List.length_cons]
    omega

theorem found_T (c : Nat) (l : List Nat) : (!(Builtin.Str.occurrences (T l) (T [c]) 0 (T l).length 1).isEmpty) = decide (c ∈ l) := by
  have := StrLaws.found_one (T l) c
  rw [T_cps] at this
  exact this
end Mine
end
theorem Mine.walk_off_P1 : True := by
  w_top off
  k_with_none
  trivial
section
open PySem PySem.W PyProof.Rows PySem.Calls PySem.Spec
set_option Elab.async false
set_option maxRecDepth 100000
set_option maxHeartbeats 8000000
namespace Mine

section
variable {prog : Program} {w : World} {A : Around} {E : Value → Shared → Prop} {s : Shared} {h₀ : Heap} {L a : Addr} {m : Str → Option Value} {cn : Str} {cs : Scope} {ccd : Value} {cl : List (Str × Addr)} {news : List (Addr × Obj)}

/-- «if c in x: x = x.replace(c, z)» in one step -/
theorem if_repl {nm : Str} {c : Nat} {z x : List Nat} {ps : List (Nat × List Nat)} {t : Tok} {k1 k2 k3 : Nat} {p1 p2 p3 p4 p5 p6 p7 p8 p9 p10 p11 : Pos} {cS zS : Str} {pl : Sem Bool} {Q : Flow → Shared → Prop} (hc : cS = T [c]) (hz : zS = T z)
    (F : Fr h₀ L s.heap m) (N : News h₀ L s.heap news) (hm : m nm = some (.str (T (x.flatMap (ch ps))) t)) (h0 : 0 < s.toks) (hx : x.length ≤ 1000) (hps : (ps.all fun p => decide ((ch ps p.1).length ≤ 6)) = true) (hzl : z.length ≤ 6) (hcz : [c] ≠ z)
    (h : ∀ t' h' tk', 0 < tk' → Fr h₀ L h' (fun y => if y = nm then some (.str (T (x.flatMap (ch (ps ++ [(c, z)])))) t') else m y) → News h₀ L h' news → Q .next { s with heap := h', toks := tk' })
    (hk : cs.kind = .function := by rfl) (hl : (envX cn cs L a ccd cl).kindOf nm = some .local := by rfl) (hd : (nm == ("__debug__" : Str)) = false := by decide)
    (hsw : swapsWith (.Call (.Attribute (.Name nm p5) "replace" p6) [.Constant (.str cS) k2 p7, .Constant (.str zS) k3 p8] [] p9) (some (.Name nm p4)) p10.line (envX cn cs L a ccd cl) = pure false := by rfl)
    (he : eval (.Call (.Attribute (.Name nm p5) "replace" p6) [.Constant (.str cS) k2 p7, .Constant (.str zS) k3 p8] [] p9) (envX cn cs L a ccd cl) = (do
      let ov ← eval (.Name nm p5) (envX cn cs L a ccd cl)
      standAt p6.atName
      let (f, first) ← holding [ov] (getMethod ov "replace" pl)
      callWith p9 f first (backTo p9 (starEach [.Constant (.str cS) k2 p7, .Constant (.str zS) k3 p8] (envX cn cs L a ccd cl))) []) := by rfl) :
    wpAny (model prog w) A (exec (.If (.Compare (.Constant (.str cS) k1 p1) [.In] [.Name nm p2] p3) [.Assign [.Name nm p4] (.Call (.Attribute (.Name nm p5) "replace" p6) [.Constant (.str cS) k2 p7, .Constant (.str zS) k3 p8] [] p9) p10] [] p11) (envX cn cs L a ccd cl)) Q E s := by
  subst hc hz
  rw [← ch_bind] at h
  have hyl := flat_len (ch ps) (ch_len ps hps) x
  generalize x.flatMap (ch ps) = y at hm h hyl
  refine wpAny_If (wpAny_isTrue_Compare1 (Calls.Constant_str (nameX_L F hm (in_str (wpAny_truthy_bool ?_)) hk hl hd)))
  rw [found_T]
  by_cases hin : c ∈ y
  · rw [decide_eq_true hin, if_pos rfl]
    refine wpAny_execs_cons (wpAny_Assign_Name ?_ hsw)
    refine MethodCall_ (pl := pl) (nameX_L F hm (GM.replace (callWith_method1 (args_cons (Calls.Constant_str (args_cons (Calls.Constant_str (args_nil ?_))))))) hk hl hd) he
    simp only [List.cons_append, List.nil_append]
    refine with_pos (by show 0 < s.toks + 1 + 1 + 1; omega) (SC.replace (by show s.toks + 1 ≠ 0; omega) (by show s.toks + 1 + 1 ≠ 0; omega) (by show s.toks + 1 ≠ s.toks + 1 + 1; omega) (by rw [T_beq]; exact decide_eq_false hcz) ?_ ?_)
    · rw [T_len, T_len]
      have : (y.length + 1) * z.length ≤ (y.length + 1) * 6 := Nat.mul_le_mul_left _ hzl
      omega
    · intro t' k hk'
      rw [replace_T]
      refine storeX_L F N (fun h' F' N' => ?_) hk hl
      exact wpAny_execs_nil (h t' h' _ (Nat.lt_succ_of_lt hk') F' N')
  · rw [decide_eq_false hin, if_neg Bool.false_ne_true]
    refine wpAny_execs_nil ?_
    have e : (fun z' => if z' = nm then some (.str (T (repl c z y)) t) else m z') = m := by
      funext z'
      by_cases hy : z' = nm
      · rw [if_pos hy, hy, hm, repl_free hin]
      · rw [if_neg hy]
    exact h t _ _ (Nat.lt_succ_of_lt h0) (by rw [e]; exact F) N
end

noncomputable def RStr (y : List Nat) (v : Value) (own : List (Addr × Obj)) : Prop := (∃ t, v = .str (T y) t) ∧ own = []

theorem rows_P2_1 : True := by
  k_with_none
  k_with "ne" => (refine neN ?_; (try dsimp only); first | exact Nat.ne_of_lt (by assumption) | exact Nat.ne_of_gt (by assumption) | exact Mine.la0 (by assumption) | exact Mine.ga0 (by assumption) | exact Mine.la1 (by assumption) | exact Mine.ga1 (by assumption) | exact Mine.le1 (by assumption) | exact Mine.ge1 (by assumption) | exact Mine.la2 (by assumption) | exact Mine.ga2 (by assumption) | exact Mine.le2 (by assumption) | exact Mine.ge2 (by assumption) | exact Mine.la3 (by assumption) | exact Mine.ga3 (by assumption) | exact Mine.le3 (by assumption) | exact Mine.ge3 (by assumption) | exact Mine.la4 (by assumption) | exact Mine.ga4 (by assumption) | exact Mine.le4 (by assumption) | exact Mine.ge4 (by assumption) | exact Mine.la5 (by assumption) | exact Mine.ga5 (by assumption) | exact Mine.le5 (by assumption) | exact Mine.ge5 (by assumption) | exact Mine.la6 (by assumption) | exact Mine.ga6 (by assumption) | exact Mine.le6 (by assumption) | exact Mine.ge6 (by assumption) | exact Mine.la7 (by assumption) | exact Mine.ga7 (by assumption) | exact Mine.le7 (by assumption) | exact Mine.ge7 (by assumption) | exact Mine.la8 (by assumption) | exact Mine.ga8 (by assumption) | exact Mine.le8 (by assumption) | exact Mine.ge8 (by assumption))
  k_with "room" => (first | exact Mine.room0 (by assumption) | exact Mine.room1 (by assumption) (by decide) | exact Mine.room2 (by assumption) (by decide))
  k_with "units" => (first | exact Mine.room0 (by assumption) | exact Mine.room1 (by assumption) (by decide) | exact Mine.room2 (by assumption) (by decide))
  k_with "size" => (first | exact Nat.zero_le _ | with_reducible exact Mine.szT (by assumption) | with_reducible exact Mine.szT1 (by assumption) | with_reducible exact Mine.szK (by assumption) | with_reducible exact Mine.szK1 (by assumption))
  k_with "LeaveM" => (k_dflt (refine' Mine.leaveM_ ?k1 ?k2 ?_; (case k1 => k_asm); (case k2 => k_asm); k_whole); intro kF kS kN kf; (try dsimp only))
  k_with "Kont" => ((try dsimp only); first | (refine' Mine.kont_next ?L_k ?_; (case L_k => assumption); intro tkp htkp) | (refine' Mine.kont_ret ?L_k ?_; (case L_k => assumption)) | (refine' Mine.kont_brk ?L_k ?_; (case L_k => assumption)) | (refine' Mine.kont_cont ?L_k ?_; (case L_k => assumption)))
  k_with "execs cons" => (k_here; first | refine Mine.execs_one ?_ | ((first | (refine' Mine.execs_kont ?kp_k ?_; (case kp_k => assumption)) | (refine Mine.gen_pos ?kp_k ?_; (case kp_k => first | assumption | exact Nat.succ_pos _ | omega); intro tkp htkp; refine Mine.execs_kont htkp ?_)); intro K9 hK9))
  k_with "exec If" => (k_here; k_dflt ((first | (refine' Mine.if_repl (c := 38) (z := [38, 97, 109, 112, 59]) ?hc ?hz ?F ?N ?hm ?h0 ?hx ?hps ?hzl ?hcz ?_; (case hc => decide); (case hz => decide)) | (refine' Mine.if_repl (c := 60) (z := [38, 108, 116, 59]) ?hc ?hz ?F ?N ?hm ?h0 ?hx ?hps ?hzl ?hcz ?_; (case hc => decide); (case hz => decide)) | (refine' Mine.if_repl (c := 62) (z := [38, 103, 116, 59]) ?hc ?hz ?F ?N ?hm ?h0 ?hx ?hps ?hzl ?hcz ?_; (case hc => decide); (case hz => decide)) | (refine' Mine.if_repl (c := 34) (z := [38, 113, 117, 111, 116, 59]) ?hc ?hz ?F ?N ?hm ?h0 ?hx ?hps ?hzl ?hcz ?_; (case hc => decide); (case hz => decide)) | (refine' Mine.if_repl (c := 13) (z := [38, 35, 49, 51, 59]) ?hc ?hz ?F ?N ?hm ?h0 ?hx ?hps ?hzl ?hcz ?_; (case hc => decide); (case hz => decide)) | (refine' Mine.if_repl (c := 10) (z := [38, 35, 49, 48, 59]) ?hc ?hz ?F ?N ?hm ?h0 ?hx ?hps ?hzl ?hcz ?_; (case hc => decide); (case hz => decide)) | (refine' Mine.if_repl (c := 9) (z := [38, 35, 48, 57, 59]) ?hc ?hz ?F ?N ?hm ?h0 ?hx ?hps ?hzl ?hcz ?_; (case hc => decide); (case hz => decide)) | (refine' Mine.if_repl (c := 13) (z := [38, 35, 120, 68, 59]) ?hc ?hz ?F ?N ?hm ?h0 ?hx ?hps ?hzl ?hcz ?_; (case hc => decide); (case hz => decide)) | (refine' Mine.if_repl (c := 9) (z := [38, 35, 120, 57, 59]) ?hc ?hz ?F ?N ?hm ?h0 ?hx ?hps ?hzl ?hcz ?_; (case hc => decide); (case hz => decide)) | (refine' Mine.if_repl (c := 10) (z := [38, 35, 120, 65, 59]) ?hc ?hz ?F ?N ?hm ?h0 ?hx ?hps ?hzl ?hcz ?_; (case hc => decide); (case hz => decide))); (case F => k_asm); (case N => k_asm); (case hm => rfl); (case h0 => first | assumption | omega); (case hx => assumption); (case hps => decide); (case hzl => decide); (case hcz => decide); k_whole; intro t9 h9 tk9 htk9 F9 N9; (try dsimp only)))
  trivial

noncomputable def ch_cdata : List (Nat × List Nat) := [(38, [38, 97, 109, 112, 59]), (60, [38, 108, 116, 59]), (62, [38, 103, 116, 59])]
theorem esc_cdata (w : World) (x : List Nat) (tx : Tok) (hx : x.length ≤ 1000) : Tell w 45 1 8 [.str (T x) tx] (fun _ => True) (RStr (x.flatMap (ch ch_cdata))) := by
  refine Tell.of ?_
  k_fill
  intro p loose mean mg mb dp un gd cn cs a ccd cl outer A₀ base h₀ L m s Q E X B F T hk hd hu ht hn hret
  refine wpAny_call ?_
  rw [← flat_nil x]
  k_dflt (refine' Mine.enterP ?k1 ?k2 ?k3 ?k5 ?kA ?kF ?kK ?k6 ?k7 ?k8 ?k9 ?kB ?_ ?c2 ?c3 ?c4 ?c5; (case kA => exact rfl); (case kF => exact rfl); (case kK => assumption); (case k1 => k_asm); (case k2 => k_asm); (case k3 => k_asm); (case k5 => k_asm); (case k6 => k_is); (case k7 => k_is); (case k8 => ktr_room); (case k9 => exact BindsTo.of_eq rfl); (case c5 => decide); (case kB => exact locs rfl); (case c2 => exact rfl); (case c3 => exact rfl); (case c4 => exact rfl); k_whole; intro L' h' F' N' B' X' T'; (try dsimp only); (try k_fold))
  k_steps
  exact hret _ _ _ _ kF kS kN kf ⟨⟨_, rfl⟩, rfl⟩

noncomputable def ch_attrib : List (Nat × List Nat) := [(38, [38, 97, 109, 112, 59]), (60, [38, 108, 116, 59]), (62, [38, 103, 116, 59]), (34, [38, 113, 117, 111, 116, 59]), (13, [38, 35, 49, 51, 59]), (10, [38, 35, 49, 48, 59]), (9, [38, 35, 48, 57, 59])]
theorem esc_attrib (w : World) (x : List Nat) (tx : Tok) (hx : x.length ≤ 1000) : Tell w 52 1 8 [.str (T x) tx] (fun _ => True) (RStr (x.flatMap (ch ch_attrib))) := by
  refine Tell.of ?_
  k_fill
  intro p loose mean mg mb dp un gd cn cs a ccd cl outer A₀ base h₀ L m s Q E X B F T hk hd hu ht hn hret
  refine wpAny_call ?_
  rw [← flat_nil x]
  k_dflt (refine' Mine.enterP ?k1 ?k2 ?k3 ?k5 ?kA ?kF ?kK ?k6 ?k7 ?k8 ?k9 ?kB ?_ ?c2 ?c3 ?c4 ?c5; (case kA => exact rfl); (case kF => exact rfl); (case kK => assumption); (case k1 => k_asm); (case k2 => k_asm); (case k3 => k_asm); (case k5 => k_asm); (case k6 => k_is); (case k7 => k_is); (case k8 => ktr_room); (case k9 => exact BindsTo.of_eq rfl); (case c5 => decide); (case kB => exact locs rfl); (case c2 => exact rfl); (case c3 => exact rfl); (case c4 => exact rfl); k_whole; intro L' h' F' N' B' X' T'; (try dsimp only); (try k_fold))
  k_steps
  exact hret _ _ _ _ kF kS kN kf ⟨⟨_, rfl⟩, rfl⟩

noncomputable def ch_html : List (Nat × List Nat) := [(38, [38, 97, 109, 112, 59]), (62, [38, 103, 116, 59]), (34, [38, 113, 117, 111, 116, 59])]
theorem esc_html (w : World) (x : List Nat) (tx : Tok) (hx : x.length ≤ 1000) : Tell w 59 1 8 [.str (T x) tx] (fun _ => True) (RStr (x.flatMap (ch ch_html))) := by
  refine Tell.of ?_
  k_fill
  intro p loose mean mg mb dp un gd cn cs a ccd cl outer A₀ base h₀ L m s Q E X B F T hk hd hu ht hn hret
  refine wpAny_call ?_
  rw [← flat_nil x]
  k_dflt (refine' Mine.enterP ?k1 ?k2 ?k3 ?k5 ?kA ?kF ?kK ?k6 ?k7 ?k8 ?k9 ?kB ?_ ?c2 ?c3 ?c4 ?c5; (case kA => exact rfl); (case kF => exact rfl); (case kK => assumption); (case k1 => k_asm); (case k2 => k_asm); (case k3 => k_asm); (case k5 => k_asm); (case k6 => k_is); (case k7 => k_is); (case k8 => ktr_room); (case k9 => exact BindsTo.of_eq rfl); (case c5 => decide); (case kB => exact locs rfl); (case c2 => exact rfl); (case c3 => exact rfl); (case c4 => exact rfl); k_whole; intro L' h' F' N' B' X' T'; (try dsimp only); (try k_fold))
  k_steps
  exact hret _ _ _ _ kF kS kN kf ⟨⟨_, rfl⟩, rfl⟩

noncomputable def ch_cdata_c14n : List (Nat × List Nat) := [(38, [38, 97, 109, 112, 59]), (60, [38, 108, 116, 59]), (62, [38, 103, 116, 59]), (13, [38, 35, 120, 68, 59])]
theorem esc_cdata_c14n (w : World) (x : List Nat) (tx : Tok) (hx : x.length ≤ 1000) : Tell w 66 1 8 [.str (T x) tx] (fun _ => True) (RStr (x.flatMap (ch ch_cdata_c14n))) := by
  refine Tell.of ?_
  k_fill
  intro p loose mean mg mb dp un gd cn cs a ccd cl outer A₀ base h₀ L m s Q E X B F T hk hd hu ht hn hret
  refine wpAny_call ?_
  rw [← flat_nil x]
  k_dflt (refine' Mine.enterP ?k1 ?k2 ?k3 ?k5 ?kA ?kF ?kK ?k6 ?k7 ?k8 ?k9 ?kB ?_ ?c2 ?c3 ?c4 ?c5; (case kA => exact rfl); (case kF => exact rfl); (case kK => assumption); (case k1 => k_asm); (case k2 => k_asm); (case k3 => k_asm); (case k5 => k_asm); (case k6 => k_is); (case k7 => k_is); (case k8 => ktr_room); (case k9 => exact BindsTo.of_eq rfl); (case c5 => decide); (case kB => exact locs rfl); (case c2 => exact rfl); (case c3 => exact rfl); (case c4 => exact rfl); k_whole; intro L' h' F' N' B' X' T'; (try dsimp only); (try k_fold))
  k_steps
  exact hret _ _ _ _ kF kS kN kf ⟨⟨_, rfl⟩, rfl⟩

noncomputable def ch_attrib_c14n : List (Nat × List Nat) := [(38, [38, 97, 109, 112, 59]), (60, [38, 108, 116, 59]), (34, [38, 113, 117, 111, 116, 59]), (9, [38, 35, 120, 57, 59]), (10, [38, 35, 120, 65, 59]), (13, [38, 35, 120, 68, 59])]
theorem esc_attrib_c14n (w : World) (x : List Nat) (tx : Tok) (hx : x.length ≤ 1000) : Tell w 73 1 8 [.str (T x) tx] (fun _ => True) (RStr (x.flatMap (ch ch_attrib_c14n))) := by
  refine Tell.of ?_
  k_fill
  intro p loose mean mg mb dp un gd cn cs a ccd cl outer A₀ base h₀ L m s Q E X B F T hk hd hu ht hn hret
  refine wpAny_call ?_
  rw [← flat_nil x]
  k_dflt (refine' Mine.enterP ?k1 ?k2 ?k3 ?k5 ?kA ?kF ?kK ?k6 ?k7 ?k8 ?k9 ?kB ?_ ?c2 ?c3 ?c4 ?c5; (case kA => exact rfl); (case kF => exact rfl); (case kK => assumption); (case k1 => k_asm); (case k2 => k_asm); (case k3 => k_asm); (case k5 => k_asm); (case k6 => k_is); (case k7 => k_is); (case k8 => ktr_room); (case k9 => exact BindsTo.of_eq rfl); (case c5 => decide); (case kB => exact locs rfl); (case c2 => exact rfl); (case c3 => exact rfl); (case c4 => exact rfl); k_whole; intro L' h' F' N' B' X' T'; (try dsimp only); (try k_fold))
  k_steps
  exact hret _ _ _ _ kF kS kN kf ⟨⟨_, rfl⟩, rfl⟩
end Mine
end
theorem Mine.walk_off_P2 : True := by
  w_top off
  k_with_none
  trivial
section
open PySem PySem.W PyProof.Rows PySem.Calls PySem.Spec
set_option Elab.async false
set_option maxRecDepth 100000
set_option maxHeartbeats 8000000
namespace Mine
theorem rows_P3_1 : True := by
  k_with_none
  k_with "ne" => (refine neN ?_; (try dsimp only); first | exact Nat.ne_of_lt (by assumption) | exact Nat.ne_of_gt (by assumption) | exact Mine.la0 (by assumption) | exact Mine.ga0 (by assumption) | exact Mine.la1 (by assumption) | exact Mine.ga1 (by assumption) | exact Mine.le1 (by assumption) | exact Mine.ge1 (by assumption) | exact Mine.la2 (by assumption) | exact Mine.ga2 (by assumption) | exact Mine.le2 (by assumption) | exact Mine.ge2 (by assumption) | exact Mine.la3 (by assumption) | exact Mine.ga3 (by assumption) | exact Mine.le3 (by assumption) | exact Mine.ge3 (by assumption) | exact Mine.la4 (by assumption) | exact Mine.ga4 (by assumption) | exact Mine.le4 (by assumption) | exact Mine.ge4 (by assumption) | exact Mine.la5 (by assumption) | exact Mine.ga5 (by assumption) | exact Mine.le5 (by assumption) | exact Mine.ge5 (by assumption) | exact Mine.la6 (by assumption) | exact Mine.ga6 (by assumption) | exact Mine.le6 (by assumption) | exact Mine.ge6 (by assumption) | exact Mine.la7 (by assumption) | exact Mine.ga7 (by assumption) | exact Mine.le7 (by assumption) | exact Mine.ge7 (by assumption) | exact Mine.la8 (by assumption) | exact Mine.ga8 (by assumption) | exact Mine.le8 (by assumption) | exact Mine.ge8 (by assumption))
  k_with "room" => (first | exact Mine.room0 (by assumption) | exact Mine.room1 (by assumption) (by decide) | exact Mine.room2 (by assumption) (by decide))
  k_with "units" => (first | exact Mine.room0 (by assumption) | exact Mine.room1 (by assumption) (by decide) | exact Mine.room2 (by assumption) (by decide))
  k_with "size" => (first | exact Nat.zero_le _ | with_reducible exact Mine.szT (by assumption) | with_reducible exact Mine.szT1 (by assumption) | with_reducible exact Mine.szK (by assumption) | with_reducible exact Mine.szK1 (by assumption))
  k_with "LeaveM" => (k_dflt (refine' Mine.leaveM_ ?k1 ?k2 ?_; (case k1 => k_asm); (case k2 => k_asm); k_whole); intro kF kS kN kf; (try dsimp only))
  k_with "Kont" => ((try dsimp only); first | (refine' Mine.kont_next ?L_k ?_; (case L_k => assumption); intro tkp htkp) | (refine' Mine.kont_ret ?L_k ?_; (case L_k => assumption)) | (refine' Mine.kont_brk ?L_k ?_; (case L_k => assumption)) | (refine' Mine.kont_cont ?L_k ?_; (case L_k => assumption)))
  k_with "execs cons" => (k_here; first | refine Mine.execs_one ?_ | ((first | (refine' Mine.execs_kont ?kp_k ?_; (case kp_k => assumption)) | (refine Mine.gen_pos ?kp_k ?_; (case kp_k => first | assumption | exact Nat.succ_pos _ | omega); intro tkp htkp; refine Mine.execs_kont htkp ?_)); intro K9 hK9))
  k_with "call ref" => (k_here; k_dflt (refine' Mine.Tell.use (Mine.esc_cdata _ _ _ (by assumption)) ?X ?B ?F ?N ?T ?hk ?hd ?hu ?ht ?hn ?_; (case X => k_asm); (case B => k_asm); (case F => k_asm); (case N => k_asm); (case T => k_asm); (case hk => first | exact rfl | assumption); (case hd => ktr_room); (case hu => ktr_units); (case ht => first | assumption | exact Nat.succ_pos _ | (dsimp only; omega)); (case hn => trivial); k_whole; intro v9 own9 h9 tk9 F9 N9 ne9 p9 R9; obtain ⟨⟨t9, e9⟩, o9⟩ := R9; subst e9; subst o9; (try simp only [List.nil_append] at N9); (try dsimp only); (try k_fold)))
  k_with "call ref" => (k_here; k_dflt (refine' Mine.Tell.use (Mine.esc_attrib _ _ _ (by assumption)) ?X ?B ?F ?N ?T ?hk ?hd ?hu ?ht ?hn ?_; (case X => k_asm); (case B => k_asm); (case F => k_asm); (case N => k_asm); (case T => k_asm); (case hk => first | exact rfl | assumption); (case hd => ktr_room); (case hu => ktr_units); (case ht => first | assumption | exact Nat.succ_pos _ | (dsimp only; omega)); (case hn => trivial); k_whole; intro v9 own9 h9 tk9 F9 N9 ne9 p9 R9; obtain ⟨⟨t9, e9⟩, o9⟩ := R9; subst e9; subst o9; (try simp only [List.nil_append] at N9); (try dsimp only); (try k_fold)))
  k_with "call ref" => (k_here; k_dflt (refine' Mine.Tell.use (Mine.esc_html _ _ _ (by assumption)) ?X ?B ?F ?N ?T ?hk ?hd ?hu ?ht ?hn ?_; (case X => k_asm); (case B => k_asm); (case F => k_asm); (case N => k_asm); (case T => k_asm); (case hk => first | exact rfl | assumption); (case hd => ktr_room); (case hu => ktr_units); (case ht => first | assumption | exact Nat.succ_pos _ | (dsimp only; omega)); (case hn => trivial); k_whole; intro v9 own9 h9 tk9 F9 N9 ne9 p9 R9; obtain ⟨⟨t9, e9⟩, o9⟩ := R9; subst e9; subst o9; (try simp only [List.nil_append] at N9); (try dsimp only); (try k_fold)))
  k_with "call ref" => (k_here; k_dflt (refine' Mine.Tell.use (Mine.esc_cdata_c14n _ _ _ (by assumption)) ?X ?B ?F ?N ?T ?hk ?hd ?hu ?ht ?hn ?_; (case X => k_asm); (case B => k_asm); (case F => k_asm); (case N => k_asm); (case T => k_asm); (case hk => first | exact rfl | assumption); (case hd => ktr_room); (case hu => ktr_units); (case ht => first | assumption | exact Nat.succ_pos _ | (dsimp only; omega)); (case hn => trivial); k_whole; intro v9 own9 h9 tk9 F9 N9 ne9 p9 R9; obtain ⟨⟨t9, e9⟩, o9⟩ := R9; subst e9; subst o9; (try simp only [List.nil_append] at N9); (try dsimp only); (try k_fold)))
  k_with "call ref" => (k_here; k_dflt (refine' Mine.Tell.use (Mine.esc_attrib_c14n _ _ _ (by assumption)) ?X ?B ?F ?N ?T ?hk ?hd ?hu ?ht ?hn ?_; (case X => k_asm); (case B => k_asm); (case F => k_asm); (case N => k_asm); (case T => k_asm); (case hk => first | exact rfl | assumption); (case hd => ktr_room); (case hu => ktr_units); (case ht => first | assumption | exact Nat.succ_pos _ | (dsimp only; omega)); (case hn => trivial); k_whole; intro v9 own9 h9 tk9 F9 N9 ne9 p9 R9; obtain ⟨⟨t9, e9⟩, o9⟩ := R9; subst e9; subst o9; (try simp only [List.nil_append] at N9); (try dsimp only); (try k_fold)))
  trivial

/-- the way of an escape -/
noncomputable def chW : Nat → List (Nat × List Nat)
  | 0 => ch_attrib
  | 1 => ch_html
  | 2 => ch_cdata
  | 3 => ch_cdata_c14n
  | _ => ch_attrib_c14n
theorem c_write0 (w : World) (x : List Nat) (tw tx : Tok) (hx : x.length ≤ 1000) : Tell w 138 3 24 [.int 0 tw, .str (T x) tx] (fun _ => True) (RStr (x.flatMap (ch (chW 0)))) := by
  refine Tell.of ?_
  k_fill
  intro p loose mean mg mb dp un gd cn cs a ccd cl outer A₀ base h₀ L m s Q E X B F T hk hd hu ht hn hret
  refine wpAny_call ?_
  k_dflt (refine' Mine.enterP ?k1 ?k2 ?k3 ?k5 ?kA ?kF ?kK ?k6 ?k7 ?k8 ?k9 ?kB ?_ ?c2 ?c3 ?c4 ?c5; (case kA => exact rfl); (case kF => exact rfl); (case kK => assumption); (case k1 => k_asm); (case k2 => k_asm); (case k3 => k_asm); (case k5 => k_asm); (case k6 => k_is); (case k7 => k_is); (case k8 => ktr_room); (case k9 => exact BindsTo.of_eq rfl); (case c5 => decide); (case kB => exact locs rfl); (case c2 => exact rfl); (case c3 => exact rfl); (case c4 => exact rfl); k_whole; intro L' h' F' N' B' X' T'; (try dsimp only); (try k_fold))
  k_steps
  exact hret _ _ _ _ kF kS kN kf ⟨⟨_, rfl⟩, rfl⟩
theorem c_write1 (w : World) (x : List Nat) (tw tx : Tok) (hx : x.length ≤ 1000) : Tell w 138 3 24 [.int 1 tw, .str (T x) tx] (fun _ => True) (RStr (x.flatMap (ch (chW 1)))) := by
  refine Tell.of ?_
  k_fill
  intro p loose mean mg mb dp un gd cn cs a ccd cl outer A₀ base h₀ L m s Q E X B F T hk hd hu ht hn hret
  refine wpAny_call ?_
  k_dflt (refine' Mine.enterP ?k1 ?k2 ?k3 ?k5 ?kA ?kF ?kK ?k6 ?k7 ?k8 ?k9 ?kB ?_ ?c2 ?c3 ?c4 ?c5; (case kA => exact rfl); (case kF => exact rfl); (case kK => assumption); (case k1 => k_asm); (case k2 => k_asm); (case k3 => k_asm); (case k5 => k_asm); (case k6 => k_is); (case k7 => k_is); (case k8 => ktr_room); (case k9 => exact BindsTo.of_eq rfl); (case c5 => decide); (case kB => exact locs rfl); (case c2 => exact rfl); (case c3 => exact rfl); (case c4 => exact rfl); k_whole; intro L' h' F' N' B' X' T'; (try dsimp only); (try k_fold))
  k_steps
  exact hret _ _ _ _ kF kS kN kf ⟨⟨_, rfl⟩, rfl⟩
theorem c_write2 (w : World) (x : List Nat) (tw tx : Tok) (hx : x.length ≤ 1000) : Tell w 138 3 24 [.int 2 tw, .str (T x) tx] (fun _ => True) (RStr (x.flatMap (ch (chW 2)))) := by
  refine Tell.of ?_
  k_fill
  intro p loose mean mg mb dp un gd cn cs a ccd cl outer A₀ base h₀ L m s Q E X B F T hk hd hu ht hn hret
  refine wpAny_call ?_
  k_dflt (refine' Mine.enterP ?k1 ?k2 ?k3 ?k5 ?kA ?kF ?kK ?k6 ?k7 ?k8 ?k9 ?kB ?_ ?c2 ?c3 ?c4 ?c5; (case kA => exact rfl); (case kF => exact rfl); (case kK => assumption); (case k1 => k_asm); (case k2 => k_asm); (case k3 => k_asm); (case k5 => k_asm); (case k6 => k_is); (case k7 => k_is); (case k8 => ktr_room); (case k9 => exact BindsTo.of_eq rfl); (case c5 => decide); (case kB => exact locs rfl); (case c2 => exact rfl); (case c3 => exact rfl); (case c4 => exact rfl); k_whole; intro L' h' F' N' B' X' T'; (try dsimp only); (try k_fold))
  k_steps
  exact hret _ _ _ _ kF kS kN kf ⟨⟨_, rfl⟩, rfl⟩
theorem c_write3 (w : World) (x : List Nat) (tw tx : Tok) (hx : x.length ≤ 1000) : Tell w 138 3 24 [.int 3 tw, .str (T x) tx] (fun _ => True) (RStr (x.flatMap (ch (chW 3)))) := by
  refine Tell.of ?_
  k_fill
  intro p loose mean mg mb dp un gd cn cs a ccd cl outer A₀ base h₀ L m s Q E X B F T hk hd hu ht hn hret
  refine wpAny_call ?_
  k_dflt (refine' Mine.enterP ?k1 ?k2 ?k3 ?k5 ?kA ?kF ?kK ?k6 ?k7 ?k8 ?k9 ?kB ?_ ?c2 ?c3 ?c4 ?c5; (case kA => exact rfl); (case kF => exact rfl); (case kK => assumption); (case k1 => k_asm); (case k2 => k_asm); (case k3 => k_asm); (case k5 => k_asm); (case k6 => k_is); (case k7 => k_is); (case k8 => ktr_room); (case k9 => exact BindsTo.of_eq rfl); (case c5 => decide); (case kB => exact locs rfl); (case c2 => exact rfl); (case c3 => exact rfl); (case c4 => exact rfl); k_whole; intro L' h' F' N' B' X' T'; (try dsimp only); (try k_fold))
  k_steps
  exact hret _ _ _ _ kF kS kN kf ⟨⟨_, rfl⟩, rfl⟩
theorem c_write4 (w : World) (x : List Nat) (tw tx : Tok) (hx : x.length ≤ 1000) : Tell w 138 3 24 [.int 4 tw, .str (T x) tx] (fun _ => True) (RStr (x.flatMap (ch (chW 4)))) := by
  refine Tell.of ?_
  k_fill
  intro p loose mean mg mb dp un gd cn cs a ccd cl outer A₀ base h₀ L m s Q E X B F T hk hd hu ht hn hret
  refine wpAny_call ?_
  k_dflt (refine' Mine.enterP ?k1 ?k2 ?k3 ?k5 ?kA ?kF ?kK ?k6 ?k7 ?k8 ?k9 ?kB ?_ ?c2 ?c3 ?c4 ?c5; (case kA => exact rfl); (case kF => exact rfl); (case kK => assumption); (case k1 => k_asm); (case k2 => k_asm); (case k3 => k_asm); (case k5 => k_asm); (case k6 => k_is); (case k7 => k_is); (case k8 => ktr_room); (case k9 => exact BindsTo.of_eq rfl); (case c5 => decide); (case kB => exact locs rfl); (case c2 => exact rfl); (case c3 => exact rfl); (case c4 => exact rfl); k_whole; intro L' h' F' N' B' X' T'; (try dsimp only); (try k_fold))
  k_steps
  exact hret _ _ _ _ kF kS kN kf ⟨⟨_, rfl⟩, rfl⟩
end Mine
end
theorem Mine.walk_off_P3 : True := by
  w_top off
  k_with_none
  trivial
section
open PySem PySem.W PyProof.Rows PySem.Calls PySem.Spec
set_option Elab.async false
set_option maxRecDepth 100000
set_option maxHeartbeats 8000000
namespace Mine

section
variable {prog : Program} {w : World} {A : Around} {E : Value → Shared → Prop} {R : Result → Shared → Prop} {s : Shared}

/-- the loop of one clause of a comprehension, by what holds of the items taken so far; Bd v Post E: what a turn does with the item v -/
theorem compLoop_gen {e : Expr} {depth : Nat} {acc : Value} {cenv : Env} {I : Addr} {fp wr : List Addr} {n : Nat} {P : Nat → Value → Prop} {St : Nat → Heap → Prop} (Bd : Value → (Shared → Prop) → (Value → Shared → Prop) → Shared → Prop)
    (W : Walks prog w A I fp wr n P St) (Inv : List Value → Heap → Prop)
    (keep : ∀ vs h h', Inv vs h → (∀ b o, b ∉ wr → h.get? b = some o → h'.get? b = some o) → Inv vs h')
    (hst : St 0 s.heap) (h0 : Inv [] s.heap)
    (step : ∀ vs v (s' : Shared) (Post : Shared → Prop) (E' : Value → Shared → Prop), vs.length < n → P vs.length v → (∀ j u, vs[j]? = some u → P j u) → Inv vs s'.heap → St (vs.length + 1) s'.heap → s.toks ≤ s'.toks →
       (∀ h tk, Inv (vs ++ [v]) h → St (vs.length + 1) h → Post { s' with heap := h, toks := tk }) → Bd v Post E' s')
    (done : ∀ vs h tk, vs.length = n → (∀ j u, vs[j]? = some u → P j u) → Inv vs h → s.toks ≤ tk → R (.ok .next) { s with heap := h, toks := tk })
    (hturn : ∀ (Q' : Fin → Shared → Prop) (E' : Value → Shared → Prop) (s' : Shared), wpAny (model prog w) A (pyNext (.ref I)) (fun r s₁ => match r with
      | none => Q' (.done .next) s₁
      | some v => Bd v (fun s₂ => Q' (.again (.compLoop e depth (.ref I) acc cenv)) s₂) E' s₁) E' s' → wpAny (model prog w) A (compTurn e depth (.ref I) acc cenv) Q' E' s')
    (hfr : (Code.compLoop e depth (.ref I) acc cenv).isFrame = false := by rfl) (hq : (Code.compLoop e depth (.ref I) acc cenv).quiet = true := by rfl) (hu : A.under (Code.compLoop e depth (.ref I) acc cenv) = A := by rfl) :
    codeAny (model prog w) A (.compLoop e depth (.ref I) acc cenv) R s := by
  refine codeAny_loop hq (fun k s' => ∃ h tk vs, s' = { s with heap := h, toks := tk } ∧ vs.length ≤ n ∧ k = n + 1 - vs.length ∧ (∀ j u, vs[j]? = some u → P j u) ∧ Inv vs h ∧ St vs.length h ∧ s.toks ≤ tk) ?_ (n + 1)
    ⟨s.heap, s.toks, [], rfl, Nat.zero_le _, rfl, by simp, h0, hst, Nat.le_refl _⟩
  rintro k s' ⟨h, tk, vs, rfl, hle, rfl, hP, hI, hS, htk⟩
  rw [hu]
  show wpAny _ A (if (Code.compLoop e depth (.ref I) acc cenv).isFrame then (compTurn e depth (.ref I) acc cenv).onRaise (leaving cenv) else (compTurn e depth (.ref I) acc cenv).onRaise (fun x => do noteFrame x cenv; theTreesLotGoes x)) _ _ _
  rw [hfr, if_neg Bool.false_ne_true]
  refine wpAny_noted (wpAny_with_toks (n := s.toks) htk (hturn _ _ _ ?_))
  by_cases hlt : vs.length < n
  · refine wpAny_with_toks (n := s.toks) htk (W.item vs.length _ _ _ hlt hS fun v h₁ tk₁ hPv hS₁ hk₁ htk₁ => ?_)
    refine step vs v { s with heap := h₁, toks := tk₁ } _ _ hlt hPv hP (keep _ _ _ hI hk₁) hS₁ htk₁ fun h₂ tk₂ hI₂ hS₂ htk₂ => ?_
    refine ⟨rfl, n + 1 - (vs ++ [v]).length, by rw [List.length_append, List.length_singleton]; omega, h₂, tk₂, vs ++ [v], rfl, by rw [List.length_append, List.length_singleton]; exact hlt, rfl, ?_, hI₂, by rw [List.length_append, List.length_singleton]; exact hS₂, htk₂⟩
    intro j u hj
    rcases Nat.lt_trichotomy j vs.length with q | q | q
    · exact hP j u (by rwa [List.getElem?_append_left q] at hj)
    · subst q; simp at hj; subst hj; exact hPv
    · have hnone : (vs ++ [v])[j]? = none := List.getElem?_eq_none (by rw [List.length_append, List.length_singleton]; omega)
      rw [hnone] at hj; cases hj
  · have hin : vs.length = n := by omega
    refine wpAny_with_toks (n := s.toks) htk (W.done _ _ _ (hin ▸ hS) fun h₁ tk₁ hk₁ htk₁ _ => ?_)
    exact done vs h₁ tk₁ hin hP (keep _ _ _ hI hk₁) htk₁

/-- the start of a clause: the iterator, or the iterator's iterator -/
theorem compStart_gen {e : Expr} {depth : Nat} {it acc : Value} {env : Env} {t i : Expr} {ifs : List Expr} (hc : (clausesOf e)[depth]? = some ⟨t, i, ifs, 0⟩)
    (h0 : codeAny (model prog w) A (.compLoop e depth it acc env) R s)
    (h : wpAny (model prog w) A (pyIter it) (fun it' s' => codeAny (model prog w) A (.compLoop e depth it' acc env) R s') (notedBy (model prog w) A env fun x s' => R (.error x) s') s)
    (hfr : (Code.compStart e depth it acc env).isFrame = false := by rfl) (hq : ∀ it', (Code.compLoop e depth it' acc env).quiet = true := by intro _; rfl) (hu : A.under (Code.compStart e depth it acc env) = A := by rfl) :
    codeAny (model prog w) A (.compStart e depth it acc env) R s := by
  refine codeAny_of_tree ?_
  rw [hu]
  show wpAny _ A (if (Code.compStart e depth it acc env).isFrame then (compStart e depth it acc env).onRaise (leaving env) else (compStart e depth it acc env).onRaise (fun x => do noteFrame x env; standAt theWindowsPlace)) _ _ _
  rw [hfr, if_neg Bool.false_ne_true]
  refine wpAny_notedAt ?_
  unfold compStart
  rw [hc]
  show wpAny _ _ (ask >>= _) _ _ s
  refine wpAny_bind (wpAny_askSetting (wpAny_ite ?_))
  split
  · first
      | exact wpAny_bind (wpAny_pure (wpAny_pure (And.intro (hq _) h0)))
      | exact wpAny_pure (And.intro (hq _) h0)
  · first
      | exact wpAny_bind (wpAny_rule (wpAny_bind (wpAny_standAt (wpAny_bind (wpAny_mono h (fun it' s' h' => wpAny_pure (And.intro (hq _) h')) fun _ _ x => x)))))
      | (refine wpAny_bind (wpAny_rule ?_); show wpAny _ _ (standAt i.pos >>= _) _ _ s; exact wpAny_bind (wpAny_standAt (wpAny_bind (wpAny_mono h (fun it' s' h' => wpAny_pure (And.intro (hq _) h')) fun _ _ x => x))))
end
end Mine
end
theorem Mine.walk_off_P4 : True := by
  w_top off
  k_with_none
  trivial
section
open PySem PySem.W PyProof.Rows PySem.Calls PySem.Spec
set_option Elab.async false
set_option maxRecDepth 100000
set_option maxHeartbeats 8000000
namespace Mine

section
variable {prog : Program} {w : World} {A : Around} {E : Value → Shared → Prop} {s s₂ : Shared} {env : Env}

theorem fresh_of {h : Heap} {a : Addr} (ha : h.objs.size ≤ a) : h.get? a = none := by
  cases e : h.get? a with
  | none => rfl
  | some o' => exact absurd (Heap.lt_size e) (Nat.not_lt.mpr ha)

/-- what a comprehension into a list asks of its turns: Res says what the list holds after the items vs -/
structure Turns (prog : Program) (w : World) (A : Around) (e : Expr) (scope : Scope) (cl : List (Str × Addr)) (env : Env) (s₂ : Shared) (I : Addr) (fp wr : List Addr) (n : Nat) (P : Nat → Value → Prop) (St : Nat → Heap → Prop)
    (Bd : Addr → Addr → Value → (Shared → Prop) → (Value → Shared → Prop) → Shared → Prop) (Res : List Value → List Value → Prop) : Prop where
  walks : Walks prog w A I fp wr n P St
  st : St 0 s₂.heap
  low : ∀ b ∈ fp, b < s₂.heap.objs.size
  start : Res [] []
  turn : ∀ D C (Q' : Fin → Shared → Prop) (E' : Value → Shared → Prop) (s' : Shared), wpAny (model prog w) A (pyNext (.ref I)) (fun r s₁ => match r with
      | none => Q' (.done .next) s₁
      | some v => Bd D C v (fun s₂ => Q' (.again (.compLoop e 0 (.ref I) (.ref D) (compEnvC scope cl C env))) s₂) E' s₁) E' s' → wpAny (model prog w) A (compTurn e 0 (.ref I) (.ref D) (compEnvC scope cl C env)) Q' E' s'
  step : ∀ D C vs v ys (s' : Shared) m' (Post : Shared → Prop) (E' : Value → Shared → Prop), s₂.heap.get? D = none → s₂.heap.get? C = none → D ≠ C → D ∉ fp → C ∉ fp → vs.length < n → P vs.length v → (∀ j u, vs[j]? = some u → P j u) →
    s'.heap.PlainList D ys → Res vs ys.toList → s'.heap.Ns C m' → (∀ b o, b ∉ wr → s₂.heap.get? b = some o → s'.heap.get? b = some o) → s₂.toks ≤ s'.toks → St (vs.length + 1) s'.heap →
    (∀ h tk ys' m'', h.PlainList D ys' → Res (vs ++ [v]) ys'.toList → h.Ns C m'' → (∀ b o, b ≠ D → b ≠ C → s'.heap.get? b = some o → h.get? b = some o) → Post { s' with heap := h, toks := tk }) → Bd D C v Post E' s'

theorem comp_main {elt : Expr} {g : Comprehension} {gs : List Comprehension} {scope : Scope} {cl : List (Str × Addr)} {pos : Pos} {I : Addr} {fp wr : List Addr} {n : Nat} {P : Nat → Value → Prop} {St : Nat → Heap → Prop} {Bd : Addr → Addr → Value → (Shared → Prop) → (Value → Shared → Prop) → Shared → Prop} {Res : List Value → List Value → Prop} {RR : Value → Addr → Result → Shared → Prop}
    (T : Turns prog w A (.ListComp elt (g :: gs) scope pos) scope cl env s₂ I fp wr n P St Bd Res) (hga : g.is_async = 0)
    (hcell : ∀ y ∈ scope.names, y.2 ≠ .cell) (hkind : scope.kind = .function)
    (hRR : ∀ D C h' tk m' ys (vs : List Value), s₂.heap.get? D = none → s₂.heap.get? C = none → D ≠ C → h'.Ns C m' → h'.PlainList D ys → Res vs ys.toList → vs.length = n → (∀ j v, vs[j]? = some v → P j v) →
      (∀ b o, b ∉ wr → s₂.heap.get? b = some o → h'.get? b = some o) → s₂.toks ≤ tk → RR (.ref D) C (.ok .next) { s₂ with heap := h', toks := tk }) :
    wpAny (model prog w) A (newList []) (fun acc s₃ => wpAny (model prog w) A (newFunctionEnv scope env.globals cl [] env.qual none .none (some env)) (fun cenv s₄ =>
      codeAny (model prog w) A (.compStart (.ListComp elt (g :: gs) scope pos) 0 (.ref I) acc { cenv with scope := relabel scope env }) (RR acc cenv.locals) s₄) E s₃) E s₂ := by
  have W := T.walks
  refine wpAny_newObj_type (wpAny_newFunctionEnv hcell (by intro y hy; simp at hy) (fun h₁ hns₁ hsb₁ => ?_) hkind)
  dsimp only at hns₁ hsb₁ ⊢
  generalize hH2 : s₂.heap.push { cls := .type "list", dict := none, data := .seq ([] : List Value).toArray } = H2 at hns₁ hsb₁ ⊢
  have hC : H2.objs.size = s₂.heap.objs.size + 1 := by rw [← hH2, Heap.size_push]
  have hDC : s₂.heap.objs.size ≠ H2.objs.size := by rw [hC]; exact Nat.ne_of_lt (Nat.lt_succ_self _)
  have below : ∀ b, b < s₂.heap.objs.size → b ≠ H2.objs.size ∧ b ≠ s₂.heap.objs.size := fun b hb => ⟨by rw [hC]; exact Nat.ne_of_lt (Nat.lt_succ_of_lt hb), Nat.ne_of_lt hb⟩
  have hDf : s₂.heap.objs.size ∉ fp := fun hm => Nat.lt_irrefl _ (T.low _ hm)
  have hCf : H2.objs.size ∉ fp := fun hm => by have := T.low _ hm; rw [hC] at this; exact Nat.lt_irrefl _ (Nat.lt_of_succ_lt this)
  have old : ∀ b o, s₂.heap.get? b = some o → h₁.get? b = some o := fun b o e => hsb₁.extBut b o (below b (Heap.lt_size e)).1 (Heap.get?_push_of_some _ (hH2 ▸ Heap.get?_push_of_some _ e))
  have hacc : h₁.PlainList s₂.heap.objs.size #[] := ⟨_, hsb₁.extBut _ _ hDC (Heap.get?_push_of_some _ (hH2 ▸ Heap.get?_push_size _ rfl))⟩
  have hst₁ : St 0 h₁ := W.frame _ _ _ T.st fun b _ o e => old b o e
  have fD : s₂.heap.get? s₂.heap.objs.size = none := fresh_of (Nat.le_refl _)
  have fC : s₂.heap.get? H2.objs.size = none := fresh_of (by rw [hC]; exact Nat.le_succ _)
  have hDw : s₂.heap.objs.size ∉ wr := fun h => hDf (W.sub _ h)
  have hCw : H2.objs.size ∉ wr := fun h => hCf (W.sub _ h)
  have loop : ∀ s₃ : Shared, s₃ = { s₂ with heap := h₁, toks := s₂.toks + ([] : List (Str × Value)).length } →
      codeAny (model prog w) A (.compLoop (.ListComp elt (g :: gs) scope pos) 0 (.ref I) (.ref s₂.heap.objs.size) (compEnvC scope cl H2.objs.size env))
        (RR (.ref s₂.heap.objs.size) H2.objs.size) s₃ := by
    rintro s₃ rfl
    refine compLoop_gen (Bd s₂.heap.objs.size H2.objs.size) W (fun vs h => (∃ ys, h.PlainList s₂.heap.objs.size ys ∧ Res vs ys.toList) ∧ (∃ m', h.Ns H2.objs.size m') ∧ (∀ b o, b ∉ wr → s₂.heap.get? b = some o → h.get? b = some o))
      ?_ hst₁ ⟨⟨_, hacc, by simpa using T.start⟩, ⟨_, hns₁⟩, fun b o _ e => old b o e⟩ ?_ ?_ (T.turn _ _)
    · rintro vs h h' ⟨⟨ys, h1, h2⟩, ⟨m', h3⟩, h4⟩ hk
      exact ⟨⟨ys, h1.at fun o e => hk _ o hDw e, h2⟩, ⟨m', h3.at' fun o e => hk _ o hCw e⟩, fun b o hb e => hk b o hb (h4 b o hb e)⟩
    · rintro vs v s' Post E' hlt hP hPs ⟨⟨ys, h1, h2⟩, ⟨m', h3⟩, h4⟩ hS htk hpost
      refine T.step _ _ vs v ys s' m' Post E' fD fC hDC hDf hCf hlt hP hPs h1 h2 h3 h4 (Nat.le_trans (Nat.le_add_right _ _) htk) hS fun h tk ys' m'' k1 k2 k3 k4 => ?_
      refine hpost h tk ⟨⟨ys', k1, k2⟩, ⟨m'', k3⟩, fun b o hb e => ?_⟩ (W.frame _ _ _ hS fun b hb o e => k4 b o (fun q => hDf (q ▸ hb)) (fun q => hCf (q ▸ hb)) e)
      exact k4 b o (fun q => by rw [q, fD] at e; cases e) (fun q => by rw [q, fC] at e; cases e) (h4 b o hb e)
    · rintro vs h tk hn hP ⟨⟨ys, h1, h2⟩, ⟨m', h3⟩, h4⟩ htk
      exact hRR _ _ h tk m' ys vs fD fC hDC h3 h1 h2 hn hP h4 (Nat.le_trans (Nat.le_add_right _ _) htk)
  obtain ⟨gt, gi, gf, ga⟩ := g
  cases hga
  exact compStart_gen (t := gt) (i := gi) (ifs := gf) rfl (loop _ rfl) (W.self 0 _ _ _ hst₁ (loop _ rfl))

/-- a list comprehension as a value -/
theorem listcomp_val {elt : Expr} {g : Comprehension} {gs : List Comprehension} {scope : Scope} {cl : List (Str × Addr)} {pos : Pos} {Q : Value → Shared → Prop}
    (hclos : closureFor scope env = pure cl) (hcell : ∀ y ∈ scope.names, y.2 ≠ .cell) (hkind : scope.kind = .function)
    (hnames : ∀ y ∈ scope.names, y.2 = .local → scope.names.lookup y.1 = some .local) (hga : g.is_async = 0)
    (h : wpAny (model prog w) A (eval g.iter env) (fun xv s₁ => wpAny (model prog w) A (pyIter xv) (fun it s₂ => ∃ I fp wr n P St Bd Res, it = .ref I ∧ Turns prog w A (.ListComp elt (g :: gs) scope pos) scope cl env s₂ I fp wr n P St Bd Res ∧
      (∀ D h' tk ys (vs : List Value), s₂.heap.get? D = none → h'.PlainList D ys → Res vs ys.toList → vs.length = n → (∀ j v, vs[j]? = some v → P j v) →
        (∀ b o, b ∉ wr → s₂.heap.get? b = some o → h'.get? b = some o) → s₂.toks ≤ tk → Q (.ref D) { s₂ with heap := h', toks := tk })) E s₁) E s)
    (hs : ∀ x, foldedSetIterable g.iter env x = pure x := by intro _; rfl) :
    wpAny (model prog w) A (eval (.ListComp elt (g :: gs) scope pos) env) Q E s := by
  rw [eval_ListComp]
  have hfa : firstAsync (g :: gs) = false := by cases g; cases hga; rfl
  have hfi : firstIter (g :: gs) env = eval g.iter env := by cases g; rfl
  rw [hfa, hfi]
  refine wpAny_comprehension_free (use := none) rfl hs hclos hkind hnames (wpAny_mono h (fun xv s₁ h₁ => wpAny_mono h₁ (fun it s₂ h₂ => ?_) fun _ _ e => e) fun _ _ e => e)
  obtain ⟨I, fp, wr, n, P, St, Bd, Res, rfl, T, hQ⟩ := h₂
  refine comp_main (RR := fun acc C => compPost (model prog w) A E none Q acc C) T hga hcell hkind ?_
  intro D C h' tk m' ys vs hD hC hDC hn hl hR hlen hP hk htk
  exact ⟨m', hn, fun h'' hs'' => hQ D h'' tk ys vs hD (hl.extBut hs''.extBut hDC) hR hlen hP (fun b o hbf e => hs''.extBut b o (by rintro rfl; rw [hC] at e; cases e) (hk b o hbf e)) htk⟩

/-- a list comprehension stored to a name -/
theorem listcomp_assign {elt : Expr} {g : Comprehension} {gs : List Comprehension} {scope : Scope} {cl : List (Str × Addr)} {y : Str} {py pos spos : Pos} {Q : Flow → Shared → Prop}
    (hsw : swapsWith (.ListComp elt (g :: gs) scope pos) (some (.Name y py)) spos.line env = pure true)
    (hclos : closureFor scope env = pure cl) (hcell : ∀ z ∈ scope.names, z.2 ≠ .cell) (hkind : scope.kind = .function)
    (hnames : ∀ z ∈ scope.names, z.2 = .local → scope.names.lookup z.1 = some .local) (hga : g.is_async = 0)
    (hy : env.kindOf y = some .local) (hp : (env.scope.kind == .class || (env.scope.kind == .module && env.locals != env.globals)) = false)
    (h : wpAny (model prog w) A (eval g.iter env) (fun xv s₁ => wpAny (model prog w) A (pyIter xv) (fun it s₂ => ∃ I fp wr n P St Bd Res m, it = .ref I ∧ Turns prog w A (.ListComp elt (g :: gs) scope pos) scope cl env s₂ I fp wr n P St Bd Res ∧
      env.locals ∉ wr ∧ s₂.heap.Ns env.locals m ∧
      (∀ D h' tk ys (vs : List Value), s₂.heap.get? D = none → h'.PlainList D ys → Res vs ys.toList → vs.length = n → (∀ j v, vs[j]? = some v → P j v) → h'.Ns env.locals (fun z => if z = y then some (.ref D) else m z) →
        (∀ b o, b ≠ env.locals → b ∉ wr → s₂.heap.get? b = some o → h'.get? b = some o) → s₂.toks ≤ tk → Q .next { s₂ with heap := h', toks := tk })) E s₁) E s)
    (hs : ∀ x, foldedSetIterable g.iter env x = pure x := by intro _; rfl) :
    wpAny (model prog w) A (exec (.Assign [.Name y py] (.ListComp elt (g :: gs) scope pos) spos) env) Q E s := by
  rw [exec_Assign_Name_used _ _ _ _ hsw]
  refine wpAny_bind (wpAny_standAt (wpAny_bind ?_))
  have hfa : firstAsync (g :: gs) = false := by cases g; cases hga; rfl
  have hfi : firstIter (g :: gs) env = eval g.iter env := by cases g; rfl
  show wpAny _ A (do let _ ← comprehension (.ListComp elt (g :: gs) scope pos) scope env _ (newList []) (firstAsync (g :: gs)) (firstIter (g :: gs) env) (some (assign (.Name y py) env))) _ _ s
  rw [hfa, hfi]
  refine wpAny_bind (wpAny_mono (wpAny_comprehension_free (use := some (assign (.Name y py) env)) (Q := fun _ s' => Q .next s') rfl hs hclos hkind hnames
    (wpAny_mono h (fun xv s₁ h₁ => wpAny_mono h₁ (fun it s₂ h₂ => ?_) fun _ _ e => e) fun _ _ e => e)) (fun _ s' hq => wpAny_pure (wpAny_pure hq)) fun _ _ e => e)
  obtain ⟨I, fp, wr, n, P, St, Bd, Res, m, rfl, T, hLf, hn, hQ⟩ := h₂
  refine comp_main (RR := fun acc C => compPost (model prog w) A E (some (assign (.Name y py) env)) (fun _ s' => Q .next s') acc C) T hga hcell hkind ?_
  intro D C h' tk m' ys vs hD hC hDC hnC hlD hR hlen hP hk htk
  have hLC : env.locals ≠ C := by rintro rfl; obtain ⟨o, _, _, ho, _⟩ := hn; rw [hC] at ho; cases ho
  have hLD : env.locals ≠ D := by rintro rfl; obtain ⟨o, _, _, ho, _⟩ := hn; rw [hD] at ho; cases ho
  show wpAny _ A (assign (.Name y py) env (.ref D)) _ _ _
  refine wpAny_assign_Name (wpAny_storeName_local hy (hn.at' fun o e => hk _ o hLf e) (fun h₂ hn₂ hs₂ => ?_) hp)
  refine ⟨m', hnC.sameBut hs₂ (Ne.symm hLC), fun h₃ hs₃ => ?_⟩
  exact hQ D h₃ _ ys vs hD ((hlD.extBut hs₂.extBut (Ne.symm hLD)).extBut hs₃.extBut hDC) hR hlen hP (hn₂.sameBut hs₃ hLC) (fun b o hbL hbf e =>
    hs₃.extBut b o (by rintro rfl; rw [hC] at e; cases e) (hs₂.extBut b o hbL (hk b o hbf e))) (Nat.le_succ_of_le htk)
end
end Mine
end
theorem Mine.walk_off_P5 : True := by
  w_top off
  k_with_none
  trivial
section
open PySem PySem.W PyProof.Rows PySem.Calls PySem.Spec
set_option Elab.async false
set_option maxRecDepth 100000
set_option maxHeartbeats 8000000
namespace Mine

/-- the values vs are the texts xs -/
abbrev TL (vs : List Value) (xs : List (List Nat)) : Prop := StrsAre vs (xs.map T)
theorem TL.nil : TL [] [] := StrsAre.nil
theorem TL.one (x : List Nat) (t : Tok) : TL [.str (T x) t] [x] := StrsAre.cons _ _ StrsAre.nil
theorem TL.cons {vs : List Value} {xs : List (List Nat)} (h : TL vs xs) (x : List Nat) (t : Tok) : TL (.str (T x) t :: vs) (x :: xs) := StrsAre.cons _ _ h
theorem TL.app {vs ws : List Value} {xs ys : List (List Nat)} (h : TL vs xs) (h' : TL ws ys) : TL (vs ++ ws) (xs ++ ys) := by
  unfold TL at *; rw [List.map_append]; exact StrsAre.append' h h'
theorem TL.snoc {vs : List Value} {xs : List (List Nat)} (h : TL vs xs) (x : List Nat) (t : Tok) : TL (vs ++ [.str (T x) t]) (xs ++ [x]) := h.app (TL.one x t)
theorem TL.len {vs : List Value} {xs : List (List Nat)} (h : TL vs xs) : vs.length = xs.length := by
  have := StrsAre.len_eq h; rwa [List.length_map] at this
theorem TL.get {vs : List Value} {xs : List (List Nat)} (h : TL vs xs) {i : Nat} {x : List Nat} (e : xs[i]? = some x) : ∃ t, vs[i]? = some (.str (T x) t) :=
  StrsAre.at h (by rw [List.getElem?_map, e]; rfl)
theorem TL.item {vs : List Value} {xs : List (List Nat)} (h : TL vs xs) {i : Nat} {v : Value} (e : vs[i]? = some v) : ∃ x t, v = .str (T x) t ∧ xs[i]? = some x := by
  have hl : i < xs.length := by rw [← h.len]; exact (List.getElem?_eq_some_iff.mp e).1
  obtain ⟨t, ht⟩ := h.get (List.getElem?_eq_getElem hl)
  rw [e] at ht
  exact ⟨_, t, Option.some.inj ht, List.getElem?_eq_getElem hl⟩
theorem TL.cons_inv {vs : List Value} {x : List Nat} {xs : List (List Nat)} (h : TL vs (x :: xs)) : ∃ t vs', vs = .str (T x) t :: vs' ∧ TL vs' xs := by
  unfold TL at h; rw [List.map_cons] at h; cases h with | cons y t h => exact ⟨t, _, rfl, h⟩
theorem TL.nil_inv {vs : List Value} (h : TL vs []) : vs = [] := by cases h; rfl

section
variable {prog : Program} {w : World} {A : Around} {E : Value → Shared → Prop} {s s₂ : Shared} {env : Env}

theorem cname_local {scope : Scope} {cl : List (Str × Addr)} {C : Addr} {x : Str} {pos : Pos} {m : Str → Option Value} {v : Value} {Q : Value → Shared → Prop} (hkind : scope.kind = .function) (hx : scope.names.lookup x = some .local)
    (hn : s.heap.Ns C m) (hv : m x = some v) (h : Q v s) (hd : (x == ("__debug__" : Str)) = false := by decide) : wpAny (model prog w) A (eval (.Name x pos) (compEnvC scope cl C env)) Q E s :=
  wpAny_Name (wpAny_loadName_local (by show scope.kind = .function; exact hkind) (lookup_relabel_local hx) hn hv h) hd
theorem cname_cell {scope : Scope} {cl : List (Str × Addr)} {C c : Addr} {x : Str} {pos : Pos} {v : Value} {Q : Value → Shared → Prop} (hkind : scope.kind = .function) (hx : (compEnvC scope cl C env).kindOf x = some .cell)
    (hc : cl.lookup x = some c) (hv : s.heap.IsCell c (some v)) (h : Q v s) (hd : (x == ("__debug__" : Str)) = false := by decide) : wpAny (model prog w) A (eval (.Name x pos) (compEnvC scope cl C env)) Q E s :=
  wpAny_Name (wpAny_loadName_cell (by show scope.kind = .function; exact hkind) hx hc hv h) hd
theorem cstore {scope : Scope} {cl : List (Str × Addr)} {C : Addr} {x : Str} {pos : Pos} {m : Str → Option Value} {v : Value} {Q : Unit → Shared → Prop} (hkind : scope.kind = .function) (hx : scope.names.lookup x = some .local)
    (hn : s.heap.Ns C m) (h : ∀ h', h'.Ns C (fun y => if y = x then some v else m y) → Heap.SameBut C s.heap h' → Q () { s with heap := h', toks := s.toks + 1 }) :
    wpAny (model prog w) A (assign (.Name x pos) (compEnvC scope cl C env) v) Q E s :=
  wpAny_assign_Name (wpAny_storeName_local (lookup_relabel_local hx) hn h (by simp [compEnvC, relabel, hkind]))

/-- what a turn of a clause does that ends in the list -/
noncomputable def BdL (prog : Program) (w : World) (A : Around) (t : Expr) (it : Value) (ifs : List Expr) (elt : Expr) (acc : Value) (env : Env) (v : Value) (Post : Shared → Prop) (E : Value → Shared → Prop) (s : Shared) : Prop :=
  wpAny (model prog w) A (letOwnedTupleGo t it v) (fun _ s₀ => wpAny (model prog w) A (assign t env v) (fun _ s₂ =>
    wpAny (model prog w) A (forIn ifs true fun c r => if r = true then do let ok ← isTrue c env (eval c env); pure (ForInStep.yield ok) else pure (ForInStep.yield r)) (fun ok s₃ =>
      if ok = true then wpAny (model prog w) A (eval elt env) (fun x s₄ => wpAny (model prog w) A (call (.builtin "list.append") [acc, x]) (fun _ s₅ => Post s₅) E s₄) E s₃ else Post s₃) E s₂) E s₀) E s
/-- what a turn of a clause does that has a clause beneath it -/
noncomputable def BdO (prog : Program) (w : World) (A : Around) (e : Expr) (t : Expr) (it : Value) (i2 : Expr) (acc : Value) (env : Env) (v : Value) (Post : Shared → Prop) (E : Value → Shared → Prop) (s : Shared) : Prop :=
  wpAny (model prog w) A (letOwnedTupleGo t it v) (fun _ s₀ => wpAny (model prog w) A (assign t env v) (fun _ s₁ => wpAny (model prog w) A (eval i2 env) (fun x s₂ => wpAny (model prog w) A (foldedSetIterable i2 env x) (fun x s₃ =>
    wpAny (model prog w) A (pyIter x) (fun it2 s₄ => wpAny (model prog w) A (runOwn (.compStart e 1 it2 acc env) env) (fun _ s₅ => Post s₅) E s₄) E s₃) E s₂) E s₁) E s₀) E s

theorem turn_list {elt t i : Expr} {ifs : List Expr} {scope : Scope} {pos : Pos} {it acc : Value} {env : Env} {Q : Fin → Shared → Prop}
    (h : wpAny (model prog w) A (pyNext it) (fun r s₁ => match r with
      | none => Q (.done .next) s₁
      | some v => BdL prog w A t it ifs elt acc env v (fun s₂ => Q (.again (.compLoop (.ListComp elt [⟨t, i, ifs, 0⟩] scope pos) 0 it acc env)) s₂) E s₁) E s) :
    wpAny (model prog w) A (compTurn (.ListComp elt [⟨t, i, ifs, 0⟩] scope pos) 0 it acc env) Q E s := by
  rw [compTurn_list]
  refine wpAny_bind (wpAny_standAt (wpAny_bind (wpAny_mono h (fun r s₁ h₁ => ?_) fun _ _ h' => h')))
  cases r with
  | none => exact wpAny_pure h₁
  | some v =>
    refine wpAny_bind (wpAny_mono h₁ (fun _ s₀ h₀ => wpAny_bind (wpAny_mono h₀ (fun _ s₂ h₂ => wpAny_bind (wpAny_mono h₂ (fun ok s₃ h₃ => ?_) fun _ _ h' => h')) fun _ _ h' => h')) fun _ _ h' => h')
    cases ok with
    | false => exact wpAny_pure h₃
    | true => exact wpAny_bind (wpAny_bind (wpAny_mono h₃ (fun x s₄ h₄ => wpAny_bind (wpAny_mono h₄ (fun _ s₅ h₅ => wpAny_pure (wpAny_pure h₅)) fun _ _ h' => h')) fun _ _ h' => h'))

theorem compTurn_inner (elt t i : Expr) (g : Comprehension) (ifs : List Expr) (scope : Scope) (pos : Pos) (it acc : Value) (env : Env) :
    compTurn (.ListComp elt [g, ⟨t, i, ifs, 0⟩] scope pos) 1 it acc env = (do
      standAt i.pos
      match ← pyNext it with
      | none => pure (.done .next)
      | some v =>
        letOwnedTupleGo t it v
        assign t env v
        let mut ok := true
        for c in ifs do
          if ok then ok ← isTrue c env (eval c env)
        if ok then
          (do let _ ← call (.builtin "list.append") [acc, ← eval elt env])
        again (.compLoop (.ListComp elt [g, ⟨t, i, ifs, 0⟩] scope pos) 1 it acc env)) := by rfl
theorem turn_inner {elt t i : Expr} {g : Comprehension} {ifs : List Expr} {scope : Scope} {pos : Pos} {it acc : Value} {env : Env} {Q : Fin → Shared → Prop}
    (h : wpAny (model prog w) A (pyNext it) (fun r s₁ => match r with
      | none => Q (.done .next) s₁
      | some v => BdL prog w A t it ifs elt acc env v (fun s₂ => Q (.again (.compLoop (.ListComp elt [g, ⟨t, i, ifs, 0⟩] scope pos) 1 it acc env)) s₂) E s₁) E s) :
    wpAny (model prog w) A (compTurn (.ListComp elt [g, ⟨t, i, ifs, 0⟩] scope pos) 1 it acc env) Q E s := by
  rw [compTurn_inner]
  refine wpAny_bind (wpAny_standAt (wpAny_bind (wpAny_mono h (fun r s₁ h₁ => ?_) fun _ _ h' => h')))
  cases r with
  | none => exact wpAny_pure h₁
  | some v =>
    refine wpAny_bind (wpAny_mono h₁ (fun _ s₀ h₀ => wpAny_bind (wpAny_mono h₀ (fun _ s₂ h₂ => wpAny_bind (wpAny_mono h₂ (fun ok s₃ h₃ => ?_) fun _ _ h' => h')) fun _ _ h' => h')) fun _ _ h' => h')
    cases ok with
    | false => exact wpAny_pure h₃
    | true => exact wpAny_bind (wpAny_bind (wpAny_mono h₃ (fun x s₄ h₄ => wpAny_bind (wpAny_mono h₄ (fun _ s₅ h₅ => wpAny_pure (wpAny_pure h₅)) fun _ _ h' => h')) fun _ _ h' => h'))

theorem compTurn_outer (elt t i t2 i2 : Expr) (ifs2 : List Expr) (scope : Scope) (pos : Pos) (it acc : Value) (env : Env) :
    compTurn (.ListComp elt [⟨t, i, [], 0⟩, ⟨t2, i2, ifs2, 0⟩] scope pos) 0 it acc env = (do
      standAt i.pos
      match ← pyNext it with
      | none => pure (.done .next)
      | some v =>
        letOwnedTupleGo t it v
        assign t env v
        let mut ok := true
        for c in ([] : List Expr) do
          if ok then ok ← isTrue c env (eval c env)
        if ok then
          let x ← eval i2 env
          standAt i2.pos
          let x ← foldedSetIterable i2 env x
          let _ ← runOwn (.compStart (.ListComp elt [⟨t, i, [], 0⟩, ⟨t2, i2, ifs2, 0⟩] scope pos) 1 (← holding [x] (pyIter x)) acc env) env
        again (.compLoop (.ListComp elt [⟨t, i, [], 0⟩, ⟨t2, i2, ifs2, 0⟩] scope pos) 0 it acc env)) := by rfl
theorem turn_outer {elt t i t2 i2 : Expr} {ifs2 : List Expr} {scope : Scope} {pos : Pos} {it acc : Value} {env : Env} {Q : Fin → Shared → Prop}
    (h : wpAny (model prog w) A (pyNext it) (fun r s₁ => match r with
      | none => Q (.done .next) s₁
      | some v => BdO prog w A (.ListComp elt [⟨t, i, [], 0⟩, ⟨t2, i2, ifs2, 0⟩] scope pos) t it i2 acc env v (fun s₂ => Q (.again (.compLoop (.ListComp elt [⟨t, i, [], 0⟩, ⟨t2, i2, ifs2, 0⟩] scope pos) 0 it acc env)) s₂) E s₁) E s) :
    wpAny (model prog w) A (compTurn (.ListComp elt [⟨t, i, [], 0⟩, ⟨t2, i2, ifs2, 0⟩] scope pos) 0 it acc env) Q E s := by
  rw [compTurn_outer]
  refine wpAny_bind (wpAny_standAt (wpAny_bind (wpAny_mono h (fun r s₁ h₁ => ?_) fun _ _ h' => h')))
  cases r with
  | none => exact wpAny_pure h₁
  | some v =>
    refine wpAny_bind (wpAny_mono h₁ (fun _ s₀ h₀ => wpAny_bind (wpAny_mono h₀ (fun _ s₂ h₂ => ?_) fun _ _ h' => h')) fun _ _ h' => h')
    refine wpAny_bind (wpAny_tests_nil ?_)
    refine wpAny_bind (wpAny_mono h₂ (fun x s₃ h₃ => ?_) fun _ _ h' => h')
    refine wpAny_bind (wpAny_standAt ?_)
    refine wpAny_bind (wpAny_mono h₃ (fun x s₄ h₄ => ?_) fun _ _ h' => h')
    refine wpAny_bind (wpAny_holding (wpAny_mono h₄ (fun it2 s₅ h₅ => ?_) fun _ _ h' => h'))
    exact wpAny_bind (wpAny_mono h₅ (fun _ s₆ h₆ => wpAny_pure h₆) fun _ _ h' => h')

/-- the list of every a + b, in the order of the two loops -/
noncomputable def allPairs (as bs : List (List Nat)) : List (List Nat) := as.flatMap fun a => bs.map fun b => a ++ b

theorem walks_list {I la : Addr} (hh : A.handled = none) (hne : la ≠ I) (av : List Value) : Walks prog w A I [I, la] [I] av.length (fun i v => av[i]? = some v) (fun i h => h.IsListIter I la i ∧ h.IsList la av.toArray) := by
  have W := Walks.list (prog := prog) (w := w) hh I la hne av.toArray
  have e : av.toArray.size = av.length := by simp
  rw [e] at W
  have e2 : (fun i v => av.toArray[i]? = some v) = (fun (i : Nat) v => av[i]? = some v) := by funext i v; simp
  rw [e2] at W
  exact W

/-- [a + b for a in as for b in bs] of texts, bs held by a cell -/
theorem words_turns {na nb nbs : Str} {i1 : Expr} {p1 p2 p3 p4 p5 p6 : Pos} {scope : Scope} {cl : List (Str × Addr)} {pos : Pos} {I la lb c : Addr} {av bv : List Value} {as bs : List (List Nat)}
    (hh : A.handled = none) (hkind : scope.kind = .function) (ha : scope.names.lookup na = some .local) (hb : scope.names.lookup nb = some .local) (hab : nb ≠ na) (hbs : ∀ C, (compEnvC scope cl C env).kindOf nbs = some .cell) (hc : cl.lookup nbs = some c)
    (da : (na == ("__debug__" : Str)) = false) (db : (nb == ("__debug__" : Str)) = false) (dbs : (nbs == ("__debug__" : Str)) = false)
    (hit : s₂.heap.IsListIter I la 0) (hla : s₂.heap.IsList la av.toArray) (hav : TL av as) (hcell : s₂.heap.IsCell c (some (.ref lb))) (hlb : s₂.heap.IsList lb bv.toArray) (hbv : TL bv bs) (hIc : la ≠ I) (hcI : c ≠ I) (hbI : lb ≠ I)
    (sz : as.length * bs.length ≤ 100000) (szb : bs.length ≤ 100000) (sza : as.length ≤ 100000) (sa : ∀ a ∈ as, a.length ≤ 1000) (sb : ∀ b ∈ bs, b.length ≤ 1000) :
    Turns prog w A (.ListComp (.BinOp (.Name na p1) .Add (.Name nb p2) p3) [⟨.Name na p4, i1, [], 0⟩, ⟨.Name nb p5, .Name nbs p6, [], 0⟩] scope pos) scope cl env s₂ I [I, la] [I] av.length (fun i v => av[i]? = some v) (fun i h => h.IsListIter I la i ∧ h.IsList la av.toArray)
      (fun D C v => BdO prog w A (.ListComp (.BinOp (.Name na p1) .Add (.Name nb p2) p3) [⟨.Name na p4, i1, [], 0⟩, ⟨.Name nb p5, .Name nbs p6, [], 0⟩] scope pos) (.Name na p4) (.ref I) (.Name nbs p6) (.ref D) (compEnvC scope cl C env) v)
      (fun vs ys => TL ys (allPairs (as.take vs.length) bs)) := by
  refine { walks := walks_list hh hIc av, st := ⟨hit, hla⟩, low := ?_, start := TL.nil, turn := fun D C Q' E' s' h => turn_outer h, step := ?_ }
  · intro b hb
    simp only [List.mem_cons, List.not_mem_nil, or_false] at hb
    rcases hb with rfl | rfl
    · obtain ⟨o, e, _⟩ := hit; exact Heap.lt_size e
    · obtain ⟨o, e, _⟩ := hla; exact Heap.lt_size e
  · intro D C vs v ys s' m' Post E' hD hC hDC hDf hCf hlt hPv _ hl hR hn hk htk hS hpost
    obtain ⟨a, ta, rfl, hae⟩ := hav.item hPv
    have hDI : D ≠ I := fun e => hDf (by simp [e])
    have hCI : C ≠ I := fun e => hCf (by simp [e])
    unfold BdO
    refine wpAny_pure ?_
    refine cstore hkind ha hn fun h₁ hn₁ hs₁ => ?_
    have up₁ : ∀ b o, b ≠ I → s₂.heap.get? b = some o → h₁.get? b = some o := fun b o hb e => hs₁.extBut b o (fun q => by rw [q, hC] at e; cases e) (hk b o (by simpa using hb) e)
    have hcell₁ : h₁.IsCell c (some (.ref lb)) := by obtain ⟨o, e, r⟩ := hcell; exact ⟨o, up₁ _ _ hcI e, r⟩
    have hlb₁ : h₁.IsList lb bv.toArray := by obtain ⟨o, e, r⟩ := hlb; exact ⟨o, up₁ _ _ hbI e, r⟩
    have hlD₁ : h₁.PlainList D ys := hl.extBut hs₁.extBut hDC
    refine cname_cell hkind (hbs C) hc hcell₁ ?_ dbs
    refine wpAny_pure (wpAny_pyIter_list hlb₁ ?_)
    generalize hI2 : h₁.objs.size = I2
    generalize hH : h₁.push { cls := .type "list_iterator", data := .fields #[.ref lb, .int 0 0] } = h₂
    have hit₂ : h₂.IsListIter I2 lb 0 := by rw [← hH, ← hI2]; exact ⟨_, Heap.get?_push_size _ rfl, rfl, rfl⟩
    have up₂ : ∀ b o, h₁.get? b = some o → h₂.get? b = some o := fun b o e => by rw [← hH]; exact Heap.get?_push_of_some _ e
    have fI : h₁.get? I2 = none := by rw [← hI2]; exact fresh_of (Nat.le_refl _)
    have nI : ∀ b o, h₁.get? b = some o → b ≠ I2 := fun b o e q => by rw [q, fI] at e; cases e
    have hlb₂ : h₂.IsList lb bv.toArray := by obtain ⟨o, e, r⟩ := hlb₁; exact ⟨o, up₂ _ _ e, r⟩
    have hbI2 : lb ≠ I2 := by obtain ⟨o, e, r⟩ := hlb₁; exact nI _ _ e
    have hDI2 : D ≠ I2 := by obtain ⟨n, e⟩ := hlD₁; exact nI _ _ e
    have hCI2 : C ≠ I2 := by obtain ⟨o, es, ep, e, _⟩ := hn₁; exact nI _ _ e
    have W2 : Walks prog w (A.mark none) I2 [I2, lb] [I2] bv.length (fun i v => bv[i]? = some v) (fun i h => h.IsListIter I2 lb i ∧ h.IsList lb bv.toArray) :=
      walks_list (by show (none : Option Value).or A.handled = none; rw [hh]; rfl) hbI2 bv
    have hm₁ : (fun y => if y = na then some (Value.str (T a) ta) else m' y) na = some (Value.str (T a) ta) := by simp
    generalize (fun y => if y = na then some (Value.str (T a) ta) else m' y) = m₁ at hn₁ hm₁
    have hia : vs.length < as.length := (List.getElem?_eq_some_iff.mp hae).1
    have hasz : a.length ≤ 1000 := sa a (List.mem_of_getElem? hae)
    have fin : ∀ (s₃ : Shared), s₃ = ({ s' with heap := h₂, toks := s'.toks + 1 } : Shared) → codeAny (model prog w) (A.mark none) (.compLoop (.ListComp (.BinOp (.Name na p1) .Add (.Name nb p2) p3) [⟨.Name na p4, i1, [], 0⟩, ⟨.Name nb p5, .Name nbs p6, [], 0⟩] scope pos) 1 (.ref I2) (.ref D) (compEnvC scope cl C env))
        (fun r s'' => match r with
          | .ok f => Post s''
          | .error e => cameBackBy (model prog w) A (compEnvC scope cl C env) E' e s'') s₃ := by
      rintro s₃ rfl
      refine compLoop_gen (fun v => BdL prog w (A.mark none) (.Name nb p5) (.ref I2) [] (.BinOp (.Name na p1) .Add (.Name nb p2) p3) (.ref D) (compEnvC scope cl C env) v)
        W2 (fun us h => (∃ ys', h.PlainList D ys' ∧ TL ys'.toList (allPairs (as.take vs.length) bs ++ (bs.take us.length).map fun b => a ++ b)) ∧ (∃ m'', h.Ns C m'' ∧ m'' na = some (.str (T a) ta)) ∧ (∀ b o, b ≠ D → b ≠ C → b ≠ I2 → h₂.get? b = some o → h.get? b = some o))
        ?_ ⟨hit₂, hlb₂⟩ ⟨⟨ys, hlD₁.at (up₂ D), by simpa using hR⟩, ⟨m₁, hn₁.at' (up₂ C), hm₁⟩, fun b o _ _ _ e => e⟩ ?_ ?_ (fun Q' E' s' h => turn_inner h)
      · rintro us h h' ⟨⟨y, h1, h2⟩, ⟨m2, h3, h4⟩, h5⟩ hk'
        exact ⟨⟨y, h1.at fun o e => hk' _ o (by simpa using hDI2) e, h2⟩, ⟨m2, h3.at' fun o e => hk' _ o (by simpa using hCI2) e, h4⟩, fun b o a1 a2 a3 e => hk' b o (by simpa using a3) (h5 b o a1 a2 a3 e)⟩
      · rintro us u s4 Post4 E4 hul hPu _ ⟨⟨y, h1, h2⟩, ⟨m2, h3, h4⟩, h5⟩ hS4 htk4 hpost4
        obtain ⟨b, tb, rfl, hbe⟩ := hbv.item hPu
        have hib : us.length < bs.length := (List.getElem?_eq_some_iff.mp hbe).1
        have hbsz : b.length ≤ 1000 := sb b (List.mem_of_getElem? hbe)
        unfold BdL
        refine wpAny_pure ?_
        refine cstore hkind hb h3 fun h₅ hn₅ hs₅ => ?_
        refine wpAny_tests_nil ?_
        rw [if_pos rfl]
        have hm5 : (fun y => if y = nb then some (Value.str (T b) tb) else m2 y) na = some (Value.str (T a) ta) := by
          show (if na = nb then _ else _) = _
          rw [if_neg (Ne.symm hab)]; exact h4
        refine wpAny_BinOp (cname_local hkind ha hn₅ hm5 (cname_local (v := Value.str (T b) tb) hkind hb hn₅ (by simp) (add_str (fun t' tk => ?_) ?_) db) da)
        · rw [T_app]
          have hyl : y.size ≤ 200000 := by
            have e1 := h2.len
            rw [List.length_append, List.length_map, Array.length_toList, List.length_take] at e1
            have e2 : (allPairs (as.take vs.length) bs).length = (as.take vs.length).length * bs.length := by
              unfold allPairs
              generalize as.take vs.length = l
              induction l with
              | nil => simp
              | cons x l ih => rw [List.flatMap_cons, List.length_append, ih, List.length_map, List.length_cons, Nat.succ_mul]; omega
            have e3 : (as.take vs.length).length * bs.length ≤ as.length * bs.length := Nat.mul_le_mul_right _ (by rw [List.length_take]; omega)
            omega
          refine wpAny_list_append_plain (l := D) (items := y) (h1.extBut hs₅.extBut hDC) (fun h₆ hl₆ hs₆ => ?_) (by rw [sizeLine_eq]; omega)
          refine hpost4 h₆ _ ⟨⟨_, hl₆, ?_⟩, ⟨_, hn₅.sameBut hs₆ (Ne.symm hDC), hm5⟩, fun b' o a1 a2 a3 e => hs₆.extBut b' o a1 (hs₅.extBut b' o a2 (h5 b' o a1 a2 a3 e))⟩ ?_
          · rw [Array.toList_push, List.length_append, List.length_singleton, List.take_add_one, hbe]
            have := h2.snoc (a ++ b) t'
            simpa using this
          · refine ⟨?_, ?_⟩
            · obtain ⟨o, e, r⟩ := hS4.1; exact ⟨o, hs₆.extBut _ o (Ne.symm hDI2) (hs₅.extBut _ o (Ne.symm hCI2) e), r⟩
            · have hbD : lb ≠ D := fun q => by obtain ⟨o, e, _⟩ := hlb; rw [q, hD] at e; cases e
              have hbC : lb ≠ C := fun q => by obtain ⟨o, e, _⟩ := hlb; rw [q, hC] at e; cases e
              obtain ⟨o, e, r⟩ := hS4.2; exact ⟨o, hs₆.extBut _ o hbD (hs₅.extBut _ o hbC e), r⟩
        · rw [sizeLine_eq, T_len, T_len]; omega
      · rintro us h tk hul _ ⟨⟨y, h1, h2⟩, ⟨m2, h3, h4⟩, h5⟩ htk5
        refine hpost h tk y m2 h1 ?_ h3 fun b o a1 a2 e => h5 b o a1 a2 (nI b o (hs₁.extBut b o a2 e)) (up₂ b o (hs₁.extBut b o a2 e))
        have hbl : us.length = bs.length := by rw [hul, hbv.len]
        rw [hbl, List.take_length] at h2
        rw [List.length_append, List.length_singleton, List.take_add_one, hae]
        unfold allPairs at h2 ⊢
        simpa using h2
    refine wpAny_runOwn (c := .compStart _ 1 (.ref I2) (.ref D) (compEnvC scope cl C env)) ?_
    exact compStart_gen (t := .Name nb p5) (i := .Name nbs p6) (ifs := []) rfl (fin _ rfl) (W2.self 0 _ _ _ ⟨hit₂, hlb₂⟩ (fin _ rfl))
end
end Mine
end
theorem Mine.walk_off_P6 : True := by
  w_top off
  k_with_none
  trivial
section
open PySem PySem.W PyProof.Rows PySem.Calls PySem.Spec
set_option Elab.async false
set_option maxRecDepth 100000
set_option maxHeartbeats 8000000
namespace Mine

abbrev lstObj (ys : Array Value) (n : Nat) : Obj := { cls := .type "list", data := .seq ys n }

theorem fr_assign {h₀ h h' : Heap} {L : Addr} {m m' : Str → Option Value} (F : Fr h₀ L h m) (hn' : h'.Ns L m') (hk : ∀ b o, b ≠ L → h.get? b = some o → h'.get? b = some o) : Fr h₀ L h' m' :=
  ⟨hn', fun b o e => hk b o (Nat.ne_of_lt (Nat.lt_of_lt_of_le (Heap.lt_size e) F.above)) (F.keep b o e), F.above⟩
theorem news_assign {h₀ h h' : Heap} {L : Addr} {news : List (Addr × Obj)} (N : News h₀ L h news) (hk : ∀ b o, b ≠ L → h.get? b = some o → h'.get? b = some o) : News h₀ L h' news :=
  fun p hp => ⟨hk _ _ (N p hp).2.1 (N p hp).1, (N p hp).2⟩
theorem news_cons {h₀ h h' : Heap} {L D : Addr} {o : Obj} {m : Str → Option Value} {news : List (Addr × Obj)} (F : Fr h₀ L h m) (hD : h.get? D = none) (hl : h'.get? D = some o) (N : News h₀ L h' news) : News h₀ L h' ((D, o) :: news) := by
  intro p hp
  rcases List.mem_cons.mp hp with rfl | hp
  · refine ⟨hl, fun e => ?_, ?_⟩
    · obtain ⟨oL, _, _, hL, _⟩ := F.ns
      have e' : D = L := e
      rw [← e', hD] at hL; cases hL
    · cases q : h₀.get? D with
      | none => rfl
      | some o' => have := F.keep _ _ q; rw [hD] at this; cases this
  · exact N p hp
theorem news_ne {h₀ h : Heap} {L D : Addr} {news : List (Addr × Obj)} (N : News h₀ L h news) (hD : h.get? D = none) : ∀ p ∈ news, p.1 ≠ D := fun p hp e => by
  have := (N p hp).1
  rw [e, hD] at this; cases this

section
variable {prog : Program} {w : World} {A : Around} {E : Value → Shared → Prop} {s : Shared} {h₀ : Heap} {m : Str → Option Value} {env : Env} {news : List (Addr × Obj)}

/-- x = [a + b for a in x' for b in bs], a and b texts -/
theorem step_words {na nb nbs y nl : Str} {p1 p2 p3 p4 p5 p6 p7 py pos spos : Pos} {scope : Scope} {cl : List (Str × Addr)} {la lb c : Addr} {oc : Obj} {av bv : List Value} {na' : Nat} {as bs : List (List Nat)} {Q : Flow → Shared → Prop}
    (F : Fr h₀ env.locals s.heap m) (N : News h₀ env.locals s.heap news) (hla : (la, lstObj av.toArray na') ∈ news) (hav : TL av as) (hoc : (c, oc) ∈ news) (hcell : oc.data = .cell (some (.ref lb))) (hlb : h₀.IsList lb bv.toArray) (hbv : TL bv bs)
    (sz : as.length * bs.length ≤ 100000) (szb : bs.length ≤ 100000) (sza : as.length ≤ 100000) (sa : ∀ a ∈ as, a.length ≤ 1000) (sb : ∀ b ∈ bs, b.length ≤ 1000)
    (hnl : ∀ (E : Value → Shared → Prop) (Q : Value → Shared → Prop), Q (.ref la) s → wpAny (model prog w) A (eval (.Name nl p7) env) Q E s)
    (h : ∀ D h' tk ys n, Fr h₀ env.locals h' (fun z => if z = y then some (.ref D) else m z) → News h₀ env.locals h' ((D, lstObj (List.toArray ys) n) :: news) → (∀ p ∈ news, p.1 ≠ D) → TL ys (allPairs as bs) → Q .next { s with heap := h', toks := tk })
    (hh : A.handled = none) (hkind : scope.kind = .function) (ha : scope.names.lookup na = some .local) (hb : scope.names.lookup nb = some .local) (hab : nb ≠ na) (hbs : ∀ C, (compEnvC scope cl C env).kindOf nbs = some .cell) (hc : cl.lookup nbs = some c)
    (da : (na == ("__debug__" : Str)) = false) (db : (nb == ("__debug__" : Str)) = false) (dbs : (nbs == ("__debug__" : Str)) = false)
    (hsw : swapsWith (.ListComp (.BinOp (.Name na p1) .Add (.Name nb p2) p3) [⟨.Name na p4, .Name nl p7, [], 0⟩, ⟨.Name nb p5, .Name nbs p6, [], 0⟩] scope pos) (some (.Name y py)) spos.line env = pure true)
    (hclos : closureFor scope env = pure cl) (hcell' : ∀ z ∈ scope.names, z.2 ≠ .cell) (hnames : ∀ z ∈ scope.names, z.2 = .local → scope.names.lookup z.1 = some .local)
    (hy : env.kindOf y = some .local) (hp : (env.scope.kind == .class || (env.scope.kind == .module && env.locals != env.globals)) = false) :
    wpAny (model prog w) A (exec (.Assign [.Name y py] (.ListComp (.BinOp (.Name na p1) .Add (.Name nb p2) p3) [⟨.Name na p4, .Name nl p7, [], 0⟩, ⟨.Name nb p5, .Name nbs p6, [], 0⟩] scope pos) spos) env) Q E s := by
  have hlaL : s.heap.IsList la av.toArray := ⟨_, (N _ hla).1, rfl, _, rfl⟩
  have hlbL : s.heap.IsList lb bv.toArray := by obtain ⟨o, e, r⟩ := hlb; exact ⟨o, F.keep _ _ e, r⟩
  refine listcomp_assign hsw hclos hcell' hkind hnames rfl hy hp (hnl _ _ (wpAny_pyIter_list hlaL ?_))
  generalize hI : s.heap.objs.size = I
  generalize hH : s.heap.push { cls := .type "list_iterator", data := .fields #[.ref la, .int 0 0] } = h₂
  have hit : h₂.IsListIter I la 0 := by rw [← hH, ← hI]; exact ⟨_, Heap.get?_push_size _ rfl, rfl, rfl⟩
  have up : ∀ b o, s.heap.get? b = some o → h₂.get? b = some o := fun b o e => by rw [← hH]; exact Heap.get?_push_of_some _ e
  have fI : s.heap.get? I = none := by rw [← hI]; exact fresh_of (Nat.le_refl _)
  have nI : ∀ b o, s.heap.get? b = some o → b ≠ I := fun b o e q => by rw [q, fI] at e; cases e
  refine ⟨I, _, [I], _, _, _, _, _, m, rfl, words_turns (la := la) (lb := lb) (c := c) (av := av) (bv := bv) (as := as) (bs := bs) hh hkind ha hb hab hbs hc da db dbs hit ?_ hav ⟨oc, up _ _ (N _ hoc).1, hcell⟩ ?_ hbv (nI _ _ (N _ hla).1) (nI _ _ (N _ hoc).1) ?_ sz szb sza sa sb, ?_, ?_, ?_⟩
  · obtain ⟨o, e, r⟩ := hlaL; exact ⟨o, up _ _ e, r⟩
  · obtain ⟨o, e, r⟩ := hlbL; exact ⟨o, up _ _ e, r⟩
  · obtain ⟨o, e, r⟩ := hlbL; exact nI _ _ e
  · obtain ⟨o, _, _, e, _⟩ := F.ns
    intro hm
    exact nI _ _ e (List.mem_singleton.mp hm)
  · exact F.ns.at' fun o e => up _ _ e
  · intro D h' tk ys vs hD hl hR hlen hP hn hk htk
    have hk' : ∀ b o, b ≠ env.locals → s.heap.get? b = some o → h'.get? b = some o := fun b o hb e => hk b o hb (by simpa using nI _ _ e) (up _ _ e)
    have hD' : s.heap.get? D = none := by
      cases e : s.heap.get? D with
      | none => rfl
      | some o => rw [up _ _ e] at hD; cases hD
    obtain ⟨n, hl⟩ := hl
    rw [hlen, hav.len, List.take_length] at hR
    have hl' : h'.get? D = some (lstObj (List.toArray ys.toList) n) := hl
    exact h D h' tk ys.toList n (fr_assign F hn hk') (news_cons F hD' hl' (news_assign N hk')) (news_ne N hD') hR
end
end Mine
end
theorem Mine.walk_off_P7 : True := by
  w_top off
  k_with_none
  trivial
section
open PySem PySem.W PyProof.Rows PySem.Calls PySem.Spec
set_option Elab.async false
set_option maxRecDepth 100000
set_option maxHeartbeats 8000000
namespace Mine

section
variable {prog : Program} {w : World} {A : Around} {E : Value → Shared → Prop} {s : Shared} {h₀ : Heap} {L D : Addr} {m : Str → Option Value} {news news' : List (Addr × Obj)} {n : Nat}

/-- list(text) -/
theorem listStr_M {x : Str} {l : List Nat} {t : Tok} {Q : Value → Shared → Prop} (hh : A.handled = none) (hx : x = T l) (F : Fr h₀ L s.heap m) (N : News h₀ L s.heap news) (hl : l.length ≤ 100000)
    (h : ∀ D h' tk ys n, Fr h₀ L h' m → News h₀ L h' ((D, W.listOf (List.toArray ys) n) :: news) → (∀ p ∈ news, p.1 ≠ D) → TL ys (l.map fun c => [c]) → Q (.ref D) { s with heap := h', toks := tk }) :
    wpAny (model prog w) A (call (.type "list") [.str x t]) Q E s := by
  subst hx
  refine call_list_str hh (T l) t (hn := by rw [sizeLine_eq]; show (T l).length ≤ _; rw [T_len]; omega) fun h' tk acc' c' hk hS' hacc => ?_
  have fD : s.heap.get? s.heap.objs.size = none := fresh_of (Nat.le_refl _)
  refine h s.heap.objs.size h' tk acc'.toList c' (F.keeps hk) (news_cons F fD (by simpa using hS') (N.grown hk)) (news_ne N fD) ?_
  have h2 := hacc.2
  have h1 : acc'.toList.length = l.length := by have := hacc.1; simp [T] at this; simpa using this
  have key : ∀ (k : Nat) (ys : List Value) (r : List Nat), ys.length = r.length → (∀ (j : Nat) (v : Value), ys[j]? = some v → ∃ (c : Nat) (u : Tok), r[j]? = some c ∧ v = Value.str (T [c]) u) → TL ys (r.map fun c => [c]) := by
    intro _ ys
    induction ys with
    | nil => intro r e _; cases r with | nil => exact TL.nil | cons _ _ => cases e
    | cons y ys ih =>
      intro r e hv
      cases r with
      | nil => cases e
      | cons c r =>
        obtain ⟨c', u, hc, rfl⟩ := hv 0 y rfl
        simp at hc; subst hc
        exact TL.cons (ih r (by simpa using e) fun j v hj => hv (j + 1) v (by simpa using hj)) _ _
  refine key 0 _ l h1 fun j v hj => ?_
  obtain ⟨c, u, hc, rfl⟩ := h2 j v (by simpa using hj)
  exact ⟨c, u, by simpa [T] using hc, rfl⟩

theorem cut_at {vs : List Value} {k : Nat} {y : Value} (hy : vs[k]? = some y) : W.kl_cut vs k = some (vs.take k, y, vs.drop (k + 1)) := by
  induction vs generalizing k with
  | nil => cases hy
  | cons v vs ih =>
    cases k with
    | zero => simp at hy; subst hy; rfl
    | succ k => simp at hy; simp [W.kl_cut, ih hy]

/-- pop(i) of a list of texts -/
theorem pop_TL {vs : List Value} {xs : List (List Nat)} {i : Int} {u : Tok} {news' : List Value → List (Addr × Obj)} {Q : Value → Shared → Prop} (F : Fr h₀ L s.heap m) (N : News h₀ L s.heap news) (hT : TL vs xs) (h0 : 0 ≤ i) {k9 : Nat} (hN : xs.length = k9 + 1) (h1' : i < ((k9 + 1 : Nat) : Int)) (hs' : k9 ≤ 10000)
    (U : ∀ vs' : List Value, Upd D (W.listOf vs.toArray n) (W.listOf vs'.toArray (n + 1)) news (news' vs'))
    (h : ∀ h' t x vs' xs', Fr h₀ L h' m → News h₀ L h' (news' vs') → TL vs' xs' → xs.Perm (x :: xs') → xs'.length = k9 → Q (.str (T x) t) { s with heap := h' }) :
    wpAny (model prog w) A (call (.builtin "list.pop") [.ref D, .int i u]) Q E s := by
  have h1 : i < xs.length := by rw [hN]; exact h1'
  have hs : xs.length ≤ 100000 := by omega
  have hk : i.toNat < xs.length := by omega
  have hx : xs[i.toNat]? = some (xs.getD i.toNat []) := by simp [List.getD, hk]
  obtain ⟨t, ht⟩ := hT.get hx
  have hlen := hT.len
  refine kl_popAt F N (k := i.toNat) (p := vs.take i.toNat) (q := vs.drop (i.toNat + 1)) (y := .str (T (xs.getD i.toNat [])) t) ?_ ?_ (cut_at ht) (U _) ?_ fun h' F' N' => h h' t _ _ (xs.take i.toNat ++ xs.drop (i.toNat + 1)) F' N' ?_ ?_ ?_
  · unfold Builtin.List.listFitsIndex
    simp; omega
  · rw [StrLaws.seqIndex_nonneg h0 (by rw [List.size_toArray]; omega)]
  · rw [sizeLine_eq]; simp; omega
  · refine TL.app ?_ ?_
    · have := StrsAre.take' hT i.toNat; rwa [← List.map_take] at this
    · have := StrsAre.drop' hT (i.toNat + 1); rwa [← List.map_drop] at this
  · have e : xs = xs.take i.toNat ++ xs.getD i.toNat [] :: xs.drop (i.toNat + 1) := by
      have e2 := List.take_append_drop i.toNat xs
      have e3 : xs.drop i.toNat = xs.getD i.toNat [] :: xs.drop (i.toNat + 1) := by
        rw [List.drop_eq_getElem_cons hk]
        congr 1
        simp [List.getD, hk]
      rw [e3] at e2
      exact e2.symm
    conv => lhs; rw [e]
    exact List.perm_middle
  · rw [List.length_append, List.length_take, List.length_drop]; omega

/-- sorted of a made list of texts -/
theorem sorted_M {its : Array Value} {xs : List (List Nat)} {Q : Value → Shared → Prop} (F : Fr h₀ L s.heap m) (N : News h₀ L s.heap news) (hl : (D, W.listOf its n) ∈ news) (hT : TL its.toList xs) (h64 : xs.length < 64)
    (h : ∀ D' h' vs' xs' e, Fr h₀ L h' m → News h₀ L h' ((D', W.listOf (List.toArray vs') e) :: news) → TL vs' xs' → xs'.Perm xs → sortedS (xs'.map T) = true → Q (.ref D') { s with heap := h' }) :
    wpAny (model prog w) A (call (.builtin "sorted") [.ref D]) Q E s := by
  have hlen := hT.len
  refine sorted_N_str (l := D) (vs := its.toList) F N (by have := News.isList N hl; simpa using this) hT (by omega) fun h' vs' ss' e F' N' hS' hp hs => ?_
  have e1 := map_T_of ss'
  generalize ss'.map (fun x => x.cps.toList) = xs' at e1
  subst e1
  refine h _ h' vs' xs' e F' N' hS' ?_ hs
  have := hp.map (fun x : Str => x.cps.toList)
  simpa [List.map_map, Function.comp_def, T_cps] using this
end

/-- a stop for the walk -/
noncomputable def Hold (P : Prop) : Prop := P
theorem hold {P : Prop} (h : Hold P) : P := h
/-- a statement's end, cut -/
noncomputable def GotF (P : Shared → Prop) (f : Flow) (s' : Shared) : Prop := f = .next ∧ P s'
section
variable {M : Model} {A : Around} {E : Value → Shared → Prop} {s : Shared} {env : Env} {Q : Flow → Shared → Prop}
theorem cut_execs1 {st : Stmt} {rest : List Stmt} (P : Shared → Prop) (h1 : wpAny M A (exec st env) (GotF P) E s) (h2 : ∀ s', P s' → wpAny M A (execs rest env) Q E s') : wpAny M A (execs (st :: rest) env) Q E s :=
  wpAny_execs_cons (wpAny_mono h1 (fun f s' q => by obtain ⟨rfl, q⟩ := q; exact h2 s' q) fun _ _ q => q)
theorem cut_execs2 {st st2 : Stmt} {rest : List Stmt} (P : Shared → Prop) (h1 : wpAny M A (exec st env) (fun f s1 => match f with | .next => wpAny M A (exec st2 env) (GotF P) E s1 | _ => False) E s) (h2 : ∀ s', P s' → wpAny M A (execs rest env) Q E s') : wpAny M A (execs (st :: st2 :: rest) env) Q E s :=
  wpAny_execs_cons (wpAny_mono h1 (fun f s' q => by cases f <;> first | exact cut_execs1 P q h2 | exact q.elim) fun _ _ q => q)
end

noncomputable def pool16 : List (List Nat) := [[97], [60], [59], [38], [62], [34], [13], [10], [9], [109], [35], [42], [63], [91], [93], [92]]
/-- the pool is whole: sixteen signs and one more -/
noncomputable def PoolIs (s : Shared) (g : Heap) (L D : Addr) (m₁ : Str → Option Value) (s' : Shared) : Prop :=
  ∃ h tk ys n c x, s' = { s with heap := h, toks := tk } ∧ Fr g L h (fun y => if y = Str.ofString "sign" then some x else m₁ y) ∧ News g L h [(D, W.listOf (List.toArray ys) n)] ∧ TL ys (pool16 ++ [[c]]) ∧ [c] ∉ pool16 ∧ c ≠ 47
theorem cut_signs {M : Model} {A : Around} {E : Value → Shared → Prop} {s : Shared} {env : Env} {Q : Flow → Shared → Prop} {g : Heap} {L D : Addr} {m₁ : Str → Option Value} {o : Obj} {st st2 : Stmt} {rest : List Stmt} (F : Fr g L s.heap m₁) (N : News g L s.heap [(D, o)])
    (h1 : wpAny M A (exec st env) (fun f s1 => match f with | .next => wpAny M A (exec st2 env) (GotF (PoolIs s g L D m₁)) E s1 | _ => False) E s) (h2 : ∀ s', PoolIs s g L D m₁ s' → wpAny M A (execs rest env) Q E s') : wpAny M A (execs (st :: st2 :: rest) env) Q E s := cut_execs2 _ h1 h2
theorem pool_z {s : Shared} {g h : Heap} {L D : Addr} {m₁ : Str → Option Value} {ys : List Value} {t : Tok} {tk n : Nat} {x : Value} (F : Fr g L h (fun y => if y = Str.ofString "sign" then some x else m₁ y)) (N : News g L h [(D, W.listOf (ys.toArray.push (.str (Str.ofString "z") t)) n)]) (hT : TL ys pool16) :
    GotF (PoolIs s g L D m₁) .next { s with heap := h, toks := tk } := by
  refine ⟨rfl, h, tk, ys ++ [.str (T [122]) t], n, 122, x, rfl, F, ?_, hT.snoc _ _, by decide, by decide⟩
  have e : ys.toArray.push (Value.str (Str.ofString "z") t) = (ys ++ [Value.str (T [122]) t]).toArray := by
    rw [show Str.ofString "z" = T [122] by decide]; simp
  rw [← e]; exact N
theorem pool_c {s : Shared} {g h : Heap} {L D : Addr} {m₁ : Str → Option Value} {ys : List Value} {t : Tok} {tk n c : Nat} {x : Value} (F : Fr g L h (fun y => if y = Str.ofString "sign" then some x else m₁ y)) (N : News g L h [(D, W.listOf (ys.toArray.push (.str ⟨#[c]⟩ t)) n)]) (hT : TL ys pool16)
    (h1 : ((List.map T pool16).any fun x => x == (⟨#[c]⟩ : Str)) = false) (h2 : ((⟨#[c]⟩ : Str) == Str.ofString "/") = false) :
    GotF (PoolIs s g L D m₁) .next { s with heap := h, toks := tk } := by
  refine ⟨rfl, h, tk, ys ++ [.str (T [c]) t], n, c, x, rfl, F, ?_, hT.snoc _ _, fun hm => ?_, fun e => ?_⟩
  · have e : ys.toArray.push (Value.str ⟨#[c]⟩ t) = (ys ++ [Value.str (T [c]) t]).toArray := by
      rw [show (⟨#[c]⟩ : Str) = T [c] from rfl]; simp
    rw [← e]; exact N
  · rw [List.any_eq_false] at h1
    have := h1 (T [c]) (List.mem_map_of_mem hm)
    exact this (by show (T [c] == T [c]) = true; rw [T_beq]; simp)
  · subst e
    rw [show (⟨#[47]⟩ : Str) = Str.ofString "/" by decide] at h2
    simp at h2

theorem rising_pw : ∀ (l : List Str) (p : Str), risingS p l = true → (p :: l).Pairwise (fun a b => ¬ b.cps.toList < a.cps.toList)
  | [], p, _ => by simp
  | x :: r, p, h => by
    simp only [risingS, Bool.and_eq_true, Bool.not_eq_true', ltCps_eq, decide_eq_false_iff_not] at h
    have ih := rising_pw r x h.2
    refine List.pairwise_cons.mpr ⟨fun b hb => ?_, ih⟩
    rcases List.mem_cons.mp hb with rfl | hb
    · exact h.1
    · have h3 := (List.pairwise_cons.mp ih).1 b hb
      intro hlt
      have h4 : p.cps.toList ≤ x.cps.toList := List.not_lt.mp h.1
      have h5 : x.cps.toList ≤ b.cps.toList := List.not_lt.mp h3
      exact List.not_lt.mpr (List.le_trans h4 h5) hlt
theorem sortedS_pw {xs : List (List Nat)} (h : sortedS (xs.map T) = true) : xs.Pairwise (fun a b => a ≤ b) := by
  cases xs with
  | nil => simp
  | cons x r =>
    have := rising_pw _ _ h
    rw [← List.map_cons, List.pairwise_map] at this
    exact this.imp fun {a b} q => by rw [T_cps, T_cps] at q; exact List.not_lt.mp q
theorem pool_nodup {c : Nat} (hc : [c] ∉ pool16) : (pool16 ++ [[c]]).Nodup := by
  refine List.nodup_append.mpr ⟨by decide, by simp, fun a ha b hb => ?_⟩
  rintro rfl
  rw [List.mem_singleton.mp hb] at ha
  exact hc ha
theorem pool_one {c : Nat} (h47 : c ≠ 47) {x : List Nat} (h : x ∈ pool16 ++ [[c]]) : ∃ d, x = [d] ∧ d ≠ 47 := by
  rcases List.mem_append.mp h with h | h
  · revert h
    unfold pool16
    intro h
    simp only [List.mem_cons, List.not_mem_nil, or_false] at h
    rcases h with rfl | rfl | rfl | rfl | rfl | rfl | rfl | rfl | rfl | rfl | rfl | rfl | rfl | rfl | rfl | rfl <;> exact ⟨_, rfl, by decide⟩
  · exact ⟨c, List.mem_singleton.mp h, h47⟩
theorem signs_end {c : Nat} {xs' xs rest : List (List Nat)} (hc : [c] ∉ pool16) (h47 : c ≠ 47) (hp : (pool16 ++ [[c]]).Perm (xs ++ rest)) (hp' : xs'.Perm xs) (hs : sortedS (xs'.map T) = true) :
    ∃ sg : List Nat, xs' = sg.map (fun d => [d]) ∧ sg.length = xs.length ∧ sg.Pairwise (· < ·) ∧ 47 ∉ sg := by
  have hmem : ∀ x ∈ xs', ∃ d, x = [d] ∧ d ≠ 47 := fun x hx => pool_one h47 (hp.mem_iff.mpr (List.mem_append_left _ (hp'.mem_iff.mp hx)))
  have hnd : xs'.Nodup := hp'.nodup_iff.mpr ((List.nodup_append.mp (hp.nodup_iff.mp (pool_nodup hc))).1)
  have hpw := sortedS_pw hs
  have e : xs' = (xs'.map fun x => x.headD 0).map fun d => [d] := by
    rw [List.map_map]
    conv => lhs; rw [← List.map_id xs']
    refine List.map_congr_left fun x hx => ?_
    obtain ⟨d, rfl, _⟩ := hmem x hx
    rfl
  refine ⟨xs'.map fun x => x.headD 0, e, by rw [List.length_map, hp'.length_eq], ?_, ?_⟩
  · rw [List.pairwise_map]
    have h2 := hpw.and hnd
    refine List.Pairwise.imp_of_mem (fun {a b} ha hb q => ?_) h2
    obtain ⟨d, rfl, _⟩ := hmem a ha
    obtain ⟨d', rfl, _⟩ := hmem b hb
    obtain ⟨q1, q2⟩ := q
    show d < d'
    have q3 : d ≠ d' := fun e => q2 (by rw [e])
    have q4 : ¬ [d'] < [d] := List.not_lt.mpr q1
    have q5 : ¬ d' < d := fun hlt => q4 (by have := StrLaws.lt_cons_cons d' d [] []; rw [decide_eq_true hlt] at this; simpa using this)
    omega
  · intro hm
    obtain ⟨x, hx, e2⟩ := List.mem_map.mp hm
    obtain ⟨d, rfl, hd⟩ := hmem x hx
    exact hd e2

/-- what the signs' def hands back -/
noncomputable def RSigns (many : Nat) (v : Value) (own : List (Addr × Obj)) : Prop := ∃ sg : List Nat, sg.length = many ∧ sg.Pairwise (· < ·) ∧ 47 ∉ sg ∧ ∃ l vs n, v = .ref l ∧ own = [(l, W.listOf (List.toArray vs) n)] ∧ TL vs (sg.map fun d => [d])
theorem fmod_lo (a b : Int) (h : 0 < b) : 0 ≤ Int.fmod a b := Int.fmod_nonneg_of_pos a h
theorem fmod_hi (a b : Int) (h : 0 < b) : Int.fmod a b < b := Int.fmod_lt_of_pos a h
theorem signs_fin {c : Nat} {xs' xs rest : List (List Nat)} {l : Addr} {vs : List Value} {n many : Nat} (hc : [c] ∉ pool16) (h47 : c ≠ 47) (hp' : xs'.Perm xs) (hs : sortedS (xs'.map T) = true) (hT : TL vs xs') (hm : xs.length = many) (hp : (pool16 ++ [[c]]).Perm (xs ++ rest)) :
    RSigns many (.ref l) [(l, W.listOf (List.toArray vs) n)] := by
  obtain ⟨sg, e, h1, h2, h3⟩ := signs_end hc h47 hp hp' hs
  exact ⟨sg, h1.trans hm, h2, h3, l, vs, n, rfl, rfl, e ▸ hT⟩
theorem signs_fin2 {P0 : List (List Nat)} {x1 x2 : List Nat} {p1 p2 : List (List Nat)} (P1 : P0.Perm (x1 :: p1)) (P2 : p1.Perm (x2 :: p2)) : P0.Perm ([x1, x2] ++ p2) := P1.trans (P2.cons _)
theorem signs_fin3 {P0 : List (List Nat)} {x1 x2 x3 : List Nat} {p1 p2 p3 : List (List Nat)} (P1 : P0.Perm (x1 :: p1)) (P2 : p1.Perm (x2 :: p2)) (P3 : p2.Perm (x3 :: p3)) : P0.Perm ([x1, x2, x3] ++ p3) := P1.trans ((P2.trans (P3.cons _)).cons _)
theorem signs_fin4 {P0 : List (List Nat)} {x1 x2 x3 x4 : List Nat} {p1 p2 p3 p4 : List (List Nat)} (P1 : P0.Perm (x1 :: p1)) (P2 : p1.Perm (x2 :: p2)) (P3 : p2.Perm (x3 :: p3)) (P4 : p3.Perm (x4 :: p4)) : P0.Perm ([x1, x2, x3, x4] ++ p4) := P1.trans ((P2.trans ((P3.trans (P4.cons _)).cons _)).cons _)
theorem news_head {h₀ h : Heap} {L : Addr} {x : Addr × Obj} {r : List (Addr × Obj)} (N : News h₀ L h (x :: r)) : News h₀ L h [x] := fun p hp => by
  rw [List.mem_singleton.mp hp]; exact N x List.mem_cons_self
theorem fresh_head {P : Addr × Obj → Prop} {x : Addr × Obj} {r : List (Addr × Obj)} (N : ∀ p ∈ x :: r, P p) : ∀ p ∈ [x], P p := fun p hp => by
  rw [List.mem_singleton.mp hp]; exact N x List.mem_cons_self
theorem rows_P9_1 : True := by
  k_with_none
  k_with "ne" => (refine neN ?_; (try dsimp only); first | exact Nat.ne_of_lt (by assumption) | exact Nat.ne_of_gt (by assumption) | exact Mine.la0 (by assumption) | exact Mine.ga0 (by assumption) | exact Mine.la1 (by assumption) | exact Mine.ga1 (by assumption) | exact Mine.le1 (by assumption) | exact Mine.ge1 (by assumption) | exact Mine.la2 (by assumption) | exact Mine.ga2 (by assumption) | exact Mine.le2 (by assumption) | exact Mine.ge2 (by assumption) | exact Mine.la3 (by assumption) | exact Mine.ga3 (by assumption) | exact Mine.le3 (by assumption) | exact Mine.ge3 (by assumption) | exact Mine.la4 (by assumption) | exact Mine.ga4 (by assumption) | exact Mine.le4 (by assumption) | exact Mine.ge4 (by assumption) | exact Mine.la5 (by assumption) | exact Mine.ga5 (by assumption) | exact Mine.le5 (by assumption) | exact Mine.ge5 (by assumption) | exact Mine.la6 (by assumption) | exact Mine.ga6 (by assumption) | exact Mine.le6 (by assumption) | exact Mine.ge6 (by assumption) | exact Mine.la7 (by assumption) | exact Mine.ga7 (by assumption) | exact Mine.le7 (by assumption) | exact Mine.ge7 (by assumption) | exact Mine.la8 (by assumption) | exact Mine.ga8 (by assumption) | exact Mine.le8 (by assumption) | exact Mine.ge8 (by assumption))
  k_with "room" => (first | exact Mine.room0 (by assumption) | exact Mine.room1 (by assumption) (by decide) | exact Mine.room2 (by assumption) (by decide))
  k_with "units" => (first | exact Mine.room0 (by assumption) | exact Mine.room1 (by assumption) (by decide) | exact Mine.room2 (by assumption) (by decide))
  k_with "size" => (first | exact Nat.zero_le _ | with_reducible exact Mine.szT (by assumption) | with_reducible exact Mine.szT1 (by assumption) | with_reducible exact Mine.szK (by assumption) | with_reducible exact Mine.szK1 (by assumption))
  k_with "Kont" => ((try dsimp only); first | (refine' Mine.kont0_next ?L_k ?_; (case L_k => assumption)) | (refine' Mine.kont0_ret ?L_k ?_; (case L_k => assumption)) | (refine' Mine.kont0_brk ?L_k ?_; (case L_k => assumption)) | (refine' Mine.kont0_cont ?L_k ?_; (case L_k => assumption)))
  k_with "execs cons" => (k_here; first | refine Mine.execs_one ?_ | (refine Mine.execs_kont0 ?_; intro K9 hK9))
  k_with "LeaveM" => (k_dflt (refine' Mine.leaveM_ ?k1 ?k2 ?_; (case k1 => k_asm); (case k2 => k_asm); k_whole); intro kF kS kN kf; (try dsimp only))
  k_with "execs cons" => ((with_reducible show wpAny _ _ (execs (Stmt.Assign [Expr.Name (PySem.Str.ofString "sign") _] _ _ :: _) _) _ _ _); refine Mine.hold ?_)
  k_with "call type:list" => (k_here; k_dflt (refine' Mine.listStr_M (l := [97, 60, 59, 38, 62, 34, 13, 10, 9, 109, 35, 42, 63, 91, 93, 92]) ?hh ?hx ?F ?N ?hl ?_; (case hh => rfl); (case hx => decide); (case F => k_asm); (case N => k_asm); (case hl => decide); k_whole; intro D9 h9 tk9 ys9 n9 F9 N9 ne9 TL9; (try simp only [List.forall_mem_cons] at ne9); (try dsimp only); (try k_fold)))
  k_with "call builtin:list.pop" => (k_here; k_dflt (refine' Mine.pop_TL ?F ?N ?hT ?h0 ?hN ?h1 ?hs ?U ?_; (case F => k_asm); (case N => k_asm); (case U => (intro vs9; k_upd)); (case hT => assumption); (case h0 => exact Int.fmod_nonneg_of_pos _ (by decide)); (case hN => assumption); (case h1 => exact Int.lt_of_lt_of_le (Int.fmod_lt_of_pos _ (by decide)) (by decide)); (case hs => decide); k_whole; intro h9 t9 x9 vs9 xs9 F9 N9 TL9 P9 L9; (try dsimp only); (try k_fold)))
  k_with "call builtin:sorted" => (k_here; k_dflt (refine' Mine.sorted_M ?F ?N ?hl ?hT ?h64 ?_; (case F => k_asm); (case N => k_asm); (case hl => k_mem); (case hT => first | exact Mine.TL.cons (Mine.TL.one _ _) _ _ | exact Mine.TL.cons (Mine.TL.cons (Mine.TL.one _ _) _ _) _ _ | exact Mine.TL.cons (Mine.TL.cons (Mine.TL.cons (Mine.TL.one _ _) _ _) _ _) _ _); (case h64 => simp); k_whole; intro D9 h9 vs9 xs9 e9 F9 N9 TL9 P9 S9; (try dsimp only); (try k_fold)))
  trivial

theorem c_signs2 (w : World) (left free : Int) (t1 t2 t3 : Tok) : Tell w 145 3 24 [.int left t1, .int free t2, .int 2 t3] (fun _ => True) (RSigns 2) := by
  refine Tell.of ?_
  k_fill
  intro p loose mean mg mb dp un gd cn cs a ccd cl outer A₀ base h₀ L m s Q E X B F T hk hd hu ht hn hret
  refine wpAny_call ?_
  k_dflt (refine' Mine.enterP ?k1 ?k2 ?k3 ?k5 ?kA ?kF ?kK ?k6 ?k7 ?k8 ?k9 ?kB ?_ ?c2 ?c3 ?c4 ?c5; (case kA => exact rfl); (case kF => exact rfl); (case kK => assumption); (case k1 => k_asm); (case k2 => k_asm); (case k3 => k_asm); (case k5 => k_asm); (case k6 => k_is); (case k7 => k_is); (case k8 => ktr_room); (case k9 => exact BindsTo.of_eq rfl); (case c5 => decide); (case kB => exact locs rfl); (case c2 => exact rfl); (case c3 => exact rfl); (case c4 => exact rfl); k_whole; intro L' h' F' N' B' X' T'; (try dsimp only); (try k_fold))
  k_steps
  unfold Hold
  (rename Fr _ _ _ _ => FX); (rename News _ _ _ _ => NX)
  refine cut_signs FX NX ?_ ?_
  · k_steps
    all_goals (first
      | exact pool_z (by assumption) (by assumption) (by assumption)
      | exact pool_c (by assumption) (by assumption) (by assumption) (by assumption) (by assumption))
  · rintro s' ⟨h2, tk2, ys2, n2, c, x, rfl, F2, N2, TL2, hc, hc47⟩
    have hN0 : (pool16 ++ [[c]]).length = 16 + 1 := rfl
    k_steps
    have TLq := TL9
    have Pq := P9
    have Sq := S9
    exact hret _ _ _ _ kF kS (news_head kN) (fresh_head kf) (signs_fin hc hc47 Pq Sq TLq rfl (signs_fin2 (by assumption) (by assumption)))

theorem c_signs3 (w : World) (left free : Int) (t1 t2 t3 : Tok) : Tell w 145 3 24 [.int left t1, .int free t2, .int 3 t3] (fun _ => True) (RSigns 3) := by
  refine Tell.of ?_
  k_fill
  intro p loose mean mg mb dp un gd cn cs a ccd cl outer A₀ base h₀ L m s Q E X B F T hk hd hu ht hn hret
  refine wpAny_call ?_
  k_dflt (refine' Mine.enterP ?k1 ?k2 ?k3 ?k5 ?kA ?kF ?kK ?k6 ?k7 ?k8 ?k9 ?kB ?_ ?c2 ?c3 ?c4 ?c5; (case kA => exact rfl); (case kF => exact rfl); (case kK => assumption); (case k1 => k_asm); (case k2 => k_asm); (case k3 => k_asm); (case k5 => k_asm); (case k6 => k_is); (case k7 => k_is); (case k8 => ktr_room); (case k9 => exact BindsTo.of_eq rfl); (case c5 => decide); (case kB => exact locs rfl); (case c2 => exact rfl); (case c3 => exact rfl); (case c4 => exact rfl); k_whole; intro L' h' F' N' B' X' T'; (try dsimp only); (try k_fold))
  k_steps
  unfold Hold
  (rename Fr _ _ _ _ => FX); (rename News _ _ _ _ => NX)
  refine cut_signs FX NX ?_ ?_
  · k_steps
    all_goals (first
      | exact pool_z (by assumption) (by assumption) (by assumption)
      | exact pool_c (by assumption) (by assumption) (by assumption) (by assumption) (by assumption))
  · rintro s' ⟨h2, tk2, ys2, n2, c, x, rfl, F2, N2, TL2, hc, hc47⟩
    have hN0 : (pool16 ++ [[c]]).length = 16 + 1 := rfl
    k_steps
    have TLq := TL9
    have Pq := P9
    have Sq := S9
    exact hret _ _ _ _ kF kS (news_head kN) (fresh_head kf) (signs_fin hc hc47 Pq Sq TLq rfl (signs_fin3 (by assumption) (by assumption) (by assumption)))

theorem c_signs4 (w : World) (left free : Int) (t1 t2 t3 : Tok) : Tell w 145 3 24 [.int left t1, .int free t2, .int 4 t3] (fun _ => True) (RSigns 4) := by
  refine Tell.of ?_
  k_fill
  intro p loose mean mg mb dp un gd cn cs a ccd cl outer A₀ base h₀ L m s Q E X B F T hk hd hu ht hn hret
  refine wpAny_call ?_
  k_dflt (refine' Mine.enterP ?k1 ?k2 ?k3 ?k5 ?kA ?kF ?kK ?k6 ?k7 ?k8 ?k9 ?kB ?_ ?c2 ?c3 ?c4 ?c5; (case kA => exact rfl); (case kF => exact rfl); (case kK => assumption); (case k1 => k_asm); (case k2 => k_asm); (case k3 => k_asm); (case k5 => k_asm); (case k6 => k_is); (case k7 => k_is); (case k8 => ktr_room); (case k9 => exact BindsTo.of_eq rfl); (case c5 => decide); (case kB => exact locs rfl); (case c2 => exact rfl); (case c3 => exact rfl); (case c4 => exact rfl); k_whole; intro L' h' F' N' B' X' T'; (try dsimp only); (try k_fold))
  k_steps
  unfold Hold
  (rename Fr _ _ _ _ => FX); (rename News _ _ _ _ => NX)
  refine cut_signs FX NX ?_ ?_
  · k_steps
    all_goals (first
      | exact pool_z (by assumption) (by assumption) (by assumption)
      | exact pool_c (by assumption) (by assumption) (by assumption) (by assumption) (by assumption))
  · rintro s' ⟨h2, tk2, ys2, n2, c, x, rfl, F2, N2, TL2, hc, hc47⟩
    have hN0 : (pool16 ++ [[c]]).length = 16 + 1 := rfl
    k_steps
    have TLq := TL9
    have Pq := P9
    have Sq := S9
    exact hret _ _ _ _ kF kS (news_head kN) (fresh_head kf) (signs_fin hc hc47 Pq Sq TLq rfl (signs_fin4 (by assumption) (by assumption) (by assumption) (by assumption)))
end Mine
end
theorem Mine.walk_off_P9 : True := by
  w_top off
  k_with_none
  trivial
section
open PySem PySem.W PyProof.Rows PySem.Calls PySem.Spec
set_option Elab.async false
set_option maxRecDepth 100000
set_option maxHeartbeats 8000000
namespace Mine
theorem rows_P8_1 : True := by
  k_with_none
  k_with "ne" => (refine neN ?_; (try dsimp only); first | exact Nat.ne_of_lt (by assumption) | exact Nat.ne_of_gt (by assumption) | exact Mine.la0 (by assumption) | exact Mine.ga0 (by assumption) | exact Mine.la1 (by assumption) | exact Mine.ga1 (by assumption) | exact Mine.le1 (by assumption) | exact Mine.ge1 (by assumption) | exact Mine.la2 (by assumption) | exact Mine.ga2 (by assumption) | exact Mine.le2 (by assumption) | exact Mine.ge2 (by assumption) | exact Mine.la3 (by assumption) | exact Mine.ga3 (by assumption) | exact Mine.le3 (by assumption) | exact Mine.ge3 (by assumption) | exact Mine.la4 (by assumption) | exact Mine.ga4 (by assumption) | exact Mine.le4 (by assumption) | exact Mine.ge4 (by assumption) | exact Mine.la5 (by assumption) | exact Mine.ga5 (by assumption) | exact Mine.le5 (by assumption) | exact Mine.ge5 (by assumption) | exact Mine.la6 (by assumption) | exact Mine.ga6 (by assumption) | exact Mine.le6 (by assumption) | exact Mine.ge6 (by assumption) | exact Mine.la7 (by assumption) | exact Mine.ga7 (by assumption) | exact Mine.le7 (by assumption) | exact Mine.ge7 (by assumption) | exact Mine.la8 (by assumption) | exact Mine.ga8 (by assumption) | exact Mine.le8 (by assumption) | exact Mine.ge8 (by assumption))
  k_with "room" => (first | exact Mine.room0 (by assumption) | exact Mine.room1 (by assumption) (by decide) | exact Mine.room2 (by assumption) (by decide))
  k_with "units" => (first | exact Mine.room0 (by assumption) | exact Mine.room1 (by assumption) (by decide) | exact Mine.room2 (by assumption) (by decide))
  k_with "size" => (first | exact Nat.zero_le _ | with_reducible exact Mine.szT (by assumption) | with_reducible exact Mine.szT1 (by assumption) | with_reducible exact Mine.szK (by assumption) | with_reducible exact Mine.szK1 (by assumption))
  k_with "Kont" => ((try dsimp only); first | (refine' Mine.kont0_next ?L_k ?_; (case L_k => assumption)) | (refine' Mine.kont0_ret ?L_k ?_; (case L_k => assumption)) | (refine' Mine.kont0_brk ?L_k ?_; (case L_k => assumption)) | (refine' Mine.kont0_cont ?L_k ?_; (case L_k => assumption)))
  k_with "execs cons" => (k_here; first | refine Mine.execs_one ?_ | (refine Mine.execs_kont0 ?_; intro K9 hK9))
  k_with "LeaveM" => (k_dflt (refine' Mine.leaveM_ ?k1 ?k2 ?_; (case k1 => k_asm); (case k2 => k_asm); k_whole); intro kF kS kN kf; (try dsimp only))
  trivial

/-- all words of so many signs, in order -/
noncomputable def wordsN (sg : List Nat) : Nat → List (List Nat)
  | 0 => [[]]
  | k + 1 => allPairs (wordsN sg k) (sg.map fun c => [c])

theorem allPairs_len (as bs : List (List Nat)) : (allPairs as bs).length = as.length * bs.length := by
  unfold allPairs
  induction as with
  | nil => simp
  | cons x l ih => rw [List.flatMap_cons, List.length_append, ih, List.length_map, List.length_cons, Nat.succ_mul]; omega
theorem wordsN_len (sg : List Nat) : ∀ k, (wordsN sg k).length = sg.length ^ k
  | 0 => rfl
  | k + 1 => by rw [wordsN, allPairs_len, wordsN_len sg k, List.length_map, Nat.pow_succ]
theorem wordsN_each (sg : List Nat) : ∀ k, ∀ a ∈ wordsN sg k, a.length = k
  | 0, a, h => by simp [wordsN] at h; subst h; rfl
  | k + 1, a, h => by
    simp only [wordsN, allPairs, List.mem_flatMap, List.mem_map] at h
    obtain ⟨b, hb, c, ⟨d, _, rfl⟩, rfl⟩ := h
    rw [List.length_append, wordsN_each sg k b hb]; rfl
theorem wordsN_small {sg : List Nat} (h : sg.length ≤ 4) {k : Nat} (hk : k ≤ 4) : (wordsN sg k).length ≤ 256 := by
  rw [wordsN_len]
  exact Nat.le_trans (Nat.pow_le_pow_left h k) (Nat.le_trans (Nat.pow_le_pow_right (by decide) hk) (by decide))

theorem one_small (sg : List Nat) : ∀ b ∈ List.map (fun c => [c]) sg, b.length ≤ 1000 := by
  intro b hb
  obtain ⟨c, _, rfl⟩ := List.mem_map.mp hb
  simp
theorem TL0 (sg : List Nat) (t : Tok) : TL [.str (Str.ofString "") t] (wordsN sg 0) := TL.one [] t

/-- what comes back is a list of texts of one's own -/
noncomputable def RList (ys : List (List Nat)) (v : Value) (own : List (Addr × Obj)) : Prop := ∃ l vs n, v = .ref l ∧ own = [(l, lstObj (List.toArray vs) n)] ∧ TL vs ys

theorem rows_P8_2 : True := by
  k_with "exec Assign" => (k_here; k_dflt (refine' Mine.step_words (as := Mine.wordsN _ 0) (bs := List.map (fun c => [c]) _) ?F ?N ?hla ?hav ?hoc ?hcell ?hlb ?hbv ?sz ?szb ?sza ?sa ?sb ?hnl ?_ ?hh ?hkind ?ha ?hb ?hab ?hbs ?hc ?da ?db ?dbs ?hsw ?hclos ?hcell2 ?hnames ?hy ?hp; (case hclos => with_unfolding_all rfl); (case hc => rfl); (case hnl => (intro E Q q; refine' nameX_L ?nF ?nv q ?na ?nb ?nc; (case nF => k_asm); (case nv => rfl); (case na => rfl); (case nb => rfl); (case nc => decide))); (case F => k_asm); (case N => k_asm); (case hla => k_mem); (case hav => first | assumption | exact Mine.TL0 _ _); (case hoc => k_mem); (case hcell => assumption); (case hlb => assumption); (case hbv => assumption); (case sz => (rw [List.length_map]; exact Nat.le_trans (Nat.mul_le_mul (Mine.wordsN_small (by assumption) (by decide)) (by assumption)) (by decide))); (case szb => (rw [List.length_map]; omega)); (case sza => exact Nat.le_trans (Mine.wordsN_small (by assumption) (by decide)) (by decide)); (case sa => (intro a ha; rw [Mine.wordsN_each _ _ a ha]; decide)); (case sb => exact Mine.one_small _); (case hh => rfl); (case hkind => rfl); (case ha => rfl); (case hb => rfl); (case hab => decide); (case hbs => (intro _; rfl)); (case da => decide); (case db => decide); (case dbs => decide); (case hsw => rfl); (case hcell2 => decide); (case hnames => decide); (case hy => rfl); (case hp => rfl); k_whole; intro D9 h9 tk9 ys9 n9 F9 N9 ne9 TL9; (try dsimp only); (try k_fold)))
  k_with "exec Assign" => (k_here; k_dflt (refine' Mine.step_words (as := Mine.wordsN _ 1) (bs := List.map (fun c => [c]) _) ?F ?N ?hla ?hav ?hoc ?hcell ?hlb ?hbv ?sz ?szb ?sza ?sa ?sb ?hnl ?_ ?hh ?hkind ?ha ?hb ?hab ?hbs ?hc ?da ?db ?dbs ?hsw ?hclos ?hcell2 ?hnames ?hy ?hp; (case hclos => with_unfolding_all rfl); (case hc => rfl); (case hnl => (intro E Q q; refine' nameX_L ?nF ?nv q ?na ?nb ?nc; (case nF => k_asm); (case nv => rfl); (case na => rfl); (case nb => rfl); (case nc => decide))); (case F => k_asm); (case N => k_asm); (case hla => k_mem); (case hav => first | assumption | exact Mine.TL0 _ _); (case hoc => k_mem); (case hcell => assumption); (case hlb => assumption); (case hbv => assumption); (case sz => (rw [List.length_map]; exact Nat.le_trans (Nat.mul_le_mul (Mine.wordsN_small (by assumption) (by decide)) (by assumption)) (by decide))); (case szb => (rw [List.length_map]; omega)); (case sza => exact Nat.le_trans (Mine.wordsN_small (by assumption) (by decide)) (by decide)); (case sa => (intro a ha; rw [Mine.wordsN_each _ _ a ha]; decide)); (case sb => exact Mine.one_small _); (case hh => rfl); (case hkind => rfl); (case ha => rfl); (case hb => rfl); (case hab => decide); (case hbs => (intro _; rfl)); (case da => decide); (case db => decide); (case dbs => decide); (case hsw => rfl); (case hcell2 => decide); (case hnames => decide); (case hy => rfl); (case hp => rfl); k_whole; intro D9 h9 tk9 ys9 n9 F9 N9 ne9 TL9; (try dsimp only); (try k_fold)))
  k_with "exec Assign" => (k_here; k_dflt (refine' Mine.step_words (as := Mine.wordsN _ 2) (bs := List.map (fun c => [c]) _) ?F ?N ?hla ?hav ?hoc ?hcell ?hlb ?hbv ?sz ?szb ?sza ?sa ?sb ?hnl ?_ ?hh ?hkind ?ha ?hb ?hab ?hbs ?hc ?da ?db ?dbs ?hsw ?hclos ?hcell2 ?hnames ?hy ?hp; (case hclos => with_unfolding_all rfl); (case hc => rfl); (case hnl => (intro E Q q; refine' nameX_L ?nF ?nv q ?na ?nb ?nc; (case nF => k_asm); (case nv => rfl); (case na => rfl); (case nb => rfl); (case nc => decide))); (case F => k_asm); (case N => k_asm); (case hla => k_mem); (case hav => first | assumption | exact Mine.TL0 _ _); (case hoc => k_mem); (case hcell => assumption); (case hlb => assumption); (case hbv => assumption); (case sz => (rw [List.length_map]; exact Nat.le_trans (Nat.mul_le_mul (Mine.wordsN_small (by assumption) (by decide)) (by assumption)) (by decide))); (case szb => (rw [List.length_map]; omega)); (case sza => exact Nat.le_trans (Mine.wordsN_small (by assumption) (by decide)) (by decide)); (case sa => (intro a ha; rw [Mine.wordsN_each _ _ a ha]; decide)); (case sb => exact Mine.one_small _); (case hh => rfl); (case hkind => rfl); (case ha => rfl); (case hb => rfl); (case hab => decide); (case hbs => (intro _; rfl)); (case da => decide); (case db => decide); (case dbs => decide); (case hsw => rfl); (case hcell2 => decide); (case hnames => decide); (case hy => rfl); (case hp => rfl); k_whole; intro D9 h9 tk9 ys9 n9 F9 N9 ne9 TL9; (try dsimp only); (try k_fold)))
  k_with "exec Assign" => (k_here; k_dflt (refine' Mine.step_words (as := Mine.wordsN _ 3) (bs := List.map (fun c => [c]) _) ?F ?N ?hla ?hav ?hoc ?hcell ?hlb ?hbv ?sz ?szb ?sza ?sa ?sb ?hnl ?_ ?hh ?hkind ?ha ?hb ?hab ?hbs ?hc ?da ?db ?dbs ?hsw ?hclos ?hcell2 ?hnames ?hy ?hp; (case hclos => with_unfolding_all rfl); (case hc => rfl); (case hnl => (intro E Q q; refine' nameX_L ?nF ?nv q ?na ?nb ?nc; (case nF => k_asm); (case nv => rfl); (case na => rfl); (case nb => rfl); (case nc => decide))); (case F => k_asm); (case N => k_asm); (case hla => k_mem); (case hav => first | assumption | exact Mine.TL0 _ _); (case hoc => k_mem); (case hcell => assumption); (case hlb => assumption); (case hbv => assumption); (case sz => (rw [List.length_map]; exact Nat.le_trans (Nat.mul_le_mul (Mine.wordsN_small (by assumption) (by decide)) (by assumption)) (by decide))); (case szb => (rw [List.length_map]; omega)); (case sza => exact Nat.le_trans (Mine.wordsN_small (by assumption) (by decide)) (by decide)); (case sa => (intro a ha; rw [Mine.wordsN_each _ _ a ha]; decide)); (case sb => exact Mine.one_small _); (case hh => rfl); (case hkind => rfl); (case ha => rfl); (case hb => rfl); (case hab => decide); (case hbs => (intro _; rfl)); (case da => decide); (case db => decide); (case dbs => decide); (case hsw => rfl); (case hcell2 => decide); (case hnames => decide); (case hy => rfl); (case hp => rfl); k_whole; intro D9 h9 tk9 ys9 n9 F9 N9 ne9 TL9; (try dsimp only); (try k_fold)))
  trivial

theorem c_words2 (w : World) (sg : List Nat) (l : Addr) (vs : List Value) (ts : Tok) (hs : TL vs (sg.map fun c => [c])) (hl : sg.length ≤ 4) : Tell w 150 3 24 [.ref l, .int 2 ts] (fun h => h.IsList l vs.toArray) (RList (wordsN sg 2)) := by
  refine Tell.of ?_
  k_fill
  intro p loose mean mg mb dp un gd cn cs a ccd cl outer A₀ base h₀ L m s Q E X B F T hk hd hu ht hn hret
  refine wpAny_call ?_
  k_dflt (refine' Mine.enterC ?k1 ?k2 ?k3 ?k5 ?kA ?kF ?kK ?k6 ?k7 ?k8 ?k9 ?kB ?kD ?_ ?c2 ?c3 ?c4; (case kA => exact rfl); (case kF => exact rfl); (case kK => assumption); (case k1 => k_asm); (case k2 => k_asm); (case k3 => k_asm); (case k5 => k_asm); (case k6 => k_is); (case k7 => k_is); (case k8 => ktr_room); (case k9 => exact BindsTo.of_eq rfl); (case kB => exact rfl); (case kD => decide +kernel); (case c2 => exact rfl); (case c3 => exact rfl); (case c4 => exact rfl); k_whole; intro L' h' tk' cells' F' N' Y' B' X' T'; k_cells Y'; (try simp only [List.cons_append, List.nil_append] at N'); (try dsimp only); (try k_fold))
  k_steps
  exact hret _ _ _ _ kF kS (news_head kN) (fresh_head kf) ⟨_, _, _, rfl, rfl, by assumption⟩

theorem c_words3 (w : World) (sg : List Nat) (l : Addr) (vs : List Value) (ts : Tok) (hs : TL vs (sg.map fun c => [c])) (hl : sg.length ≤ 4) : Tell w 150 3 24 [.ref l, .int 3 ts] (fun h => h.IsList l vs.toArray) (RList (wordsN sg 3)) := by
  refine Tell.of ?_
  k_fill
  intro p loose mean mg mb dp un gd cn cs a ccd cl outer A₀ base h₀ L m s Q E X B F T hk hd hu ht hn hret
  refine wpAny_call ?_
  k_dflt (refine' Mine.enterC ?k1 ?k2 ?k3 ?k5 ?kA ?kF ?kK ?k6 ?k7 ?k8 ?k9 ?kB ?kD ?_ ?c2 ?c3 ?c4; (case kA => exact rfl); (case kF => exact rfl); (case kK => assumption); (case k1 => k_asm); (case k2 => k_asm); (case k3 => k_asm); (case k5 => k_asm); (case k6 => k_is); (case k7 => k_is); (case k8 => ktr_room); (case k9 => exact BindsTo.of_eq rfl); (case kB => exact rfl); (case kD => decide +kernel); (case c2 => exact rfl); (case c3 => exact rfl); (case c4 => exact rfl); k_whole; intro L' h' tk' cells' F' N' Y' B' X' T'; k_cells Y'; (try simp only [List.cons_append, List.nil_append] at N'); (try dsimp only); (try k_fold))
  k_steps
  exact hret _ _ _ _ kF kS (news_head kN) (fresh_head kf) ⟨_, _, _, rfl, rfl, by assumption⟩

theorem c_words4 (w : World) (sg : List Nat) (l : Addr) (vs : List Value) (ts : Tok) (hs : TL vs (sg.map fun c => [c])) (hl : sg.length ≤ 4) : Tell w 150 3 24 [.ref l, .int 4 ts] (fun h => h.IsList l vs.toArray) (RList (wordsN sg 4)) := by
  refine Tell.of ?_
  k_fill
  intro p loose mean mg mb dp un gd cn cs a ccd cl outer A₀ base h₀ L m s Q E X B F T hk hd hu ht hn hret
  refine wpAny_call ?_
  k_dflt (refine' Mine.enterC ?k1 ?k2 ?k3 ?k5 ?kA ?kF ?kK ?k6 ?k7 ?k8 ?k9 ?kB ?kD ?_ ?c2 ?c3 ?c4; (case kA => exact rfl); (case kF => exact rfl); (case kK => assumption); (case k1 => k_asm); (case k2 => k_asm); (case k3 => k_asm); (case k5 => k_asm); (case k6 => k_is); (case k7 => k_is); (case k8 => ktr_room); (case k9 => exact BindsTo.of_eq rfl); (case kB => exact rfl); (case kD => decide +kernel); (case c2 => exact rfl); (case c3 => exact rfl); (case c4 => exact rfl); k_whole; intro L' h' tk' cells' F' N' Y' B' X' T'; k_cells Y'; (try simp only [List.cons_append, List.nil_append] at N'); (try dsimp only); (try k_fold))
  k_steps
  exact hret _ _ _ _ kF kS (news_head kN) (fresh_head kf) ⟨_, _, _, rfl, rfl, by assumption⟩
end Mine
end
theorem Mine.walk_off_P8 : True := by
  w_top off
  k_with_none
  trivial
section
open PySem PySem.W PyProof.Rows PySem.Calls PySem.Spec
set_option Elab.async false
set_option maxRecDepth 100000
set_option maxHeartbeats 8000000
namespace Mine

/-- item by item -/
inductive All2 {α : Type} (R : α → Value → Prop) : List α → List Value → Prop
  | nil : All2 R [] []
  | cons {a v xs vs} : R a v → All2 R xs vs → All2 R (a :: xs) (v :: vs)
theorem All2.snoc {α : Type} {R : α → Value → Prop} {xs : List α} {vs : List Value} (h : All2 R xs vs) {a : α} {v : Value} (r : R a v) : All2 R (xs ++ [a]) (vs ++ [v]) := by
  induction h with
  | nil => exact .cons r .nil
  | cons q _ ih => exact .cons q ih
theorem All2.len {α : Type} {R : α → Value → Prop} {xs : List α} {vs : List Value} (h : All2 R xs vs) : vs.length = xs.length := by
  induction h with
  | nil => rfl
  | cons _ _ ih => simp [ih]
theorem All2.toTL {f : List Nat → List Nat} {xs : List (List Nat)} {vs : List Value} (h : All2 (fun c v => ∃ t, v = .str (T (f c)) t) xs vs) : TL vs (xs.map f) := by
  induction h with
  | nil => exact TL.nil
  | cons q _ ih => obtain ⟨t, rfl⟩ := q; exact ih.cons _ _
theorem All2.toTL1 {f : Nat → List Nat} {xs : List Nat} {vs : List Value} (h : All2 (fun c v => ∃ t, v = .str (T (f c)) t) xs vs) : TL vs (xs.map f) := by
  induction h with
  | nil => exact TL.nil
  | cons q _ ih => obtain ⟨t, rfl⟩ := q; exact ih.cons _ _

section
variable {prog : Program} {w : World} {A : Around} {E : Value → Shared → Prop} {h₀ : Heap} {L : Addr} {m : Str → Option Value} {env : Env} {elt ct iter : Expr} {x : Str} {scope : Scope} {cl : List (Str × Addr)} {s : Shared} {S : List (Addr × Obj) → Prop} {P : Nat → Value → Prop} {Fin : List Value → List (Addr × Obj) → Prop} {news : List (Addr × Obj)}
theorem end_same {I C D : Addr} {oI oC oD : Obj} {Re : Value → Prop} {y : Value} {h' : Heap} {tk : Nat} {all : List (Addr × Obj)} (F : Fr h₀ L h' m) (N : News h₀ L h' all) (sub : ∀ p ∈ (I, oI) :: (C, oC) :: (D, oD) :: news, p ∈ all) (off : LCg.Off3 I C D news) (hS : S news) (r : Re y) :
    LCg.CompEnd h₀ L m s I oI C oC D oD S (fun y news' => news' = news ∧ Re y) y { s with heap := h', toks := tk } := LCg.CompEnd.intro F N news sub off hS ⟨rfl, r⟩

theorem rest_all {α : Type} {n : Nat} {xs : List α} (It Re : α → Value → Prop) (hn : xs.length = n) (hsrc : ∀ i v, P i v → ∃ a, xs[i]? = some a ∧ It a v)
    (turn : ∀ a v I oI C oC D m₂ ys h tk (E' : Value → Shared → Prop), a ∈ xs → It a v → ys.length ≤ n → LCg.NsObj oC m₂ → m₂ x = some v → Fr h₀ L h m → News h₀ L h ((I, oI) :: (C, oC) :: (D, LCg.lst ys) :: news) → LCg.Off3 I C D news → ((@Ne Nat I C) ∧ (@Ne Nat I D) ∧ (@Ne Nat C D)) →
      wpAny (model prog w) A (eval elt (compEnvC scope cl C env)) (LCg.CompEnd h₀ L m { s with heap := h, toks := tk } I oI C oC D (LCg.lst ys) S (fun y news' => news' = news ∧ Re a y)) E' { s with heap := h, toks := tk })
    (fin : ∀ ys, All2 Re xs ys → Fin ys news) : LCg.CompRest prog w A h₀ L m env elt x scope cl s S P Fin n 0 [] news := by
  have key : ∀ (j i : Nat) (ys : List Value), i + j = n → All2 Re (xs.take i) ys → LCg.CompRest prog w A h₀ L m env elt x scope cl s S P Fin j i ys news := by
    intro j
    induction j with
    | zero =>
      intro i ys hi hy
      rw [show i = xs.length by omega, List.take_length] at hy
      exact LCg.CompRest.zero (fin ys hy)
    | succ j ih =>
      intro i ys hi hy
      refine LCg.CompRest.succ ?_
      intro v I oI C oC D m₂ h tk E' hv hC hx F N off ne
      obtain ⟨a, ha, hv'⟩ := hsrc i v hv
      have hl := hy.len
      rw [List.length_take] at hl
      refine wpAny_mono (turn a v I oI C oC D m₂ ys h tk E' (List.mem_of_getElem? ha) hv' (by omega) hC hx F N off ne) (fun y s₃ hr => ?_) fun _ _ e => e
      obtain ⟨h', tk', nw, e, F', N', off', hS, rfl, hr'⟩ := hr
      refine ⟨h', tk', nw, e, F', N', off', hS, ih (i + 1) _ (by omega) ?_⟩
      rw [List.take_add_one, ha]
      exact hy.snoc hr'
  exact key n 0 [] (by omega) .nil

/-- what a test lets through -/
inductive Picks {α : Type} (keep : α → Bool) (R : α → Value → Prop) : List α → List Value → Prop
  | nil : Picks keep R [] []
  | skip {xs vs a} : Picks keep R xs vs → keep a = false → Picks keep R (xs ++ [a]) vs
  | take {xs vs a v} : Picks keep R xs vs → keep a = true → R a v → Picks keep R (xs ++ [a]) (vs ++ [v])
theorem Picks.len {α : Type} {keep : α → Bool} {R : α → Value → Prop} {xs : List α} {vs : List Value} (h : Picks keep R xs vs) : vs.length ≤ xs.length := by
  induction h with
  | nil => simp
  | skip _ _ ih => simp; omega
  | take _ _ _ ih => simp; omega
theorem Picks.toTL {keep : List Nat → Bool} {xs : List (List Nat)} {vs : List Value} (h : Picks keep (fun c v => ∃ t, v = .str (T c) t) xs vs) : TL vs (xs.filter keep) := by
  induction h with
  | nil => exact TL.nil
  | skip _ k ih => rw [List.filter_append]; simpa [k] using ih
  | take _ k r ih => obtain ⟨t, rfl⟩ := r; rw [List.filter_append]; simpa [k] using ih.snoc _ t
theorem Picks.toTL2 {α : Type} {keep : α → Bool} {f : α → List Nat} {xs : List α} {vs : List Value} (h : Picks keep (fun c v => ∃ t, v = .str (T (f c)) t) xs vs) : TL vs ((xs.filter keep).map f) := by
  induction h with
  | nil => exact TL.nil
  | skip _ k ih => rw [List.filter_append]; simpa [k] using ih
  | take _ k r ih => obtain ⟨t, rfl⟩ := r; rw [List.filter_append]; simpa [k] using ih.snoc _ t

theorem restT_all {α : Type} {n : Nat} {xs : List α} (It : α → Value → Prop) (keep : α → Bool) (Re : α → Value → Prop) (hn : xs.length = n) (hsrc : ∀ i v, P i v → ∃ a, xs[i]? = some a ∧ It a v)
    (turn : ∀ a v I oI C oC D m₂ ys h tk (E' : Value → Shared → Prop), a ∈ xs → It a v → ys.length ≤ n → LCg.NsObj oC m₂ → m₂ x = some v → Fr h₀ L h m → News h₀ L h ((I, oI) :: (C, oC) :: (D, LCg.lst ys) :: news) → LCg.Off3 I C D news → ((@Ne Nat I C) ∧ (@Ne Nat I D) ∧ (@Ne Nat C D)) →
      wpAny (model prog w) A (isTrue ct (compEnvC scope cl C env) (eval ct (compEnvC scope cl C env))) (fun ok s' => if ok = true then
        wpAny (model prog w) A (eval elt (compEnvC scope cl C env)) (LCg.CompEnd h₀ L m { s with heap := h, toks := tk } I oI C oC D (LCg.lst ys) S (fun y news' => news' = news ∧ keep a = true ∧ Re a y)) E' s'
        else LCg.CompEnd h₀ L m { s with heap := h, toks := tk } I oI C oC D (LCg.lst ys) S (fun _ news' => news' = news ∧ keep a = false) Value.none s') E' { s with heap := h, toks := tk })
    (fin : ∀ ys, Picks keep Re xs ys → Fin ys news) : LCt.CompRestT prog w A h₀ L m env ct elt x scope cl s S P Fin n 0 [] news := by
  have key : ∀ (j i : Nat) (ys : List Value), i + j = n → Picks keep Re (xs.take i) ys → LCt.CompRestT prog w A h₀ L m env ct elt x scope cl s S P Fin j i ys news := by
    intro j
    induction j with
    | zero =>
      intro i ys hi hy
      rw [show i = xs.length by omega, List.take_length] at hy
      exact LCt.CompRestT.zero (fin ys hy)
    | succ j ih =>
      intro i ys hi hy
      refine LCt.CompRestT.succ ?_
      intro v I oI C oC D m₂ h tk E' hv hC hx F N off ne
      obtain ⟨a, ha, hv'⟩ := hsrc i v hv
      have hl := hy.len
      rw [List.length_take] at hl
      refine wpAny_mono (turn a v I oI C oC D m₂ ys h tk E' (List.mem_of_getElem? ha) hv' (by omega) hC hx F N off ne) (fun b s₂ hq => ?_) fun _ _ e => e
      cases b with
      | true =>
        simp only [if_true] at hq ⊢
        refine wpAny_mono hq (fun y s₃ hr => ?_) fun _ _ e => e
        obtain ⟨h', tk', nw, e, F', N', off', hS, rfl, hk, hr'⟩ := hr
        refine ⟨h', tk', nw, e, F', N', off', hS, ih (i + 1) _ (by omega) ?_⟩
        rw [List.take_add_one, ha]
        exact hy.take hk hr'
      | false =>
        simp only [Bool.false_eq_true, if_false] at hq ⊢
        obtain ⟨h', tk', nw, e, F', N', off', hS, rfl, hk⟩ := hq
        refine ⟨h', tk', nw, e, F', N', off', hS, ih (i + 1) _ (by omega) ?_⟩
        rw [List.take_add_one, ha]
        exact hy.skip hk
  exact key n 0 [] (by omega) .nil

/-- the source is a text -/
noncomputable def SrcS (prog : Program) (w : World) (A : Around) (h₀ : Heap) (L : Addr) (m : Str → Option Value) (env : Env) (elt : Expr) (x : Str) (scope : Scope) (cl : List (Str × Addr)) (Fin : Shared → List Value → List (Addr × Obj) → Prop) (xv : Value) (s₁ : Shared) : Prop :=
  ∃ l t news, xv = .str (T l) t ∧ A.handled = none ∧ Fr h₀ L s₁.heap m ∧ News h₀ L s₁.heap news ∧ l.length ≤ sizeLine ∧
    ∀ s₂ : Shared, (∃ h, s₂ = { s₁ with heap := h }) → LCg.CompRest prog w A h₀ L m env elt x scope cl s₂ (fun _ => True) (fun i v => ∃ c, l[i]? = some c ∧ ∃ u, v = .str (T [c]) u) (Fin s₂) l.length 0 [] news
theorem SrcS.intro {l : List Nat} {t : Tok} {s₁ : Shared} {Fin : Shared → List Value → List (Addr × Obj) → Prop} (hh : A.handled = none) (F : Fr h₀ L s₁.heap m) (N : News h₀ L s₁.heap news) (hl : l.length ≤ sizeLine)
    (h : ∀ g, LCg.CompRest prog w A h₀ L m env elt x scope cl { s₁ with heap := g } (fun _ => True) (fun i v => ∃ c, l[i]? = some c ∧ ∃ u, v = .str (T [c]) u) (Fin { s₁ with heap := g }) l.length 0 [] news) :
    SrcS prog w A h₀ L m env elt x scope cl Fin (.str (T l) t) s₁ := ⟨l, t, news, rfl, hh, F, N, hl, fun _ ⟨g, e⟩ => e ▸ h g⟩

theorem walks_sgn {I : Addr} {l : List Nat} {n : Nat} {St : Nat → Heap → Prop} (W : Walks prog w A I [I] [I] n (SignAt (T l)) St) : Walks prog w A I [I] [I] n (fun i v => ∃ c, l[i]? = some c ∧ ∃ u, v = .str (T [c]) u) St :=
  { sub := W.sub, frame := W.frame, done := W.done, self := W.self,
    item := fun i s Q E hi st hQ => W.item i s Q E hi st fun v h' tk hP => hQ v h' tk (by obtain ⟨c, u, e, rfl⟩ := hP; exact ⟨c, by simpa [T] using e, u, rfl⟩) }

theorem ListComp_S {px : Pos} {pos : Pos} {Q : Value → Shared → Prop} (_F₀ : Fr h₀ L s.heap m)
    (hclos : closureFor scope env = pure cl) (hcell : ∀ y ∈ scope.names, y.2 ≠ .cell) (hkind : scope.kind = .function)
    (hnames : ∀ y ∈ scope.names, y.2 = .local → scope.names.lookup y.1 = some .local) (hx : scope.names.lookup x = some .local)
    (h : wpAny (model prog w) A (eval iter env) (SrcS prog w A h₀ L m env elt x scope cl (fun s₂ => LCg.FinE h₀ L m s₂ Q)) E s)
    (hs : ∀ x, foldedSetIterable iter env x = pure x := by intro _; rfl) :
    wpAny (model prog w) A (eval (.ListComp elt [⟨.Name x px, iter, [], 0⟩] scope pos) env) Q E s := by
  rw [eval_ListComp]
  refine wpAny_comprehension_free (use := none) rfl hs hclos hkind hnames (wpAny_mono h (fun xv s₁ h₁ => ?_) fun _ _ e => e)
  obtain ⟨l, t, news, rfl, hh, F, N, hsz, R⟩ := h₁
  have hsize : (T l).cps.size = l.length := by simp [T]
  have go : ∀ (Ty : String) (o : Obj), Walks prog w A s₁.heap.objs.size [s₁.heap.objs.size] [s₁.heap.objs.size] (T l).cps.size (SignAt (T l)) (fun i h => h.IsStrIter s₁.heap.objs.size Ty (T l) t i) →
      (s₁.heap.push o).IsStrIter s₁.heap.objs.size Ty (T l) t 0 →
      wpAny (model prog w) A (newList []) (fun acc s₃ => wpAny (model prog w) A (newFunctionEnv scope env.globals cl [] env.qual none .none (some env)) (fun cenv s₄ =>
      codeAny (model prog w) A (.compStart (.ListComp elt [⟨.Name x px, iter, [], 0⟩] scope pos) 0 (.ref s₁.heap.objs.size) acc { cenv with scope := relabel scope env }) (compPost (model prog w) A E none Q acc cenv.locals) s₄) E s₃) E { s₁ with heap := s₁.heap.push o } := by
    intro Ty o W hst
    rw [hsize] at W
    refine LCg.block_U (walks_sgn W) hsz (fun i h st => by obtain ⟨o, e, _⟩ := st; exact ⟨o, e⟩) (fun i h h' o nw st e e' _ _ _ => by obtain ⟨o2, q, r⟩ := st; rw [e] at q; cases q; exact ⟨o, e', r⟩) hcell hkind hx hst (fun b hb => ?_)
      (F.keeps fun _ _ e => Heap.get?_push_of_some _ e) (N.grown fun _ _ e => Heap.get?_push_of_some _ e) (Nat.ne_of_lt F.ns.lt) (next_is_new F) (fun p hp => Nat.ne_of_lt (Heap.lt_size (N p hp).1)) trivial (R _ ⟨_, rfl⟩) ?_
    · rw [List.mem_singleton.mp hb]
      show s₁.heap.objs.size < (s₁.heap.push _).objs.size
      rw [Heap.size_push]; exact Nat.lt_succ_self _
    · intro D C h tk m' ys news' F' N' o1 hn hC₀ hD₀ hCL hDL hCD offC fin
      refine ⟨m', hn, fun h'' hs'' => fin D h'' tk (F'.change hs'' hCL hC₀) (fun p hp => ?_) o1⟩
      refine ⟨hs''.extBut _ _ ?_ (N' p hp).1, (N' p hp).2⟩
      rcases List.mem_cons.mp hp with rfl | hp
      · exact Ne.symm hCD
      · exact offC p hp
  cases ha : (T l).cps.all (· < 128)
  · exact wpAny_pyIter_wide ha (go "str_iterator" _ (Walks.strWide hh _ (T l) t) ⟨_, Heap.get?_push_size _ rfl, rfl, rfl⟩)
  · exact wpAny_pyIter_ascii ha (go "str_ascii_iterator" _ (Walks.strAscii hh _ (T l) t) ⟨_, Heap.get?_push_size _ rfl, rfl, rfl⟩)

theorem src_list {its : Array Value} {xs : List (List Nat)} (h : TL its.toList xs) : ∀ (i : Nat) (v : Value), its[i]? = some v → ∃ a, xs[i]? = some a ∧ ∃ t, v = .str (T a) t := fun i v e => by
  obtain ⟨x, t, rfl, hx⟩ := h.item (i := i) (v := v) (by simpa using e)
  exact ⟨x, hx, t, rfl⟩
end
end Mine
end
theorem Mine.walk_off_P10 : True := by
  w_top off
  k_with_none
  trivial
section
open PySem PySem.W PyProof.Rows PySem.Calls PySem.Spec
set_option Elab.async false
set_option maxRecDepth 100000
set_option maxHeartbeats 8000000
namespace Mine

section
variable {prog : Program} {w : World} {A : Around} {E : Value → Shared → Prop} {s : Shared} {h₀ : Heap} {L : Addr} {m : Str → Option Value} {news : List (Addr × Obj)}

theorem sum_T (xs : List (List Nat)) : ((xs.map T).map (·.length)).sum = (xs.map (·.length)).sum := by
  induction xs with
  | nil => rfl
  | cons x xs ih => simp only [List.map_cons, List.sum_cons, ih, T_len]

/-- sep.join of a list of texts -/
theorem join_M {D : Addr} {items : Array Value} {xs : List (List Nat)} {sep : List Nat} {x : Str} {t : Tok} {Q : Value → Shared → Prop} (h0 : 0 < s.toks) (hx : x = T sep) (hl : s.heap.IsList D items) (hi : TL items.toList xs) (hsep : sep.length ≤ 64) (hok : (xs.map (·.length)).sum + xs.length * 64 ≤ 1000000)
    (h : ∀ t' k, 0 < k → Q (.str (T (List.intercalate sep xs)) t') { s with toks := k }) : wpAny (model prog w) A (call (.builtin "str.join") [.str x t, .ref D]) Q E s := by
  subst hx
  refine with_pos h0 (join_listC hl hi (by rw [T_len]; exact hsep) ?_ fun t' k => ?_)
  · rw [sum_T, List.length_map]; omega
  · have e : Txt.join (T sep) (xs.map T) = T (List.intercalate sep xs) := (StrLaws.glued_eq_join _ _).trans (join_T sep xs)
    rw [e]; exact h t' k

theorem join_M0 {D : Addr} {items : Array Value} {xs : List (List Nat)} {sep : List Nat} {x : Str} {t : Tok} {Q : Value → Shared → Prop} (hx : x = T sep) (hl : s.heap.IsList D items) (hi : TL items.toList xs) (hsep : sep.length ≤ 64) (hok : (xs.map (·.length)).sum + xs.length * 64 ≤ 1000000)
    (h : ∀ t' k, Q (.str (T (List.intercalate sep xs)) t') { s with toks := k }) : wpAny (model prog w) A (call (.builtin "str.join") [.str x t, .ref D]) Q E s := by
  subst hx
  refine join_listC hl hi (by rw [T_len]; exact hsep) ?_ fun t' k => ?_
  · rw [sum_T, List.length_map]; omega
  · have e : Txt.join (T sep) (xs.map T) = T (List.intercalate sep xs) := (StrLaws.glued_eq_join _ _).trans (join_T sep xs)
    rw [e]; exact h t' k

theorem inter_cons (sep x y : List Nat) (r : List (List Nat)) : List.intercalate sep (x :: y :: r) = x ++ sep ++ List.intercalate sep (y :: r) := by
  simp [List.intercalate, List.intersperse]

/-- a text is cut at a sign in one way only -/
theorem inter_inj {c : Nat} : ∀ {ps qs : List (List Nat)}, ps ≠ [] → qs ≠ [] → (∀ p ∈ ps, c ∉ p) → (∀ p ∈ qs, c ∉ p) → List.intercalate [c] ps = List.intercalate [c] qs → ps = qs := by
  have head : ∀ {a b x y : List Nat}, c ∉ a → c ∉ b → a ++ c :: x = b ++ c :: y → a = b ∧ x = y := by
    intro a
    induction a with
    | nil =>
      intro b x y _ hb e
      cases b with
      | nil => simp at e; exact ⟨rfl, e⟩
      | cons d b => simp at e; exact absurd (by rw [e.1]; exact List.mem_cons_self) hb
    | cons d a ih =>
      intro b x y ha hb e
      cases b with
      | nil => simp at e; exact absurd (by rw [← e.1]; exact List.mem_cons_self) ha
      | cons d' b =>
        simp at e
        obtain ⟨rfl, e⟩ := e
        obtain ⟨rfl, e2⟩ := ih (fun h => ha (List.mem_cons_of_mem _ h)) (fun h => hb (List.mem_cons_of_mem _ h)) (by simpa using e)
        exact ⟨rfl, e2⟩
  intro ps
  induction ps with
  | nil => intro qs h; exact absurd rfl h
  | cons p ps ih =>
    intro qs _ hq hp1 hq1 e
    cases qs with
    | nil => exact absurd rfl hq
    | cons q qs =>
      cases ps with
      | nil =>
        cases qs with
        | nil => simp [List.intercalate, List.intersperse] at e; rw [e]
        | cons q2 qs =>
          rw [inter_cons] at e
          have e1 : List.intercalate [c] [p] = p := by simp [List.intercalate, List.intersperse]
          rw [e1] at e
          exact absurd (by rw [e]; simp) (hp1 p List.mem_cons_self)
      | cons p2 ps =>
        cases qs with
        | nil =>
          rw [inter_cons] at e
          have e1 : List.intercalate [c] [q] = q := by simp [List.intercalate, List.intersperse]
          rw [e1] at e
          exact absurd (by rw [← e]; simp) (hq1 q List.mem_cons_self)
        | cons q2 qs =>
          rw [inter_cons, inter_cons] at e
          obtain ⟨rfl, e2⟩ := head (hp1 p List.mem_cons_self) (hq1 q List.mem_cons_self) (by simpa using e)
          rw [ih (by simp) (by simp) (fun x hx => hp1 x (List.mem_cons_of_mem _ hx)) (fun x hx => hq1 x (List.mem_cons_of_mem _ hx)) e2]

theorem inter_bind {c : Nat} {f : Nat → List Nat} (hf : f c = [c]) : ∀ ws : List (List Nat), (List.intercalate [c] ws).flatMap f = List.intercalate [c] (ws.map fun x => x.flatMap f)
  | [] => rfl
  | [x] => by simp [List.intercalate, List.intersperse]
  | x :: y :: r => by
    rw [inter_cons, List.map_cons, List.map_cons, inter_cons, ← List.map_cons, ← inter_bind hf (y :: r)]
    simp [hf]

theorem split_ne (x y : Str) : Txt.split x y ≠ [] := by
  intro h
  unfold Txt.split at h
  split at h
  · cases h
  · split at h
    · cases h
    · unfold Builtin.Str.partsBetween at h
      simp at h
theorem split_T {c : Nat} {ps : List (List Nat)} (hp : ps ≠ []) (hf : ∀ p ∈ ps, c ∉ p) : Txt.split (T (List.intercalate [c] ps)) (T [c]) = ps.map T := by
  have e2 := StrLaws.join_split (T (List.intercalate [c] ps)) (T [c])
  have hfr := StrLaws.split_free (T (List.intercalate [c] ps)) c
  have hT : (⟨#[c]⟩ : Str) = T [c] := rfl
  rw [hT] at hfr
  have hm := map_T_of (Txt.split (T (List.intercalate [c] ps)) (T [c]))
  generalize hqs : (Txt.split (T (List.intercalate [c] ps)) (T [c])).map (fun x => x.cps.toList) = qs at hm
  have hfree : ∀ p ∈ qs, c ∉ p := by
    intro p hp
    rw [← hqs] at hp
    obtain ⟨x, hx, rfl⟩ := List.mem_map.mp hp
    exact hfr x hx
  have hne : qs ≠ [] := by
    intro e
    rw [e] at hm
    exact split_ne _ _ hm
  rw [hm] at e2 ⊢
  rw [join_T] at e2
  rw [inter_inj hne hp hfree hf (T_inj e2)]

/-- split at one sign of a text written sign by sign -/
theorem split_M {c : Nat} {f : Nat → List Nat} {ws : List (List Nat)} {y : Str} {t u : Tok} {Q : Value → Shared → Prop} (F : Fr h₀ L s.heap m) (N : News h₀ L s.heap news) (hy : y = T [c]) (hf : f c = [c]) (hfr : ∀ d, d ≠ c → c ∉ f d) (hw : ws ≠ []) (hws : ∀ x ∈ ws, c ∉ x)
    (hlen : (List.intercalate [c] ws).length ≤ 1000) (hf6 : ∀ d, (f d).length ≤ 6)
    (h : ∀ D h' tk vs, Fr h₀ L h' m → News h₀ L h' ((D, listOf (List.toArray vs) 0) :: news) → (∀ p ∈ news, p.1 < D) → TL vs (ws.map fun x => x.flatMap f) → Q (.ref D) { s with heap := h', toks := tk }) :
    wpAny (model prog w) A (call (.builtin "str.split") [.str (T ((List.intercalate [c] ws).flatMap f)) t, .str y u]) Q E s := by
  subst hy
  refine KSpl.split1 F N rfl (fun D l h' k e a F' N' lt => ?_) ?_
  · rw [e, inter_bind hf, split_T (by simpa using hw) ?_] at a
    · exact h D h' k _ F' N' lt a
    · intro p hp
      obtain ⟨x, hx, rfl⟩ := List.mem_map.mp hp
      intro hm
      obtain ⟨d, hd, hm⟩ := List.mem_flatMap.mp hm
      exact hfr d (fun q => hws x hx (q ▸ hd)) hm
  · have := flat_len f hf6 (List.intercalate [c] ws)
    rw [T_len, sizeLine_eq]; omega

/-- two lists of the same texts -/
theorem eqs_TL {its its2 : Array Value} {xs : List (List Nat)} (hx : TL its.toList xs) (hy : TL its2.toList xs) : its.size = its2.size ∧ ∀ j (h1 : j < its.size) (h2 : j < its2.size), SeqAt.EqAt A.in1 s its[j] its2[j] true := by
  have e1 := hx.len
  have e2 := hy.len
  refine ⟨by simpa using e1.trans e2.symm, fun j h1 h2 => ?_⟩
  obtain ⟨x, t, e, hx'⟩ := hx.item (i := j) (v := its[j]) (by simp [h1])
  obtain ⟨y, u, e', hy'⟩ := hy.item (i := j) (v := its2[j]) (by simp [h2])
  rw [hx'] at hy'
  cases hy'
  rw [e, e']
  have := SeqAt.EqAt.str_str (A := A.in1) (s := s) (T x) t (T x) u
  simpa using this
theorem eq_TL {l b : Addr} {its its2 : Array Value} {xs : List (List Nat)} {Q : Value → Shared → Prop} (hl : s.heap.IsList l its) (hb : s.heap.IsList b its2) (hx : TL its.toList xs) (hy : TL its2.toList xs) (hu : A.units < cLine) (h : Q (.bool true) s) : wpAny (model prog w) A (compareOp .Eq (.ref l) (.ref b)) Q E s := by
  obtain ⟨e, he⟩ := eqs_TL (A := A) (s := s) hx hy
  have := SeqAt.RcAt.lists hl hb e hu he prog w E Q
  exact this (by rw [show ((List.range its.size).all fun _ => true) = true from List.all_eq_true.mpr fun _ _ => rfl]; exact h)
theorem ne_TL {l b : Addr} {its its2 : Array Value} {xs : List (List Nat)} {Q : Value → Shared → Prop} (hl : s.heap.IsList l its) (hb : s.heap.IsList b its2) (hx : TL its.toList xs) (hy : TL its2.toList xs) (hu : A.units < cLine) (h : Q (.bool false) s) : wpAny (model prog w) A (compareOp .NotEq (.ref l) (.ref b)) Q E s := by
  obtain ⟨e, he⟩ := eqs_TL (A := A) (s := s) hx hy
  have := SeqAt.RcNeAt.lists hl hb e hu he prog w E Q
  exact this (by rw [show ((List.range its.size).all fun _ => true) = true from List.all_eq_true.mpr fun _ _ => rfl]; exact h)
end
end Mine
end
theorem Mine.walk_off_P11 : True := by
  w_top off
  k_with_none
  trivial
section
open PySem PySem.W PyProof.Rows PySem.Calls PySem.Spec
set_option Elab.async false
set_option maxRecDepth 100000
set_option maxHeartbeats 8000000
namespace Mine

section
variable {prog : Program} {w : World} {A : Around} {E : Value → Shared → Prop} {h₀ : Heap} {L : Addr} {m : Str → Option Value} {env : Env} {elt ct iter : Expr} {x : Str} {scope : Scope} {cl : List (Str × Addr)} {s : Shared} {S : List (Addr × Obj) → Prop} {Fin : List Value → List (Addr × Obj) → Prop} {news : List (Addr × Obj)}
theorem rest_as {vs0 : List Value} {f : List Nat → List Nat} {xs : List (List Nat)} {its : Array Value} {n : Nat} (_H : TL vs0 (xs.map f)) (hT : TL its.toList xs) (hn : n = its.size)
    (turn : ∀ c t I oI C oC D m₂ ys h tk (E' : Value → Shared → Prop), c ∈ xs → ys.length ≤ n → LCg.NsObj oC m₂ → m₂ x = some (.str (T c) t) → Fr h₀ L h m → News h₀ L h ((I, oI) :: (C, oC) :: (D, LCg.lst ys) :: news) → LCg.Off3 I C D news → ((@Ne Nat I C) ∧ (@Ne Nat I D) ∧ (@Ne Nat C D)) →
      wpAny (model prog w) A (eval elt (compEnvC scope cl C env)) (LCg.CompEnd h₀ L m { s with heap := h, toks := tk } I oI C oC D (LCg.lst ys) S (fun y news' => news' = news ∧ ∃ t, y = .str (T (f c)) t)) E' { s with heap := h, toks := tk })
    (fin : ∀ ys, TL ys (xs.map f) → Fin ys news) : LCg.CompRest prog w A h₀ L m env elt x scope cl s S (fun i v => its[i]? = some v) Fin n 0 [] news := by
  refine rest_all (xs := xs) (fun a v => ∃ t, v = .str (T a) t) (fun a y => ∃ t, y = .str (T (f a)) t) (by have := hT.len; rw [hn]; simpa using this.symm) (src_list hT) (fun a v I oI C oC D m₂ ys h tk E' ha hv hl hC hx F N off ne => ?_) fun ys h => fin ys h.toTL
  obtain ⟨t, rfl⟩ := hv
  exact turn a t I oI C oC D m₂ ys h tk E' ha hl hC hx F N off ne
theorem rest_ch {vs0 : List Value} {g : Nat → List Nat} {xs : List (List Nat)} {l : List Nat} {n : Nat} (_H : TL vs0 (xs.map fun x => x.flatMap g)) (hn : n = l.length)
    (turn : ∀ c t I oI C oC D m₂ ys h tk (E' : Value → Shared → Prop), c ∈ l → ys.length ≤ n → LCg.NsObj oC m₂ → m₂ x = some (.str (T [c]) t) → Fr h₀ L h m → News h₀ L h ((I, oI) :: (C, oC) :: (D, LCg.lst ys) :: news) → LCg.Off3 I C D news → ((@Ne Nat I C) ∧ (@Ne Nat I D) ∧ (@Ne Nat C D)) →
      wpAny (model prog w) A (eval elt (compEnvC scope cl C env)) (LCg.CompEnd h₀ L m { s with heap := h, toks := tk } I oI C oC D (LCg.lst ys) S (fun y news' => news' = news ∧ ∃ t, y = .str (T (g c)) t)) E' { s with heap := h, toks := tk })
    (fin : ∀ ys, TL ys (l.map g) → Fin ys news) : LCg.CompRest prog w A h₀ L m env elt x scope cl s S (fun i v => ∃ c, l[i]? = some c ∧ ∃ u, v = .str (T [c]) u) Fin n 0 [] news := by
  refine rest_all (xs := l) (fun c v => ∃ t, v = .str (T [c]) t) (fun c y => ∃ t, y = .str (T (g c)) t) hn.symm (fun i v h => h) (fun a v I oI C oC D m₂ ys h tk E' ha hv hl hC hx F N off ne => ?_) fun ys h => fin ys h.toTL1
  obtain ⟨t, rfl⟩ := hv
  exact turn a t I oI C oC D m₂ ys h tk E' ha hl hC hx F N off ne
end
theorem fin_list {h₀ h : Heap} {L D : Addr} {ys : List Value} {news : List (Addr × Obj)} (N : News h₀ L h ((D, LCg.lst ys) :: news)) : h.IsList D ys.toArray := ⟨_, (N _ List.mem_cons_self).1, rfl, _, rfl⟩
theorem news_tail {h₀ h : Heap} {L : Addr} {x : Addr × Obj} {news : List (Addr × Obj)} (N : News h₀ L h (x :: news)) : News h₀ L h news := fun p hp => N p (List.mem_cons_of_mem _ hp)
theorem inter_nil : ∀ ws : List (List Nat), List.intercalate [] ws = ws.flatten
  | [] => rfl
  | [x] => by rw [List.flatten_cons, List.flatten_nil, List.append_nil]; simp [List.intercalate, List.intersperse]
  | x :: y :: r => by rw [inter_cons, inter_nil (y :: r), List.append_nil, List.flatten_cons (l := x)]
theorem inter_map (g : Nat → List Nat) (l : List Nat) : List.intercalate [] (l.map g) = l.flatMap g := by rw [inter_nil]; rfl
theorem sum_flat (l : List (List Nat)) : (l.map (·.length)).sum = l.flatten.length := by
  induction l with
  | nil => rfl
  | cons x l ih => rw [List.map_cons, List.sum_cons, ih, List.flatten_cons, List.length_append]
theorem sum_g {g : Nat → List Nat} (hg : ∀ d, (g d).length ≤ 6) {l : List Nat} (h : l.length ≤ 1000) : ((l.map g).map (·.length)).sum + (l.map g).length * 64 ≤ 1000000 := by
  rw [sum_flat, List.length_map]
  have := flat_len g hg l
  rw [List.flatMap] at this
  omega
/-- the five pages: a list of five lists of texts -/
noncomputable def RPages (P : Nat → List (List Nat)) (v : Value) (own : List (Addr × Obj)) : Prop := ∃ l n a0 a1 a2 a3 a4 v0 v1 v2 v3 v4, v = .ref l ∧ own = [(a4, W.listOf (List.toArray v4) 0), (a3, W.listOf (List.toArray v3) 0), (a2, W.listOf (List.toArray v2) 0), (a1, W.listOf (List.toArray v1) 0), (a0, W.listOf (List.toArray v0) 0), (l, W.listOf #[.ref a0, .ref a1, .ref a2, .ref a3, .ref a4] n)]
  ∧ TL v0 (P 0) ∧ TL v1 (P 1) ∧ TL v2 (P 2) ∧ TL v3 (P 3) ∧ TL v4 (P 4)
theorem pages_fin {P : Nat → List (List Nat)} {l a0 a1 a2 a3 a4 : Addr} {n : Nat} {v0 v1 v2 v3 v4 : List Value} (t0 : TL v0 (P 0)) (t1 : TL v1 (P 1)) (t2 : TL v2 (P 2)) (t3 : TL v3 (P 3)) (t4 : TL v4 (P 4)) :
    RPages P (.ref l) [(a4, W.listOf (List.toArray v4) 0), (a3, W.listOf (List.toArray v3) 0), (a2, W.listOf (List.toArray v2) 0), (a1, W.listOf (List.toArray v1) 0), (a0, W.listOf (List.toArray v0) 0), (l, W.listOf (#[.ref a0, .ref a1, .ref a2, .ref a3].push (.ref a4)) n)] :=
  ⟨l, n, a0, a1, a2, a3, a4, v0, v1, v2, v3, v4, rfl, rfl, t0, t1, t2, t3, t4⟩
theorem news_init {h₀ h : Heap} {L : Addr} {l : List (Addr × Obj)} (N : News h₀ L h l) : News h₀ L h l.dropLast := fun p hp => N p ((List.dropLast_sublist l).subset hp)
theorem fresh_init {P : Addr × Obj → Prop} {l : List (Addr × Obj)} (N : ∀ p ∈ l, P p) : ∀ p ∈ l.dropLast, P p := fun p hp => N p ((List.dropLast_sublist l).subset hp)
theorem chW_len (k : Nat) : ∀ d, (ch (chW k) d).length ≤ 6 := by
  intro d
  match k with
  | 0 => exact ch_len _ (by decide) d
  | 1 => exact ch_len _ (by decide) d
  | 2 => exact ch_len _ (by decide) d
  | 3 => exact ch_len _ (by decide) d
  | k + 4 => exact ch_len ch_attrib_c14n (by decide) d
theorem ch_no {ps : List (Nat × List Nat)} {c : Nat} (h1 : (ps.all fun p => decide (c ∉ ch ps p.1)) = true) (d : Nat) (hd : d ≠ c) : c ∉ ch ps d := by
  by_cases h : ∃ p ∈ ps, p.1 = d
  · obtain ⟨p, hp, rfl⟩ := h
    exact of_decide_eq_true (List.all_eq_true.mp h1 p hp)
  · rw [ch_free ps d fun p hp e => h ⟨p, hp, e⟩]
    simpa using Ne.symm hd
section
variable {prog : Program} {w : World} {A : Around} {E : Value → Shared → Prop} {s : Shared} {env : Env}
theorem lookup_tab (c : Nat) : ∀ ps : List (Nat × List Nat), PySem.Spec.lookup (.str (T [c])) (ps.map fun p => (PyData.str (T [p.1]), PyData.str (T p.2))) = (ps.lookup c).map fun z => PyData.str (T z)
  | [] => rfl
  | (k, z) :: ps => by
    rw [List.map_cons]
    unfold PySem.Spec.lookup
    rw [PyProof.V.same_str, List.lookup_cons]
    by_cases h : c = k
    · subst h
      simp
    · have h1 : T [k] ≠ T [c] := fun e => h (by have := T_inj e; simpa using this.symm)
      have h2 : (c == k) = false := by simpa using h
      rw [decide_eq_false h1, h2, lookup_tab c ps]
      simp
theorem if_table {x y : Str} {c : Nat} {t : Tok} {d : Addr} {ps : List (Nat × List Nat)} {p1 p2 p3 p4 p5 p6 p7 p8 : Pos} {Q : Value → Shared → Prop}
    (hS : ∀ (p : Pos) (tk : Nat) (Q : Value → Shared → Prop), Q (.str (T [c]) t) { s with toks := tk } → wpAny (model prog w) A (eval (.Name x p) env) Q E { s with toks := tk })
    (hT : ∀ (p : Pos) (tk : Nat) (Q : Value → Shared → Prop), Q (.ref d) { s with toks := tk } → wpAny (model prog w) A (eval (.Name y p) env) Q E { s with toks := tk })
    (Tb : StrTab prog w s.heap d (ps.map fun p => (PyData.str (T [p.1]), PyData.str (T p.2)))) (hg : ch ps c = (ps.lookup c).getD [c])
    (h : ∀ t' tk, Q (.str (T (ch ps c)) t') { s with toks := tk }) :
    wpAny (model prog w) A (eval (.IfExp (.Compare (.Name x p1) [.In] [.Name y p2] p3) (.Subscript (.Name y p4) (.Name x p5) p6) (.Name x p7) p8) env) Q E s := by
  refine wpAny_IfExp (wpAny_isTrue_Compare1 (hS p1 s.toks _ (hT p2 s.toks _ (in_strTab Tb (wpAny_truthy_bool ?_)))))
  rw [lookup_tab]
  cases hl : ps.lookup c with
  | none =>
    rw [hl] at hg
    refine hS p7 _ _ ?_
    have := h t (s.toks + 1)
    rw [hg] at this
    exact this
  | some z =>
    rw [hl] at hg
    refine Subscript_ (hT p4 _ _ (hS p5 _ _ (item_strTab (s := { s with toks := s.toks + 1 }) Tb (by rw [lookup_tab, hl]; rfl) fun v hv => ?_)))
    obtain ⟨t', rfl⟩ := PyProof.V.Flat.str_inv hv
    have := h t' (s.toks + 1 + 1)
    rw [hg] at this
    exact this
theorem ch_look {ps : List (Nat × List Nat)} (h : (ps.all fun p => decide (ps.lookup p.1 = some (ch ps p.1))) = true) (c : Nat) : ch ps c = (ps.lookup c).getD [c] := by
  by_cases hd : ∃ p ∈ ps, p.1 = c
  · obtain ⟨p, hp, rfl⟩ := hd
    rw [of_decide_eq_true (List.all_eq_true.mp h p hp)]; rfl
  · have e : ps.lookup c = none := by
      rw [List.lookup_eq_none_iff]
      intro p hp
      simp only [bne_iff_ne, ne_eq]
      exact fun e => hd ⟨p, hp, e.symm⟩
    rw [e, ch_free ps c fun p hp e => hd ⟨p, hp, e⟩]; rfl
end
theorem tab0 (w : World) (h : Heap) (X : (Mine.heap w.params).In h) : StrTab PySem.Challenge.rw_in0282_01.row.prog w h 126 ((chW 0).map fun p => (PyData.str (T [p.1]), PyData.str (T p.2))) :=
  kt_tab_in (a := 126) (D := (chW 0).map fun p => (T [p.1], PyData.str (T p.2))) _ w X (by kernel_rfl) (by decide) (by kernel_rfl)
theorem tab1 (w : World) (h : Heap) (X : (Mine.heap w.params).In h) : StrTab PySem.Challenge.rw_in0282_01.row.prog w h 127 ((chW 1).map fun p => (PyData.str (T [p.1]), PyData.str (T p.2))) :=
  kt_tab_in (a := 127) (D := (chW 1).map fun p => (T [p.1], PyData.str (T p.2))) _ w X (by kernel_rfl) (by decide) (by kernel_rfl)
theorem tab2 (w : World) (h : Heap) (X : (Mine.heap w.params).In h) : StrTab PySem.Challenge.rw_in0282_01.row.prog w h 128 ((chW 2).map fun p => (PyData.str (T [p.1]), PyData.str (T p.2))) :=
  kt_tab_in (a := 128) (D := (chW 2).map fun p => (T [p.1], PyData.str (T p.2))) _ w X (by kernel_rfl) (by decide) (by kernel_rfl)
theorem tab3 (w : World) (h : Heap) (X : (Mine.heap w.params).In h) : StrTab PySem.Challenge.rw_in0282_01.row.prog w h 129 ((chW 3).map fun p => (PyData.str (T [p.1]), PyData.str (T p.2))) :=
  kt_tab_in (a := 129) (D := (chW 3).map fun p => (T [p.1], PyData.str (T p.2))) _ w X (by kernel_rfl) (by decide) (by kernel_rfl)
theorem tab4 (w : World) (h : Heap) (X : (Mine.heap w.params).In h) : StrTab PySem.Challenge.rw_in0282_01.row.prog w h 130 ((chW 4).map fun p => (PyData.str (T [p.1]), PyData.str (T p.2))) :=
  kt_tab_in (a := 130) (D := (chW 4).map fun p => (T [p.1], PyData.str (T p.2))) _ w X (by kernel_rfl) (by decide) (by kernel_rfl)
theorem look0 (c : Nat) : ch (chW 0) c = ((chW 0).lookup c).getD [c] := ch_look (by decide) c
theorem look1 (c : Nat) : ch (chW 1) c = ((chW 1).lookup c).getD [c] := ch_look (by decide) c
theorem look2 (c : Nat) : ch (chW 2) c = ((chW 2).lookup c).getD [c] := ch_look (by decide) c
theorem look3 (c : Nat) : ch (chW 3) c = ((chW 3).lookup c).getD [c] := ch_look (by decide) c
theorem look4 (c : Nat) : ch (chW 4) c = ((chW 4).lookup c).getD [c] := ch_look (by decide) c
noncomputable def Hold9 (P : Prop) : Prop := P
theorem hold9 {P : Prop} (h : Hold9 P) : P := h
theorem with_turn {M : Model} {A : Around} {body : List Stmt} {e : Env} {E : Value → Shared → Prop} {Q : Flow → Shared → Prop} {s : Shared} (P : Model → Around → List Stmt → Env → (Value → Shared → Prop) → Prop) (h1 : P M A body e E)
    (h2 : P M A body e E → wpAny M A (execs body e) Q E s) : Hold9 (wpAny M A (execs body e) Q E s) := h2 h1
theorem mv1 {g h : Heap} {L : Addr} {x p c : Addr × Obj} {r : List (Addr × Obj)} (N : News g L h (x :: p :: c :: r)) : News g L h (p :: c :: x :: r) := fun q hq => by
  rcases List.mem_cons.mp hq with rfl | hq
  · exact N _ (.tail _ (.head _))
  rcases List.mem_cons.mp hq with rfl | hq
  · exact N _ (.tail _ (.tail _ (.head _)))
  rcases List.mem_cons.mp hq with rfl | hq
  · exact N _ (.head _)
  · exact N _ (.tail _ (.tail _ (.tail _ hq)))
theorem mv2 {g h : Heap} {L : Addr} {x y p c : Addr × Obj} {r : List (Addr × Obj)} (N : News g L h (x :: y :: p :: c :: r)) : News g L h (p :: c :: x :: y :: r) := fun q hq => by
  rcases List.mem_cons.mp hq with rfl | hq
  · exact N _ (.tail _ (.tail _ (.head _)))
  rcases List.mem_cons.mp hq with rfl | hq
  · exact N _ (.tail _ (.tail _ (.tail _ (.head _))))
  rcases List.mem_cons.mp hq with rfl | hq
  · exact N _ (.head _)
  rcases List.mem_cons.mp hq with rfl | hq
  · exact N _ (.tail _ (.head _))
  · exact N _ (.tail _ (.tail _ (.tail _ (.tail _ hq))))
theorem sub_pages {x4 p c x3 x2 x1 x0 : Addr × Obj} : ∀ q ∈ [x4, x3, x2, x1, x0, p], q ∈ [x4, p, c, x3, x2, x1, x0] := SubL.mem ⟨by k_mem, by k_mem, by k_mem, by k_mem, by k_mem, by k_mem, trivial⟩
theorem rows_P12_1 : True := by
  k_with_none
  k_with "ne" => (refine neN ?_; (try dsimp only); first | exact Nat.ne_of_lt (by assumption) | exact Nat.ne_of_gt (by assumption) | exact Mine.la0 (by assumption) | exact Mine.ga0 (by assumption) | exact Mine.la1 (by assumption) | exact Mine.ga1 (by assumption) | exact Mine.le1 (by assumption) | exact Mine.ge1 (by assumption) | exact Mine.la2 (by assumption) | exact Mine.ga2 (by assumption) | exact Mine.le2 (by assumption) | exact Mine.ge2 (by assumption) | exact Mine.la3 (by assumption) | exact Mine.ga3 (by assumption) | exact Mine.le3 (by assumption) | exact Mine.ge3 (by assumption) | exact Mine.la4 (by assumption) | exact Mine.ga4 (by assumption) | exact Mine.le4 (by assumption) | exact Mine.ge4 (by assumption) | exact Mine.la5 (by assumption) | exact Mine.ga5 (by assumption) | exact Mine.le5 (by assumption) | exact Mine.ge5 (by assumption) | exact Mine.la6 (by assumption) | exact Mine.ga6 (by assumption) | exact Mine.le6 (by assumption) | exact Mine.ge6 (by assumption) | exact Mine.la7 (by assumption) | exact Mine.ga7 (by assumption) | exact Mine.le7 (by assumption) | exact Mine.ge7 (by assumption) | exact Mine.la8 (by assumption) | exact Mine.ga8 (by assumption) | exact Mine.le8 (by assumption) | exact Mine.ge8 (by assumption))
  k_with "room" => (first | exact Mine.room0 (by assumption) | exact Mine.room1 (by assumption) (by decide) | exact Mine.room2 (by assumption) (by decide))
  k_with "units" => (first | exact Mine.room0 (by assumption) | exact Mine.room1 (by assumption) (by decide) | exact Mine.room2 (by assumption) (by decide))
  k_with "size" => (first | exact Nat.zero_le _ | with_reducible exact Mine.szT (by assumption) | with_reducible exact Mine.szT1 (by assumption) | with_reducible exact Mine.szK (by assumption) | with_reducible exact Mine.szK1 (by assumption))
  k_with "Kont" => ((try dsimp only); first | (refine' Mine.kont0_next ?L_k ?_; (case L_k => assumption)) | (refine' Mine.kont0_ret ?L_k ?_; (case L_k => assumption)) | (refine' Mine.kont0_brk ?L_k ?_; (case L_k => assumption)) | (refine' Mine.kont0_cont ?L_k ?_; (case L_k => assumption)))
  k_with "execs cons" => (k_here; first | refine Mine.execs_one ?_ | (refine Mine.execs_kont0 ?_; intro K9 hK9))
  k_with "LeaveM" => (k_dflt (refine' Mine.leaveM_ ?k1 ?k2 ?_; (case k1 => k_asm); (case k2 => k_asm); k_whole); intro kF kS kN kf; (try dsimp only))
  k_with "call ref" => (k_here; k_dflt (refine' Mine.Tell.use (hQw _ _ _ (by assumption)) ?X ?B ?F ?N ?T ?hk ?hd ?hu ?ht ?hn ?_; (case X => k_asm); (case B => k_asm); (case F => k_asm); (case N => k_asm); (case T => k_asm); (case hk => first | exact rfl | assumption); (case hd => ktr_room); (case hu => ktr_units); (case ht => first | assumption | exact Nat.succ_pos _ | (dsimp only; omega)); (case hn => trivial); k_whole; intro v9 own9 h9 tk9 F9 N9 ne9 p9 R9; obtain ⟨⟨t9, e9⟩, o9⟩ := R9; subst e9; subst o9; (try simp only [List.nil_append] at N9); (try dsimp only); (try k_fold)))
  k_with "call builtin:str.join" => (k_here; k_dflt ((refine' Mine.join_M (sep := [47]) ?h0 ?hx ?hl ?hi ?hsep ?hok ?_; (case h0 => first | assumption | exact Nat.succ_pos _ | omega); (case hx => decide); (case hl => is_list); (case hi => assumption); (case hsep => decide); (case hok => assumption); k_whole; intro t9 k9 p9; (try dsimp only))))
  k_with "call builtin:str.join" => (k_here; k_dflt ((refine' Mine.join_M0 (sep := []) ?hx ?hl ?hi ?hsep ?hok ?_; (case hx => decide); (case hl => is_list); (case hi => assumption); (case hsep => decide); (case hok => exact Mine.sum_g (Mine.chW_len _) (by assumption)); k_whole; intro t9 k9; (try dsimp only))))
  k_with "call builtin:str.split" => (k_here; k_dflt ((refine' Mine.split_M (c := 47) ?F ?N ?hy ?hf ?hfr ?hw ?hws ?hlen ?hf6 ?_; (case F => k_asm); (case N => k_asm); (case hy => decide); (case hf => exact hQ47); (case hfr => assumption); (case hw => assumption); (case hws => assumption); (case hlen => assumption); (case hf6 => exact Mine.chW_len _); k_whole; intro D9 h9 tk9 vs9 F9 N9 lt9 TL9; (try k_lt lt9); (try dsimp only))))
  k_with "CompSrc" => (k_here; k_dflt (((refine LCg.CompSrc.base (by rfl) (by k_asm) (by k_asm) (by assumption) (by assumption) ?_); intro g9; (refine' Mine.rest_as ?H ?hT ?hn (fun c9 t9 I9 oI9 C9 oC9 D9 m9 ys9 h9 tk9 E9 hc9 hl9 hC9 hx9 F9 N9 off9 ne9 => ?_) (fun ys9 TL9 => ?_); (case H => assumption); (case hT => assumption); (case hn => rfl)); (have hc1000 := (by assumption : ∀ x ∈ _, List.length x ≤ 1000) c9 hc9; have off8 := off9; (try simp only [LCg.Off3, and_true] at off8)))))
  k_with "eval ListComp" => (k_here; (with_reducible show wpAny _ _ (eval _ (compEnvC _ _ _ _)) _ _ _); k_dflt (refine Mine.ListComp_S (_F₀ := by k_asm) (by with_unfolding_all rfl) (by decide) (by rfl) (by decide) (by rfl) ?_))
  k_with "SrcS" => (k_here; k_dflt (((refine Mine.SrcS.intro (by rfl) (by k_asm) (by k_asm) (by rw [PySem.sizeLine_eq]; omega) ?_); intro g9; (refine' Mine.rest_ch ?H ?hn (fun c9 t9 I9 oI9 C9 oC9 D9 m9 ys9 h9 tk9 E9 hc9 hl9 hC9 hx9 F9 N9 off9 ne9 => ?_) (fun ys9 TL9 => ?_); (case H => assumption); (case hn => rfl)); (have off8 := off9; (try simp only [LCg.Off3, and_true] at off8)))))
  k_with "CompEnd" => (k_here; k_dflt ((refine' Mine.end_same ?F ?N ?sub ?off ?hS ?_; (case F => k_asm); (case N => k_asm); (case sub => first | exact fun _ hp => hp | lcg_sub); (case off => first | assumption | lcg_off); (case hS => lcg_src); (first | exact ⟨_, rfl⟩ | (rw [Mine.inter_map]; exact ⟨_, rfl⟩) | refine Mine.hold ?_))))
  k_with "compareOp NotEq ref ref" => (k_here; k_dflt (refine' Mine.ne_TL ?hl ?hb ?hx ?hy ?hu ?_; (case hl => is_list); (case hb => is_list); (case hx => assumption); (case hy => assumption); (case hu => ktr_units); k_whole; (try dsimp only)))
  k_with "FinE" => ((unfold LCg.FinE); intro D9 h9 tk9 F9 N9 o9; (have hD9 := Mine.fin_list N9); (replace N9 := Mine.news_tail N9); (clear o9); (try simp only [List.nil_append, List.cons_append] at N9); (try dsimp only))
  k_with "eval IfExp" => (k_here; k_dflt ((refine' Mine.if_table (ps := Mine.chW _) ?hS ?hT ?Tb ?hg ?_; (case Tb => exact hQt.keep (Fr.keep (by k_asm))); (case hT => (intro p9 tk9 Q9 q9; first | (refine' lcf_cell ?N ?c ?m ?d q9 ?a ?b; (case a => rfl); (case b => rfl); (case N => k_asm); (case c => rfl); (case m => k_mem); (case d => k_asm)) | (refine' lcf_free ?N ?c ?m ?d q9 ?a ?b; (case a => rfl); (case b => rfl); (case N => k_asm); (case c => rfl); (case m => k_mem); (case d => k_asm)))); (case hS => (intro p9 tk9 Q9 q9; exact LCgL.ld_own (by k_asm) (by k_mem) (by assumption) (by assumption) q9)); (case hg => exact hQlk _); k_whole; intro t9 k9; (try dsimp only))))
  k_with "execs cons" => ((with_reducible show wpAny _ _ (execs (Stmt.Assign [Expr.Name (PySem.Str.ofString "writings") _] _ _ :: _) _) _ _ _); refine Mine.hold9 ?_)
  k_with "eval Name" => (k_here; k_dflt (refine' nameX_L ?nF ?nv ?_ ?na ?nb ?nc; (case nF => k_asm); (case nv => first | exact rfl | assumption); (case na => rfl); (case nb => rfl); (case nc => decide); k_whole))
  k_with "all" => assumption
  trivial

theorem c_pages (w : World) (ws : List (List Nat)) (l : Addr) (vs : List Value) (hs : TL vs ws) (hw : ws ≠ []) (hws : ∀ x ∈ ws, 47 ∉ x) (hlen : (List.intercalate [47] ws).length ≤ 1000) (hok : (ws.map (·.length)).sum + ws.length * 64 ≤ 1000000) (hok2 : ∀ x ∈ ws, x.length ≤ 1000) (hsz : vs.toArray.size ≤ sizeLine) :
    Tell w 155 6 60 [.ref l] (fun h => h.IsList l vs.toArray) (RPages fun k => ws.map fun x => x.flatMap (ch (chW k))) := by
  refine Tell.of ?_
  k_fill
  intro p loose mean mg mb dp un gd cn cs a ccd cl outer A₀ base h₀ L m s Q E X B F T hk hd hu ht hn hret
  refine wpAny_call ?_
  k_dflt (refine' Mine.enterC ?k1 ?k2 ?k3 ?k5 ?kA ?kF ?kK ?k6 ?k7 ?k8 ?k9 ?kB ?kD ?_ ?c2 ?c3 ?c4; (case kA => exact rfl); (case kF => exact rfl); (case kK => assumption); (case k1 => k_asm); (case k2 => k_asm); (case k3 => k_asm); (case k5 => k_asm); (case k6 => k_is); (case k7 => k_is); (case k8 => ktr_room); (case k9 => exact BindsTo.of_eq rfl); (case kB => exact rfl); (case kD => decide +kernel); (case c2 => exact rfl); (case c3 => exact rfl); (case c4 => exact rfl); k_whole; intro L' h' tk' cells' F' N' Y' B' X' T'; k_cells Y'; (try simp only [List.cons_append, List.nil_append] at N'); (try dsimp only); (try k_fold))
  k_steps
  refine with_turn (fun M A body e E => ∀ (k : Nat) (d lp : Addr) (its : Array Value) (n : Nat) (oC : Obj) (news : List (Addr × Obj)) (m1 : Str → Option Value) (h1 : Heap) (tk1 : Nat) (tt : Tok) (gs1 : Array GenState) (dr1 : Drawn) (os1 : OsState) (Q1 : Flow → Shared → Prop),
      (∀ (x : List Nat) (tw tx : Tok), x.length ≤ 1000 → Tell w 138 3 24 [.int (k : Int) tw, .str (Mine.T x) tx] (fun _ => True) (RStr (x.flatMap (ch (chW k))))) →
      (∀ c : Nat, ch (chW k) c = ((chW k).lookup c).getD [c]) → (∀ d, d ≠ 47 → 47 ∉ ch (chW k) d) → ch (chW k) 47 = [47] →
      StrTab PySem.Challenge.rw_in0282_01.row.prog w s.heap d ((chW k).map fun p => (PyData.str (Mine.T [p.1]), PyData.str (Mine.T p.2))) →
      m1 (Str.ofString "way") = some (.int (k : Int) tt) → m1 (Str.ofString "words") = some (.ref l) → m1 (Str.ofString "pages") = some (.ref lp) →
      its.size ≤ 100000 → oC.data = .cell (some (.ref d)) → Fr s.heap L' h1 m1 → News s.heap L' h1 ((lp, W.listOf its n) :: (L' + 1, oC) :: news) →
      (∀ p ∈ news, p.1 ≠ lp) → @LT.lt Nat _ (L' + 1) lp →
      (∀ h2 tk2 m2 a vs2 n2, Fr s.heap L' h2 m2 → m2 (Str.ofString "words") = some (.ref l) → m2 (Str.ofString "pages") = some (.ref lp) →
        News s.heap L' h2 ((a, W.listOf (List.toArray vs2) 0) :: (lp, W.listOf (its.push (.ref a)) n2) :: (L' + 1, oC) :: news) → AllLt a ((lp, W.listOf its n) :: (L' + 1, oC) :: news) → TL vs2 (ws.map fun x => x.flatMap (ch (chW k))) → Q1 .next ⟨h2, gs1, dr1, tk2, os1⟩) →
      wpAny M A (execs body e) Q1 E ⟨h1, gs1, dr1, tk1, os1⟩) ?turn fun turn => ?_
  case turn =>
    intro k d lp its n oC news m1 h1 tk1 tt gs1 dr1 os1 Q1 hQw hQlk hQf hQ47 hQt f1 f2 f3 hsz9 hoC F1 N1 hoff hlp hend
    refine Mine.execs_kont0 ?_
    intro K9 hK9
    k_steps
    (rename Fr _ _ _ _ => FW); (rename News _ _ _ _ => NW)
    exact hend _ _ _ _ _ _ FW (by exact f2) (by exact f3) NW (by assumption) (by assumption)
  (try dsimp only); (rename Fr _ _ _ _ => FW); (rename News _ _ _ _ => NW)
  refine turn 0 126 _ _ _ _ _ _ _ _ _ _ _ _ _ (fun x tw tx hx => c_write0 w x tw tx hx) look0 (fun d hd => ch_no (by decide) d hd) (by decide) (tab0 w _ X') rfl (by first | exact rfl | assumption) (by first | exact rfl | assumption) (by exact Nat.le_of_ble_eq_true rfl) (by assumption) FW (mv1 NW) (by k_all) (by first | assumption | omega) ?_
  intro h2 tk2 m2 a0 vs0 n0 F2 g2 g3 N2 lt2 TL0
  (simp only [AllLt, and_true] at lt2)
  clear FW NW
  k_steps
  (try dsimp only); (rename Fr _ _ _ _ => FW); (rename News _ _ _ _ => NW)
  refine turn 1 127 _ _ _ _ _ _ _ _ _ _ _ _ _ (fun x tw tx hx => c_write1 w x tw tx hx) look1 (fun d hd => ch_no (by decide) d hd) (by decide) (tab1 w _ X') rfl (by first | exact rfl | assumption) (by first | exact rfl | assumption) (by exact Nat.le_of_ble_eq_true rfl) (by assumption) FW (mv2 NW) (by k_all) (by first | assumption | omega) ?_
  intro h2 tk2 m2 a1 vs1 n1 F2 g2 g3 N2 lt2 TL1
  (simp only [AllLt, and_true] at lt2)
  clear FW NW
  k_steps
  (try dsimp only); (rename Fr _ _ _ _ => FW); (rename News _ _ _ _ => NW)
  refine turn 2 128 _ _ _ _ _ _ _ _ _ _ _ _ _ (fun x tw tx hx => c_write2 w x tw tx hx) look2 (fun d hd => ch_no (by decide) d hd) (by decide) (tab2 w _ X') rfl (by first | exact rfl | assumption) (by first | exact rfl | assumption) (by exact Nat.le_of_ble_eq_true rfl) (by assumption) FW (mv2 NW) (by k_all) (by first | assumption | omega) ?_
  intro h2 tk2 m2 a2 vs2 n2 F2 g2 g3 N2 lt2 TL2
  (simp only [AllLt, and_true] at lt2)
  clear FW NW
  k_steps
  (try dsimp only); (rename Fr _ _ _ _ => FW); (rename News _ _ _ _ => NW)
  refine turn 3 129 _ _ _ _ _ _ _ _ _ _ _ _ _ (fun x tw tx hx => c_write3 w x tw tx hx) look3 (fun d hd => ch_no (by decide) d hd) (by decide) (tab3 w _ X') rfl (by first | exact rfl | assumption) (by first | exact rfl | assumption) (by exact Nat.le_of_ble_eq_true rfl) (by assumption) FW (mv2 NW) (by k_all) (by first | assumption | omega) ?_
  intro h2 tk2 m2 a3 vs3 n3 F2 g2 g3 N2 lt2 TL3
  (simp only [AllLt, and_true] at lt2)
  clear FW NW
  k_steps
  (try dsimp only); (rename Fr _ _ _ _ => FW); (rename News _ _ _ _ => NW)
  refine turn 4 130 _ _ _ _ _ _ _ _ _ _ _ _ _ (fun x tw tx hx => c_write4 w x tw tx hx) look4 (fun d hd => ch_no (by decide) d hd) (by decide) (tab4 w _ X') rfl (by first | exact rfl | assumption) (by first | exact rfl | assumption) (by exact Nat.le_of_ble_eq_true rfl) (by assumption) FW (mv2 NW) (by k_all) (by first | assumption | omega) ?_
  intro h2 tk2 m2 a4 vs4 n4 F2 g2 g3 N2 lt2 TL4
  (simp only [AllLt, and_true] at lt2)
  clear FW NW
  k_steps
  exact hret _ _ _ _ kF kS (fun q hq => kN q (sub_pages q hq)) (fun q hq => kf q (sub_pages q hq)) (pages_fin TL0 TL1 TL2 TL3 TL4)
end Mine
end
theorem Mine.walk_off_P12 : True := by
  w_top off
  k_with_none
  trivial
section
open PySem PySem.W PyProof.Rows PySem.Calls PySem.Spec
open PySem.Builtin PySem.Builtin.Str
set_option Elab.async false
set_option maxRecDepth 100000
set_option maxHeartbeats 8000000
namespace Mine
section
variable {prog : Program} {w : World} {A : Around} {E : Value → Shared → Prop}
theorem keyErr_sub : isSubtype (.type "KeyError") (.type "LookupError") = pure true := by rw [isSubtype_type]; kernel_rfl
theorem look_hit {h : Heap} {g : Array GenState} {dr : Drawn} {tk : Nat} {os : OsState} {c : Nat} {d : Addr} {f : Int → Option Value} {z : Str} {u : Tok} {Q : Mapped → Shared → Prop} (hm : h.MapOf (intKind prog w) d f) (hv : f c = some (.str z u))
    (hq : ∀ tk, Q (.text z) ⟨h, g, dr, tk, os⟩) : wpAny (model prog w) A (tableLookup (.ref d) c) Q E ⟨h, g, dr, tk, os⟩ := by
  unfold tableLookup
  refine wpAny_bind (wpAny_attempt (wpAny_bind (wpAny_mkInt' (wpAny_getItem_of (knd := intKind prog w) (k := (c : Int)) (intKind_is _ _ _ _) (s := ⟨h, g, dr, tk + 1, os⟩) hm hv ?_))))
  refine wpAny_bind ?_
  wp_walk
  exact hq _
theorem look_miss {h : Heap} {g : Array GenState} {dr : Drawn} {tk : Nat} {os : OsState} {c : Nat} {d : Addr} {f : Int → Option Value} {Q : Mapped → Shared → Prop} (hh : A.handled = none) (hd : (d == sysModules) = false) (hm : h.MapOf (intKind prog w) d f) (hv : f c = none)
    (hq : ∀ h' tk, (∀ b o, h.get? b = some o → h'.get? b = some o) → Q .keep ⟨h', g, dr, tk, os⟩) : wpAny (model prog w) A (tableLookup (.ref d) c) Q E ⟨h, g, dr, tk, os⟩ := by
  unfold tableLookup
  refine wpAny_bind (wpAny_attempt (wpAny_bind (wpAny_mkInt' (wpAny_getItem_missing_of (knd := intKind prog w) (k := (c : Int)) (intKind_is _ _ _ _) (s := ⟨h, g, dr, tk + 1, os⟩) hd hh hm hv fun h' e hx => ?_))))
  refine wpAny_bind (wpAny_isInstance (T := "KeyError") ?_ keyErr_sub ?_)
  · obtain ⟨ob, t, ho, hc, _⟩ := hx.there
    exact ⟨ob, ho, hc⟩
  · wp_walk
    exact hq _ _ hx.keeps

theorem tr_end {s : Shared} {z z' : Str} {Q : Value → Shared → Prop} (e : z' = z) (hz : z.length ≤ sizeLine) (hq : Q (.str z s.toks) { s with toks := s.toks + 1 }) : wpAny (model prog w) A (retStr z') (fun fin s' => ∃ v, fin = Fin.done (Flow.ret v) ∧ Q v s') E s := by
  subst e
  unfold retStr
  exact wpAny_bind (wpAny_mkStr (wpAny_pure ⟨_, rfl, hq⟩) hz)
theorem translate_hit {s : Shared} {c : Nat} {t : Tok} {d : Addr} {f : Int → Option Value} {z : Str} {u : Tok} {Q : Value → Shared → Prop} (hm : s.heap.MapOf (intKind prog w) d f) (hv : f c = some (.str z u)) (hz : z.length = 2)
    (hq : ∀ t' tk, Q (.str z t') { s with toks := tk }) : wpAny (model prog w) A (call (.builtin "str.translate") [.str (T [c]) t, .ref d]) Q E s := by
  refine wpAny_call_entry F.slot_str_translate (typeIs_str _ _ _) F.entry_str_translate ?_ (F.args_str_translate_2 _ _)
  obtain ⟨h, g, dr, tk, os⟩ := s
  have hl1 : (z.length == 1) = false := by rw [hz]; rfl
  have hl2 : tooLong z.length = false := by rw [hz]; decide
  unfold «str.translate»
  by_cases hc : c < 128
  · wp_walk using look_hit hm hv
    simp only [T, List.all_toArray, List.all_cons, List.all_nil, decide_eq_true hc, Bool.and_true, Bool.true_and, if_true, List.getElem_toArray, List.size_toArray, List.length_cons, List.length_nil, Nat.zero_add, Nat.sub_zero, Nat.sub_self, List.getElem_cons_zero, List.lookup_nil]
    wp_walk using look_hit hm hv
    intro tk2
    simp only [hl1, Bool.false_and, Bool.false_eq_true, if_false]
    wp_walk using look_hit hm hv
    intro tk3
    simp only [Bool.false_eq_true, if_false]
    wp_walk
    rw [if_neg (by show ¬ (tooLong z.length = true); rw [hl2]; exact Bool.false_ne_true)]
    exact tr_end (by cases z; simp) (by rw [hz, sizeLine_eq]; decide) (hq _ _)
  · wp_walk using look_hit hm hv
    simp only [T, List.all_toArray, List.all_cons, List.all_nil, decide_eq_false hc, Bool.and_true, Bool.false_and, if_false, Bool.false_eq_true, List.getElem_toArray, List.size_toArray, List.length_cons, List.length_nil, Nat.zero_add, Nat.sub_zero, Nat.sub_self, List.getElem_cons_zero, List.lookup_nil]
    wp_walk using look_hit hm hv
    intro tk2
    simp only [Bool.false_eq_true, if_false]
    wp_walk
    rw [if_neg (by show ¬ (tooLong z.length = true); rw [hl2]; exact Bool.false_ne_true)]
    exact tr_end (by cases z; simp) (by rw [hz, sizeLine_eq]; decide) (hq _ _)

theorem translate_miss {s : Shared} {c : Nat} {t : Tok} {d : Addr} {f : Int → Option Value} {Q : Value → Shared → Prop} (hh : A.handled = none) (hd : (d == sysModules) = false) (hm : s.heap.MapOf (intKind prog w) d f) (hv : f c = none)
    (hq : ∀ t' h' tk, (∀ b o, s.heap.get? b = some o → h'.get? b = some o) → Q (.str (T [c]) t') { s with heap := h', toks := tk }) : wpAny (model prog w) A (call (.builtin "str.translate") [.str (T [c]) t, .ref d]) Q E s := by
  have hh1 : A.in1.handled = none := hh
  refine wpAny_call_entry F.slot_str_translate (typeIs_str _ _ _) F.entry_str_translate ?_ (F.args_str_translate_2 _ _)
  obtain ⟨h, g, dr, tk, os⟩ := s
  have hl2 : tooLong 1 = false := by decide
  unfold «str.translate»
  by_cases hc : c < 128
  · wp_walk using look_miss hh1 hd hm hv
    simp only [T, List.all_cons, List.all_nil, decide_eq_true hc, Bool.and_true, Bool.true_and, if_true, List.getElem_toArray, List.size_toArray, List.length_cons, List.length_nil, Nat.zero_add, Nat.sub_zero, Nat.sub_self, List.getElem_cons_zero, List.lookup_nil]
    wp_walk using look_miss hh1 hd hm hv
    intro h2 tk2 hk
    dsimp only
    wp_walk
    exact ⟨_, rfl, hq _ h2 _ hk⟩
  · wp_walk using look_miss hh1 hd hm hv
    simp only [T, List.all_cons, List.all_nil, decide_eq_false hc, Bool.and_true, Bool.false_and, if_false, Bool.false_eq_true, List.getElem_toArray, List.size_toArray, List.length_cons, List.length_nil, Nat.zero_add, Nat.sub_zero, Nat.sub_self, List.getElem_cons_zero, List.lookup_nil]
    wp_walk using look_miss hh1 hd hm hv
    intro h2 tk2 hk
    dsimp only
    wp_walk
    exact ⟨_, rfl, hq _ h2 _ hk⟩
end
end Mine
end
theorem Mine.walk_off_P13 : True := by
  w_top off
  k_with_none
  trivial
section
open PySem PySem.W PyProof.Rows PySem.Calls PySem.Spec
set_option Elab.async false
set_option maxRecDepth 100000
set_option maxHeartbeats 8000000
open PySem.Builtin PySem.Builtin.Str
namespace Mine

/-- the signs that re.escape writes with a stroke -/
noncomputable def special : List Nat := [40, 41, 91, 93, 123, 125, 63, 42, 43, 45, 124, 94, 36, 92, 46, 38, 126, 35, 32, 9, 10, 13, 11, 12]
noncomputable def esc (c : Nat) : List Nat := if c ∈ special then [92, c] else [c]
theorem look_special (c : Nat) : ∀ l : List Nat, PySem.Spec.lookup (.int (c : Int)) (l.map fun k : Nat => (PyData.int (k : Int), PyData.str (T [92, k]))) = if c ∈ l then some (PyData.str (T [92, c])) else none
  | [] => rfl
  | k :: l => by
    rw [List.map_cons]
    unfold PySem.Spec.lookup
    rw [PyProof.V.same_int, look_special c l]
    by_cases h : k = c
    · subst h; simp
    · have h1 : ¬ ((k : Int) = (c : Int)) := by omega
      have h2 : ¬ c = k := fun e => h e.symm
      rw [decide_eq_false h1]
      simp [h2]
section
variable {prog : Program} {w : World} {A : Around} {E : Value → Shared → Prop} {s : Shared} {h₀ : Heap} {L : Addr} {m : Str → Option Value} {news : List (Addr × Obj)}
theorem gm_translate {x : Str} {t : Tok} {pl : Sem Bool} {Q : Value × List Value → Shared → Prop} {M : Model} (h : Q (.builtin "str.translate", [.str x t]) s) : wpAny M A (getMethod (.str x t) "translate" pl) Q E s := by
  exact GM.of (.str x t) (typeIs_str _ _ _) F.slot_str_translate F.type_str_translate GM.noRef h
theorem translate_M {c : Nat} {t : Tok} {d : Addr} {Q : Value → Shared → Prop} (F : Fr h₀ L s.heap m) (N : News h₀ L s.heap news) (hh : A.handled = none) (Tb : IntTab prog w s.heap d (special.map fun k : Nat => (PyData.int (k : Int), PyData.str (T [92, k]))))
    (hq : ∀ t' h' tk, Fr h₀ L h' m → News h₀ L h' news → Q (.str (T (esc c)) t') { s with heap := h', toks := tk }) : wpAny (model prog w) A (call (.builtin "str.translate") [.str (T [c]) t, .ref d]) Q E s := by
  obtain ⟨lo, kvs, hd, hf⟩ := Tb
  have hl := look_special c special
  unfold esc at hq
  by_cases hc : c ∈ special
  · rw [if_pos hc] at hl hq
    obtain ⟨v, hv, hfl⟩ := hf.of_lookup PyProof.V.same_int hl
    obtain ⟨u, rfl⟩ := PyProof.V.Flat.str_inv hfl
    exact translate_hit hd.mapOf hv rfl fun t' tk => hq t' s.heap tk F N
  · rw [if_neg hc] at hl hq
    exact translate_miss hh lo hd.mapOf (hf.none_of_lookup PyProof.V.same_int hl) fun t' h' tk hk => hq t' h' tk (F.keeps hk) (N.grown hk)
end
theorem tab_special (w : World) (h : Heap) (X : (Mine.heap w.params).In h) : IntTab PySem.Challenge.rw_in0282_01.row.prog w h 87 (special.map fun k : Nat => (PyData.int (k : Int), PyData.str (T [92, k]))) := by
  have := kt_keyed_in (a := 87) (D := special.map fun k : Nat => ((k : Int), PyData.str (T [92, k]))) X (by kernel_rfl)
  have h2 := this PySem.Challenge.rw_in0282_01.row.prog w
  rwa [List.map_map] at h2
theorem rows_P14_1 : True := by
  k_with_none
  k_with "ne" => (refine neN ?_; (try dsimp only); first | exact Nat.ne_of_lt (by assumption) | exact Nat.ne_of_gt (by assumption) | exact Mine.la0 (by assumption) | exact Mine.ga0 (by assumption) | exact Mine.la1 (by assumption) | exact Mine.ga1 (by assumption) | exact Mine.le1 (by assumption) | exact Mine.ge1 (by assumption) | exact Mine.la2 (by assumption) | exact Mine.ga2 (by assumption) | exact Mine.le2 (by assumption) | exact Mine.ge2 (by assumption) | exact Mine.la3 (by assumption) | exact Mine.ga3 (by assumption) | exact Mine.le3 (by assumption) | exact Mine.ge3 (by assumption) | exact Mine.la4 (by assumption) | exact Mine.ga4 (by assumption) | exact Mine.le4 (by assumption) | exact Mine.ge4 (by assumption) | exact Mine.la5 (by assumption) | exact Mine.ga5 (by assumption) | exact Mine.le5 (by assumption) | exact Mine.ge5 (by assumption) | exact Mine.la6 (by assumption) | exact Mine.ga6 (by assumption) | exact Mine.le6 (by assumption) | exact Mine.ge6 (by assumption) | exact Mine.la7 (by assumption) | exact Mine.ga7 (by assumption) | exact Mine.le7 (by assumption) | exact Mine.ge7 (by assumption) | exact Mine.la8 (by assumption) | exact Mine.ga8 (by assumption) | exact Mine.le8 (by assumption) | exact Mine.ge8 (by assumption))
  k_with "room" => (first | exact Mine.room0 (by assumption) | exact Mine.room1 (by assumption) (by decide) | exact Mine.room2 (by assumption) (by decide))
  k_with "units" => (first | exact Mine.room0 (by assumption) | exact Mine.room1 (by assumption) (by decide) | exact Mine.room2 (by assumption) (by decide))
  k_with "size" => (first | exact Nat.zero_le _ | with_reducible exact Mine.szT (by assumption) | with_reducible exact Mine.szT1 (by assumption) | with_reducible exact Mine.szK (by assumption) | with_reducible exact Mine.szK1 (by assumption))
  k_with "Kont" => ((try dsimp only); first | (refine' Mine.kont0_next ?L_k ?_; (case L_k => assumption)) | (refine' Mine.kont0_ret ?L_k ?_; (case L_k => assumption)) | (refine' Mine.kont0_brk ?L_k ?_; (case L_k => assumption)) | (refine' Mine.kont0_cont ?L_k ?_; (case L_k => assumption)))
  k_with "execs cons" => (k_here; first | refine Mine.execs_one ?_ | (refine Mine.execs_kont0 ?_; intro K9 hK9))
  k_with "LeaveM" => (k_dflt (refine' Mine.leaveM_ ?k1 ?k2 ?_; (case k1 => k_asm); (case k2 => k_asm); k_whole); intro kF kS kN kf; (try dsimp only))
  k_with "getMethod str" => (k_here; with_reducible refine Mine.gm_translate ?_)
  k_with "call builtin:str.translate" => (k_here; k_dflt (refine' Mine.translate_M ?F ?N ?hh ?Tb ?_; (case F => k_asm); (case N => k_asm); (case hh => rfl); (case Tb => exact TabAt.keep (Mine.tab_special _ _ (by assumption)) (Fr.keep (by k_asm))); k_whole; intro t9 h9 tk9 F9 N9; (try dsimp only)))
  trivial
theorem c_escape (w : World) (c : Nat) (t : Tok) : Tell w 97 2 24 [.str (T [c]) t] (fun _ => True) (RStr (esc c)) := by
  refine Tell.of ?_
  k_fill
  intro p loose mean mg mb dp un gd cn cs a ccd cl outer A₀ base h₀ L m s Q E X B F T hk hd hu ht hn hret
  refine wpAny_call ?_
  k_dflt (refine' Mine.enterP ?k1 ?k2 ?k3 ?k5 ?kA ?kF ?kK ?k6 ?k7 ?k8 ?k9 ?kB ?_ ?c2 ?c3 ?c4 ?c5; (case kA => exact rfl); (case kF => exact rfl); (case kK => assumption); (case k1 => k_asm); (case k2 => k_asm); (case k3 => k_asm); (case k5 => k_asm); (case k6 => k_is); (case k7 => k_is); (case k8 => ktr_room); (case k9 => exact BindsTo.of_eq rfl); (case c5 => decide); (case kB => exact locs rfl); (case c2 => exact rfl); (case c3 => exact rfl); (case c4 => exact rfl); k_whole; intro L' h' F' N' B' X' T'; (try dsimp only); (try k_fold))
  k_steps
  skip
  all_goals exact hret _ _ _ _ kF kS kN kf ⟨⟨_, rfl⟩, rfl⟩
end Mine
end
theorem Mine.walk_off_P14 : True := by
  w_top off
  k_with_none
  trivial
section
open PySem PySem.W PyProof.Rows PySem.Calls PySem.Spec
open PySem.Builtin PySem.Builtin.ObjectAttr
set_option Elab.async false
set_option maxRecDepth 100000
set_option maxHeartbeats 8000000
namespace Mine
noncomputable def boundApp (l : Addr) : Obj := { cls := .type "builtin_function_or_method", data := .fields #[.builtin "list.append", .ref l] }
theorem ba_slot_get : Slot "method_descriptor" "__get__" "method_descriptor.__get__" :=
  .of (owner := "method_descriptor") (n := "__get__") (by rw [typeLookup_type, builtinLookup_eq_fast]; kernel_rfl) (by decide +kernel) (by decide +kernel) (by decide +kernel)
    (by first | exact .inl (by decide +kernel) | exact .inr (by decide +kernel)) (by rw [isSubtype_type]; kernel_rfl)
theorem ba_entry_get : entryFor table "method_descriptor.__get__" = some Builtin.«method_descriptor.__get__» := entryFor_of_tree (by kernel_rfl)
theorem ba_args_get (a b c : Value) : argsOk "method_descriptor.__get__" ⟨[a, b, c], []⟩ := by unfold argsOk; kernel_rfl
theorem ba_set : typeLookup (.type "method_descriptor") "__set__" = pure none := by rw [typeLookup_type, builtinLookup_eq_fast]; kernel_rfl
theorem ba_del : typeLookup (.type "method_descriptor") "__delete__" = pure none := by rw [typeLookup_type, builtinLookup_eq_fast]; kernel_rfl
theorem ba_owner : (kfb_private% "ownerAndName") "list.append" = ("list", "append") := by first | decide +kernel | kernel_rfl
theorem ba_told : Manifest.toldItsClass.contains "list.append" = false := by decide +kernel
theorem ba_sub : isSubtype (.type "list") (.type "list") = pure true := by rw [isSubtype_type]; kernel_rfl
section
variable {prog : Program} {w : World} {A : Around} {E : Value → Shared → Prop} {s : Shared}
theorem ba_run {l : Addr} {M : Model} {P : Fin → Shared → Prop} (hT : s.TypeIs (.ref l) "list") (h : P (.done (.ret (.ref s.heap.objs.size))) { s with heap := s.heap.push (boundApp l) }) :
    wpAny M A (Builtin.«method_descriptor.__get__» ⟨[.builtin "list.append", .ref l, .type "list"], []⟩) P E s := by
  unfold Builtin.«method_descriptor.__get__»
  refine wpAny_bind (wpAny_of_eq (a := (.builtin "list.append", some (.ref l), some (.type "list"))) (by first | rfl | kernel_rfl) ?_)
  simp only [ba_told, Bool.false_eq_true, if_false]
  show wpAny M A ((kfb_private% "checkInstance") (.builtin "list.append") (.ref l) >>= fun _ => (newFields "builtin_function_or_method" [.builtin "list.append", .ref l] >>= fun v => ret v)) P E s
  refine wpAny_bind ?_
  have hn : (kfb_private% "nameAndClass") (.builtin "list.append") = pure (Str.ofString "append", Value.type "list") := by
    show (match (kfb_private% "ownerAndName") "list.append" with | (owner, name) => (pure (Str.ofString name, Value.type owner) : Sem (Str × Value))) = _
    rw [ba_owner]
  show wpAny M A ((kfb_private% "nameAndClass") (.builtin "list.append") >>= _) _ E s
  refine wpAny_bind (wpAny_of_eq hn ?_)
  refine wpAny_bind (wpAny_isInstance (T := "list") hT ba_sub ?_)
  refine KFB.if_not rfl (wpAny_pure ?_)
  exact wpAny_bind (wpAny_newObj_type (wpAny_pure h))

theorem ba_meets (l : Addr) (xs : Array Value) (k : Nat) (sl : Array (Option Value)) (u : Tok) : Meets (Builtin.«object.__getattribute__» ⟨[.ref l, .str (Str.ofString "append") u], []⟩) (fun A R s => s.heap.get? l = some { cls := .type "list", dict := none, data := .seq xs k, slots := sl } ∧ R (.ok (.ret (.ref s.heap.objs.size))) { s with heap := s.heap.push (boundApp l) }) :=
  Meets.of_wp fun prog w A R s hs => by
    obtain ⟨hp, g, d, tk, os⟩ := s
    obtain ⟨hx, hs⟩ := hs
    have hT : (⟨hp, g, d, tk, os⟩ : Shared).TypeIs (.ref l) "list" := ⟨_, hx, rfl⟩
    have f1 := F.slot_list_append.lookup
    have f2 := F.type_list_append
    have f3 := ba_slot_get.lookup
    have f4 := ba_set
    have f5 := ba_del
    unfold Builtin.«object.__getattribute__»
    repeat (any_goals (first | assumption | wp_step))
    refine codeAny_call_builtin ba_slot_get.plain ba_entry_get (ba_slot_get.check _ _ _ _ _ _ _ _ f2 (ba_args_get _ _ _) (ba_run hT ?_))
    exact wpAny_pure ⟨_, rfl, hs⟩

theorem ba_getAttr {h₀ : Heap} {L l : Addr} {m : Str → Option Value} {news : List (Addr × Obj)} {xs : Array Value} {k : Nat} {Q : Value → Shared → Prop} (F₀ : Fr h₀ L s.heap m) (N₀ : News h₀ L s.heap news) (hm : (l, lstObj xs k) ∈ news)
    (h : ∀ b h' tk, Fr h₀ L h' m → News h₀ L h' ((b, boundApp l) :: news) → (∀ p ∈ news, p.1 < b) → Q (.ref b) { s with heap := h', toks := tk }) :
    wpAny (model prog w) A (getAttr (.ref l) (Str.ofString "append") true) Q E s := by
  have hx := (N₀ _ hm).1
  have fin := fun tk => h s.heap.objs.size _ tk (F₀.push _) (News.push F₀ N₀ (boundApp l)) fun p hp => Heap.lt_size (N₀ p hp).1
  clear h F₀ N₀
  obtain ⟨hp, g, d, tk, os⟩ := s
  have hT : ∀ tk', (⟨hp, g, d, tk', os⟩ : Shared).TypeIs (.ref l) "list" := fun _ => ⟨_, hx, rfl⟩
  have f3 := F.slot_list_getattribute.lookup
  have f4 := F.slot_list_getattribute.bind (.ref l)
  have f5 := am_list_getattr_none
  unfold getAttr getAttrBy
  repeat (any_goals (first | assumption | exact hT _ | ((with_reducible show wpAny _ _ (call (Value.builtin "list.__getattribute__") _ _) _ _ _); refine call_meets F.slot_list_getattribute (hT _) am_entry_list_getattribute (F.args_list_getattribute_2 _ _) (ba_meets l xs k _ _) ⟨hx, ?_⟩) | wp_step))
  show wpAny _ A (handedOut (.ref _)) Q E _
  exact wpAny_pure (fin _)

theorem ba_quiet {as : Args} : (Code.builtin "list.append" as).quiet = true := Code.quiet_builtin _ (by decide +kernel)
theorem ba_kind : builtinKind "list.append" = some .method := by decide +kernel
theorem ba_nomod : isSubtype (.type "list") (.type "module") = pure false := by rw [isSubtype_type]; kernel_rfl
theorem ba_notype : isSubtype (.type "list") (.type "type") = pure false := by rw [isSubtype_type]; kernel_rfl
theorem ba_var : Manifest.varargsMethods.contains "list.append" = false := by decide +kernel
theorem ba_last : Bind.lastOf "list.append" = "append" := by first | rfl | decide +kernel | kernel_rfl
theorem ba_last2 : Bind.lastOf "list" = "list" := by first | rfl | decide +kernel | kernel_rfl
theorem ba_full : toString (Bind.lastOf "list") ++ toString "." ++ toString "append" = "list.append" := by first | decide +kernel | kernel_rfl
theorem ba_sig : ∃ sig, Manifest.signature? "list.append" = some sig ∧ sig.full = "list.append" ∧ ∀ a v, Bind.checkArgs "list.append" sig ⟨[a, v], []⟩ = pure () := by
  have h := F.args_list_append_2
  unfold argsOk at h
  rw [signature?_of (id := "list.append") (n := ['d', 'n', 'e', 'p', 'p', 'a']) (o := ['t', 's', 'i', 'l']) (by kernel_rfl) F.owner_list] at h ⊢
  exact ⟨_, rfl, by kernel_rfl, h⟩
theorem ba_check {M : Model} {l : Addr} {v : Value} {its : Array Value} {k : Nat} {Q : Unit → Shared → Prop} (hx : s.heap.get? l = some (W.listOf its k)) (hQ : Q () s) : wpAny M A (checkBoundCall "list.append" ⟨[.ref l, v], []⟩) Q E s := by
  have hT : s.TypeIs (.ref l) "list" := ⟨_, hx, rfl⟩
  obtain ⟨sig, h1, h3, h2⟩ := ba_sig
  unfold checkBoundCall
  simp only [h1, ba_kind, ba_last, ba_var, bne_self_eq_false, Bool.false_and, Bool.false_eq_true, if_false, Bool.false_or]
  refine wpAny_bind (wpAny_isInstance hT ba_nomod ?_)
  simp only [Bool.false_eq_true, if_false]
  refine wpAny_bind (m := isType (.ref l)) ?_
  unfold isType loadHead
  refine wpAny_bind (wpAny_loadPart hx (wpAny_pure ?_))
  simp only [W.listOf, Bool.false_eq_true, if_false]
  refine wpAny_bind (wpAny_typeOf hT ?_)
  show wpAny M A (Bind.checkArgs "list.append" { sig with full := toString (Bind.lastOf "list") ++ toString "." ++ toString "append" } ⟨[.ref l, v], []⟩) Q E s
  rw [ba_full]
  have e : ({ sig with full := "list.append" } : Manifest.Signature) = sig := by cases sig; simp only at h3; subst h3; rfl
  rw [e, h2]
  exact wpAny_pure hQ
theorem ba_call {h₀ : Heap} {L l b : Addr} {m : Str → Option Value} {news news' : List (Addr × Obj)} {its : Array Value} {k : Nat} {v : Value} {Q : Value → Shared → Prop} (F₀ : Fr h₀ L s.heap m) (N₀ : News h₀ L s.heap news) (hb : (b, boundApp l) ∈ news)
    (U : Upd l (W.listOf its k) (W.listOf (its.push v) (k + 1)) news news') (hz : its.size ≤ sizeLine)
    (h : ∀ h', Fr h₀ L h' m → News h₀ L h' news' → Q .none { s with heap := h' }) : wpAny (model prog w) A (call (.ref b) [v]) Q E s := by
  have ho := (N₀ _ hb).1
  refine wpAny_call (codeAny_of_tree ?_)
  show wpAny _ A.in1 (callAny (.ref b) ⟨[v], []⟩) _ _ s
  simp only [callAny]
  refine wpAny_bind (wpAny_load ho ?_)
  simp only [boundApp, show (Value.type "builtin_function_or_method" == Value.type "method" || Value.type "builtin_function_or_method" == Value.type "builtin_function_or_method" || Value.type "builtin_function_or_method" == Value.type "method-wrapper") = true by decide, if_true]
  refine KFB.if_so (by decide) ?_
  have z0 : s.heap.get? l = some (W.listOf its k) := by
    obtain ⟨pre, post, rfl, _, _, _⟩ := U.split
    exact (N₀ (l, W.listOf its k) (List.mem_append.mpr (.inr (.head _)))).1
  refine wpAny_bind (ba_check z0 ?_)
  refine wpAny_bind (wpAny_pure (wpAny_pure ?_))
  refine ⟨ba_quiet, codeAny_builtin F.entry_list_append ?_⟩
  obtain ⟨pre, post, rfl, rfl, a, c⟩ := U.split
  have z := N₀ (l, W.listOf its k) (List.mem_append.mpr (.inr (.head _)))
  show wpAny _ _ (updateSeq l (·.push v) >>= fun _ => ret .none) _ _ s
  refine wpAny_bind ?_
  refine wpAny_updateSeq z.1 rfl (wpAny_pure ?_)
  exact h _ (F₀.change (Heap.SameBut.update ..) z.2.1 z.2.2) (kl_turn (its' := its.push v) (·.push v) N₀ a c rfl (by simp))
end
end Mine
end
theorem Mine.walk_off_P15 : True := by
  w_top off
  k_with_none
  trivial
section
open PySem PySem.W PyProof.Rows PySem.Calls PySem.Spec
open PySem.Builtin PySem.Builtin.Re
set_option Elab.async false
set_option maxRecDepth 100000
set_option maxHeartbeats 8000000
namespace Mine
theorem rs_slot : Slot "re.Pattern" "sub" "re.Pattern.sub" :=
  .of (owner := "re.Pattern") (n := "sub") (by rw [typeLookup_type, builtinLookup_eq_fast]; kernel_rfl) (by decide +kernel) (by decide +kernel) (by decide +kernel)
    (by first | exact .inl (by decide +kernel) | exact .inr (by decide +kernel)) (by rw [isSubtype_type]; kernel_rfl)
theorem rs_entry : entryFor table "re.Pattern.sub" = some Builtin.«re.Pattern.sub» := entryFor_of_tree (by kernel_rfl)
theorem rs_type : typeOf (.builtin "re.Pattern.sub") = pure (.type "method_descriptor") := by show builtinType _ = _; rw [builtinType_eq_fast]; kernel_rfl
theorem rs_args (a b c : Value) : argsOk "re.Pattern.sub" ⟨[a, b, c], []⟩ := by unfold argsOk; kernel_rfl
theorem rs_plain : plainId "re.Pattern.sub.loop" = true := by decide +kernel
theorem rs_entry2 : entryFor table "re.Pattern.sub.loop" = some Builtin.«re.Pattern.sub.loop» := entryFor_of_fast (by kernel_rfl)
theorem rs_call : typeLookup (.type "function") "__call__" = pure (some (.builtin "function.__call__")) := by rw [typeLookup_type, builtinLookup_eq_fast]; kernel_rfl
noncomputable def code1 : Array Nat := #[14, 14, 4, 1, 1, 9, 0, 64, 0, 1342177280, 0, 0, 0, 0, 0, 17, 0, 13, 11, 9, 0, 64, 0, 1342177280, 0, 0, 0, 0, 0, 17, 1, 1]
theorem m42 : ((Sre.forSearch code1 #[42] 1 0 1 false).runFor 4).outcome = some .failed := by kernel_rfl
theorem m63 : ((Sre.forSearch code1 #[63] 1 0 1 false).runFor 4).outcome = some .failed := by kernel_rfl
theorem m91 : ((Sre.forSearch code1 #[91] 1 0 1 false).runFor 4).outcome = some .failed := by kernel_rfl
section
variable {prog : Program} {w : World} {M : Model} {A : Around} {E : Value → Shared → Prop} {s : Shared}
theorem rs_for {b : Nat → Bool} {tag : Nat → String} {Q : PUnit → Shared → Prop} (h : Q () s) : ∀ l : List Nat, wpAny M A (forIn l PUnit.unit (fun i _ => do
    if b i = true then rule (tag i)
    pure (ForInStep.yield PUnit.unit))) Q E s
  | [] => wpAny_pure h
  | i :: l => by
    rw [List.forIn_cons]
    refine wpAny_bind ?_
    by_cases hb : b i = true
    · rw [if_pos hb]
      exact wpAny_bind (wpAny_rule (wpAny_pure (rs_for h l)))
    · rw [if_neg hb]
      exact wpAny_pure (rs_for h l)
theorem rs_next {c : Nat} {t : ReTarget} {Q : Option Sre.M → Shared → Prop} (hm : ((Sre.forSearch code1 #[c] 1 0 1 false).runFor 4).outcome = some .failed) (h1 : t.code = code1) (h2 : t.text = #[c]) (h3 : t.groups = 1) (h4 : t.lim = 1)
    (h : Q none s) : wpAny M A (reNextFound t 0 false) Q E s := by
  unfold reNextFound reRunToEnd
  rw [h1, h2, h3, h4]
  refine wpAny_bind ?_
  rw [show (2 ^ 64 : Nat) = (2 ^ 64 - 1) + 1 from rfl]
  unfold reDrive
  simp only [reTurnSteps, hm, Option.isSome_some, if_true]
  refine wpAny_pure ?_
  refine wpAny_bind (rs_for ?_ _)
  rw [hm]
  exact wpAny_pure h
noncomputable def pat78 (t1 t2 : Tok) : Obj := { cls := .type "re.Pattern", data := .fields #[.str (Str.ofString "([&~|])") t1, .int 32 t2, .int 1 0, .none, .none, .ref 77, .int 0 0] }
theorem rs_whole {c : Nat} {t t1 t2 : Tok} {h : Heap} {g : Array GenState} {d : Drawn} {tk : Nat} {os : OsState} {n : Nat} {Q : ReTarget → Shared → Prop} (h78 : h.get? 78 = some (pat78 t1 t2)) (h77 : h.get? 77 = some { cls := .type "tuple", data := .seq (code1.map fun n : Nat => Value.int (n : Int) 0) n })
    (hq : Q { pattern := .ref 78, string := .str ⟨#[c]⟩ t, code := code1, text := #[c], kind := 0, groups := 1, pos := 0, lim := 1 } ⟨h, g, d, tk, os⟩) : wpAny M A (reWholeTarget (.ref 78) (.str ⟨#[c]⟩ t)) Q E ⟨h, g, d, tk, os⟩ := by
  unfold reWholeTarget
  wp_walk using wpAny_loadPart' h78, wpAny_loadPart' h77
  have e : Array.map (fun x => x.toNat) (Array.map reRawOf ((some (Array.map (fun n : Nat => Value.int (n : Int) 0) code1)).getD #[])) = code1 := by decide +kernel
  rw [e]
  exact hq

theorem rs_next2 {c : Nat} {t : Tok} {Q : Option Sre.M → Shared → Prop} {h : Heap} {g : Array GenState} {d : Drawn} {tk : Nat} {os : OsState} (hm : ((Sre.forSearch code1 #[c] 1 0 1 false).runFor 4).outcome = some .failed)
    (hq : Q none ⟨h, g, d, tk, os⟩) : wpAny M A (reNextFound { pattern := .ref 78, string := .str ⟨#[c]⟩ t, code := code1, text := #[c], kind := 0, groups := 1, pos := 0, lim := 1 } (Int.toNat 0) false) Q E ⟨h, g, d, tk, os⟩ :=
  rs_next hm rfl rfl rfl rfl hq
theorem rs_join {prog : Program} {w : World} {x : Str} {c : Nat} {t u : Tok} {D : Addr} {Q : Value → Shared → Prop} (hx : x = ⟨#[]⟩) (hl : s.heap.IsList D #[.str ⟨#[c]⟩ u]) (hq : ∀ t' k, Q (.str ⟨#[c]⟩ t') { s with toks := k }) :
    codeAny (model prog w) A (.call (.builtin "str.join") ⟨[.str x t, .ref D], []⟩) (wants Q E) s := by
  subst hx
  have hok : Builtin.Str.tooLong ((([((⟨#[c]⟩ : Str), u)] : List (Str × Tok)).map fun x => x.1).toArray.foldl (fun x1 x2 => x1 + x2.length + (⟨#[]⟩ : Str).length) 0) = false := by
    unfold Builtin.Str.tooLong
    simp [Str.length, sizeLine_eq]
  exact codeAny_call_builtin F.slot_str_join.plain F.entry_str_join (F.slot_str_join.check _ _ _ _ _ _ _ _ (typeIs_str _ _ _) (F.args_str_join_2 _ _) (meets_str_join_list ⟨#[]⟩ t D [(⟨#[c]⟩, u)] hok prog w A (wants Q E) s ⟨hl, post_join [(⟨#[c]⟩, u)] ⟨joinFit_length hok, fun t' k => by
    have e : Txt.join ⟨#[]⟩ [(⟨#[c]⟩ : Str)] = ⟨#[c]⟩ := rfl
    first | exact hq t' k | (rw [show List.map (fun p : Str × Tok => p.1) [((⟨#[c]⟩ : Str), u)] = [(⟨#[c]⟩ : Str)] from rfl, e]; exact hq t' k)⟩⟩))
theorem rs_loop {prog : Program} {w : World} {c : Nat} {t t1 t2 : Tok} {h : Heap} {g : Array GenState} {d : Drawn} {tk : Nat} {os : OsState} {n : Nat} {f D : Addr} {Q : Value → Shared → Prop} (hm : ((Sre.forSearch code1 #[c] 1 0 1 false).runFor 4).outcome = some .failed) (h78 : h.get? 78 = some (pat78 t1 t2)) (h77 : h.get? 77 = some { cls := .type "tuple", data := .seq (code1.map fun n : Nat => Value.int (n : Int) 0) n })
    (hD : h.get? D = some { cls := .type "list", data := .seq #[] 0 })
    (hq : ∀ t' h' tk', (∀ b o, b ≠ D → h.get? b = some o → h'.get? b = some o) → Q (.str ⟨#[c]⟩ t') ⟨h', g, d, tk', os⟩) :
    wpAny (model prog w) A (Builtin.«re.Pattern.sub.loop» ⟨[.ref 78, .str ⟨#[c]⟩ t, .ref f, rawInt 1, rawInt 0, rawInt 0, rawInt 0, rawInt 0, .bool false, .ref D, .bool false], []⟩) (fun fin s' => ∃ v, fin = .done (.ret v) ∧ Q v s') E ⟨h, g, d, tk, os⟩ := by
  unfold Builtin.«re.Pattern.sub.loop»
  refine wpAny_bind (rs_whole h78 h77 ?_)
  wp_walk using rs_next2 hm, wpAny_loadPart' hD, wpAny_updatePart' hD
  refine rs_join (c := c) (u := tk) (Q := fun v s' => wpAny (model prog w) A (ret v) (fun fin s' => ∃ v, fin = .done (.ret v) ∧ Q v s') E s') rfl ?_ (fun t' k => wpAny_pure ⟨_, rfl, hq _ _ _ fun b o hb e => ?_⟩)
  · refine ⟨_, Heap.get?_update_self _ hD ?_, rfl, _, rfl⟩
    rw [Obj.mapSeq_push_plain]; rfl
  · exact Heap.get?_update_of_ne _ (Ne.symm hb) e

theorem rs_nobytes : isSubtype (.type "str") (.type "bytearray") = pure false := by rw [isSubtype_type]; kernel_rfl
theorem rs_sub {prog : Program} {w : World} {c : Nat} {t t1 t2 : Tok} {n : Nat} {f : Addr} {of : Obj} {Q : Value → Shared → Prop} (hm : ((Sre.forSearch code1 #[c] 1 0 1 false).runFor 4).outcome = some .failed) (h78 : s.heap.get? 78 = some (pat78 t1 t2)) (h77 : s.heap.get? 77 = some { cls := .type "tuple", data := .seq (code1.map fun n : Nat => Value.int (n : Int) 0) n })
    (hf : s.heap.get? f = some of) (hfc : of.cls = .type "function")
    (hq : ∀ t' h' tk', (∀ b o, s.heap.get? b = some o → h'.get? b = some o) → Q (.str ⟨#[c]⟩ t') { s with heap := h', toks := tk' }) :
    wpAny (model prog w) A (call (.builtin "re.Pattern.sub") [.ref 78, .ref f, .str ⟨#[c]⟩ t]) Q E s := by
  refine wpAny_call (codeAny_call_builtin rs_slot.plain rs_entry (rs_slot.check _ _ _ _ _ _ _ _ ⟨_, h78, rfl⟩ (rs_args _ _ _) ?_))
  obtain ⟨h, g, d, tk, os⟩ := s
  have hTf : (⟨h, g, d, tk, os⟩ : Shared).TypeIs (.ref f) "function" := ⟨_, hf, hfc⟩
  have f1 := rs_call
  have f2 := rs_nobytes
  unfold Builtin.«re.Pattern.sub» reSubstitute
  refine wpAny_bind (wpAny_of_eq (a := [some (.ref f), some (.str ⟨#[c]⟩ t), none]) (by first | rfl | kernel_rfl) ?_)
  repeat (any_goals (first | assumption | exact rs_whole h78 h77 (by assumption) | refine rs_whole h78 h77 ?_ | wp_step))
  refine ⟨plainId_quiet rs_plain _, codeAny_builtin rs_entry2 ?_⟩
  rw [Around.under_plainId rs_plain _]
  refine wpAny_mono (rs_loop (D := h.objs.size) (Q := Q) hm (Heap.get?_push_of_some _ h78) (Heap.get?_push_of_some _ h77) (Heap.get?_push_size _ rfl) fun t' h' tk' hk => hq t' h' tk' fun b o e => hk b o (fun q => ?_) (Heap.get?_push_of_some _ e)) (fun fin s' q => ?_) fun _ _ q => q
  · rw [q] at e
    exact absurd (Heap.lt_size e) (Nat.lt_irrefl _)
  · obtain ⟨v, rfl, q⟩ := q
    exact q
end
end Mine
end
theorem Mine.walk_off_P17 : True := by
  w_top off
  k_with_none
  trivial
section
open PySem PySem.W PyProof.Rows PySem.Calls PySem.Spec
set_option Elab.async false
set_option maxRecDepth 100000
set_option maxHeartbeats 8000000
namespace Mine

section
variable {w : World} {A : Around} {E : Value → Shared → Prop} {s : Shared} {h₀ : Heap} {L : Addr} {m : Str → Option Value} {news : List (Addr × Obj)}
theorem rs_attrs : PlainAttrs "re.Pattern" :=
  ⟨⟨"object.__getattribute__", by rw [typeLookup_type, builtinLookup_eq_fast]; kernel_rfl, by decide +kernel⟩, by rw [typeLookup_type, builtinLookup_eq_fast]; kernel_rfl⟩
theorem rs_77 (w : World) : (Mine.heap w.params).lookup 77 = some { cls := .type "tuple", data := .seq (code1.map fun n : Nat => Value.int (n : Int) 0) 0 } := by first | rfl | kernel_rfl
theorem rs_getM {pl : Sem Bool} {Q : Value × List Value → Shared → Prop} {M : Model} (X : (Mine.heap w.params).In h₀) (F₀ : Fr h₀ L s.heap m) (h : Q (.builtin "re.Pattern.sub", [.ref 78]) s) : wpAny M A (getMethod (.ref 78) "sub" pl) Q E s := by
  have hx := F₀.keep _ _ (X 78 (pat78 329 364) rfl)
  exact getMethod_builtin ⟨_, hx, rfl⟩ rs_attrs rs_slot rs_type (fun a e => by cases e; exact ⟨_, hx, rfl⟩) h
theorem rs_M {prog : Program} {c : Nat} {t : Tok} {f : Addr} {of : Obj} {Q : Value → Shared → Prop} (X : (Mine.heap w.params).In h₀) (F₀ : Fr h₀ L s.heap m) (N₀ : News h₀ L s.heap news) (hf : (f, of) ∈ news) (hfc : of.cls = .type "function")
    (hm : ((Sre.forSearch code1 #[c] 1 0 1 false).runFor 4).outcome = some .failed)
    (hq : ∀ t' h' tk', Fr h₀ L h' m → News h₀ L h' news → Q (.str (T [c]) t') { s with heap := h', toks := tk' }) :
    wpAny (model prog w) A (call (.builtin "re.Pattern.sub") [.ref 78, .ref f, .str (T [c]) t]) Q E s :=
  rs_sub hm (F₀.keep _ _ (X 78 (pat78 329 364) rfl)) (F₀.keep _ _ (X 77 _ (rs_77 w))) (N₀ _ hf).1 hfc fun t' h' tk' hk => hq t' h' tk' (F₀.keeps hk) (N₀.grown hk)
end
end Mine
end
theorem Mine.walk_off_P18 : True := by
  w_top off
  k_with_none
  trivial
section
open PySem PySem.W PyProof.Rows PySem.Calls PySem.Spec
set_option Elab.async false
set_option maxRecDepth 100000
set_option maxHeartbeats 8000000
namespace Mine
/-- the table of the codes within _translate: empty, or with the lambda's code -/
noncomputable def PsOk (pos : Pos) (ps : Array Value) : Prop := ps = #[] ∨ ∃ c : Addr, ps = #[rawInt pos.line, rawInt pos.col, .ref c]
theorem PsOk.triples {pos : Pos} {ps : Array Value} (h : PsOk pos ps) : TriplesOk ps.toList := by
  rcases h with rfl | ⟨c, rfl⟩
  · exact True.intro
  · simp [TriplesOk, rawInt]
section
variable {M : Model} {A : Around} {E : Value → Shared → Prop} {s : Shared} {h₀ : Heap} {L a : Addr} {m mg mb : Str → Option Value} {cn : Str} {cs : Scope} {cl : List (Str × Addr)} {news : List (Addr × Obj)} {g : Obj → List (Addr × Obj)}
  {p : Program} {loose : List Str} {mean : ExcName → Option Value} {params : Arguments} {body : Expr} {scope : Scope} {ps : Array Value} {pos : Pos} {clos : List (Str × Addr)}
/-- a lambda of the def whose table is laid aside, at its first turn or later -/
theorem lam_any {Q : Value → Shared → Prop} (F : Fr h₀ L s.heap m) (N : News h₀ L s.heap news) (T : Top p loose mean mg mb h₀) (C : CodeHd h₀ 103 99) (U : UpdF 99 (tabObj ps) news g) (hps : PsOk pos ps)
    (h : ∀ f fo ps' h' tk, Fr h₀ L h' m → News h₀ L h' ((f, fo) :: g (tabObj ps')) → fo.cls = .type "function" → PsOk pos ps' → (∀ q ∈ news, q.1 < f) → Q (.ref f) { s with heap := h', toks := tk })
    (hdef : defaultsOf params (envX cn cs L a (.ref 103) cl) = ([], []) := by rfl) (hcl : closureFor scope (envX cn cs L a (.ref 103) cl) = pure clos := by rfl) : wpAny M A (eval (.Lambda params body scope pos) (envX cn cs L a (.ref 103) cl)) Q E s := by
  obtain ⟨pre, post, hn, hg, h1, h2⟩ := U.split
  refine kla_eval hdef ?_
  rcases id hps with rfl | ⟨c, rfl⟩
  · refine kla_nest F N T C rfl U hps.triples rfl hcl fun f c' oc vs t ctv h' tk F' N' _ _ l1 l2 => ?_
    refine h f (kla_obj (Str.ofString "<lambda>") ((envX cn cs L a (.ref 103) cl).qual ++ Str.ofString "<lambda>") params body scope clos ((mg "__name__").getD .none) c' ctv) _ h' tk F' (fun q hq => ?_) rfl (.inr ⟨c', rfl⟩) fun q hq => Nat.lt_trans (l1 q hq) l2
    rcases List.mem_cons.mp hq with rfl | hq
    · exact N' _ (.head _)
    · exact N' q (.tail _ (.tail _ hq))
  · have hmem : ((99 : Addr), tabObj #[rawInt pos.line, rawInt pos.col, .ref c]) ∈ news := by rw [hn]; exact List.mem_append_right _ (.head _)
    have e : g (tabObj #[rawInt pos.line, rawInt pos.col, .ref c]) = news := by rw [hg, hn]
    refine kla_hit (c' := c) F N T C rfl hmem hps.triples (by simp [codeAmong, rawInt]) hcl fun f ctv h' tk F' N' l1 => ?_
    exact h f _ _ h' tk F' (by rw [e]; exact N') rfl hps l1
end
theorem hide_none {h : Heap} {b : Addr} {L : List Addr} (e : (hideAll h L).get? b = none) (hb : b ∉ L) : h.get? b = none := by
  cases q : h.get? b with
  | none => rfl
  | some o => rw [hideAll_get _ q hb] at e; cases e
section
variable {prog : Program} {w : World} {A A₀ : Around} {s : Shared} {K : Frag} {L : Addr} {h₀ base : Heap} {m mg mb : Str → Option Value} {p : Program} {loose : List Str} {mean : ExcName → Option Value}
  {env : Env} {outer : List Env} {R : Result → Shared → Prop} {name qual : Str} {params : Arguments} {body : List Stmt} {scope : Scope} {dV kV doc pm cdv ct oc : Value} {an od : Option Addr} {osl : Array (Option Value)} {f : Addr} {args : Args} {binds : List (Str × Value)} {ps : Array Value}
/-- entering a def without cells, the table laid aside -/
theorem enterG (B : Below A₀ base outer h₀) (F : Fr h₀ L s.heap m) (X₀ : K.In h₀) (T : Top p loose mean mg mb h₀) (C : CodeHd h₀ 103 99) (N : News h₀ L s.heap [(99, tabObj ps)]) (hA : A.frames = some (env :: outer)) (hf : env.frame = some L) (hke : env.scope.kind = .function)
    (ho : K.lookup f = some ⟨oc, od, .func (fnOf name qual params body scope dV kV doc pm an cdv ct), osl⟩) (hcd : codeIn K cdv qual = true) (hroom : A.depth < recursionLimit)
    (hbind : BindsTo s (fnOf name qual params body scope dV kV doc pm an cdv ct) args binds) (hloc : ∀ y ∈ binds, scope.names.lookup y.1 = some .local)
    (h : ∀ g L' h₁, g = hideAll s.heap [99] → Fr g L' h₁ (fun y => binds.reverse.lookup y) → News g L' h₁ [(99, tabObj ps)] → Below A base (env :: outer) g → K.In g → Top p loose mean mg mb g → CodeHd g 103 99 → (∀ b, (g.get? b).isSome = true → h₁.get? b = s.heap.get? b) →
      wpAny (model prog w) (A.deeper (envOf qual scope L' f cdv)) (execs body (envOf qual scope L' f cdv))
        (fun fl s' => LeaveM h₀ L m g R (match fl with | .ret v => v | _ => .none) s')
        (fun e s' => wpAny (model prog w) (A.deeper (envOf qual scope L' f cdv)) (leaving (envOf qual scope L' f cdv) e) (fun _ s'' => R (.error e) s'') (fun e' s'' => R (.error e') s'') s')
        { s with heap := h₁, toks := s.toks + binds.length })
    (hco : scope.isCoroutine = false) (hgen : scope.isGenerator = false) (hk : scope.kind = .function)
    (hcell : ∀ x ∈ scope.names, x.2 ≠ .cell) : codeAny (model prog w) A (.call (.ref f) args) R s := by
  obtain ⟨FG, BG, st, _⟩ := groundX (R := R) B F N hA hf hke
  have hN := N _ (.head _)
  refine codeAny_call_def (fd := fnOf name qual params body scope dV kV doc pm an cdv ct) (body := body) (binds := binds) hroom ((X₀.keeps F.keep) _ _ ho) rfl (T.nolimit.keeps F.keep) (codeRec_of (X₀.keeps F.keep) hcd) rfl hbind hcell hloc (fun h₁ hns hk₁ => ?_) hco hgen hk
  refine wpAny_mono (h _ s.heap.objs.size h₁ rfl ⟨hns, fun b o e => hk₁ b o (of_hideAll _ e), Nat.le_of_eq (hideAll_size _ _)⟩ (fun q hq => ?_) BG (X₀.keeps st) (T.keeps st) (C.keeps st) (fun b hb => ?_)) (fun fl s' hl => ?_) fun _ _ y => y
  · rw [List.mem_singleton] at hq
    subst hq
    exact ⟨hk₁ _ _ hN.1, Nat.ne_of_lt (Heap.lt_size hN.1), hideAll_none _ (by simp)⟩
  · obtain ⟨o, ho⟩ := Option.isSome_iff_exists.mp hb
    have e := of_hideAll _ ho
    rw [hk₁ _ _ e, e]
  · exact leaveM_out FG hl
end

/-- the contract of a def that may lay the lambda's code into the table -/
noncomputable def TellP (w : World) (f : Addr) (k u : Nat) (args : List Value) (pos : Pos) (need : Heap → Prop) (R : Value → List (Addr × Obj) → Prop) : Prop :=
  ∀ (p : Program) (loose : List Str) (mean : ExcName → Option Value) (mg mb : Str → Option Value) (dp un : Nat) (gd : Option (List Code)) (cn : Str) (cs : Scope) (a : Addr) (ccd : Value) (cl : List (Str × Addr)) (outer : List Env) (A₀ : Around) (base h₀ : Heap) (L : Addr) (m : Str → Option Value) (s : Shared) (ps : Array Value) (Q E : Value → Shared → Prop),
    (Mine.heap w.params).In h₀ → Below A₀ base outer h₀ → Fr h₀ L s.heap m → Top p loose mean mg mb h₀ → CodeHd h₀ 103 99 → News h₀ L s.heap [(99, tabObj ps)] → PsOk pos ps → cs.kind = .function → dp + k < recursionLimit → un + u < cLine → 0 < s.toks → need s.heap →
    (∀ v own ps' h' tk', Fr h₀ L h' m → Stays (hideAll s.heap [99]) h' → News h₀ L h' ((99, tabObj ps') :: own) → (∀ q ∈ own, s.heap.get? q.1 = none) → PsOk pos ps' → 0 < tk' → R v own → Q v { s with heap := h', toks := tk' }) →
    wpAny (model PySem.Challenge.rw_in0282_01.row.prog w) (ktrTop dp un gd cn cs L a ccd cl outer) (call (.ref f) args) Q E s

theorem TellP.of {w : World} {f : Addr} {k u : Nat} {args : List Value} {pos : Pos} {need : Heap → Prop} {R : Value → List (Addr × Obj) → Prop}
    (h : ∀ (p : Program) (loose : List Str) (mean : ExcName → Option Value) (mg mb : Str → Option Value) (dp un : Nat) (gd : Option (List Code)) (cn : Str) (cs : Scope) (a : Addr) (ccd : Value) (cl : List (Str × Addr)) (outer : List Env) (A₀ : Around) (base h₀ : Heap) (L : Addr) (m : Str → Option Value) (s : Shared) (ps : Array Value) (Q E : Value → Shared → Prop),
      (Mine.heap w.params).In h₀ → Below A₀ base outer h₀ → Fr h₀ L s.heap m → Top p loose mean mg mb h₀ → CodeHd h₀ 103 99 → News h₀ L s.heap [(99, tabObj ps)] → PsOk pos ps → cs.kind = .function → dp + k < recursionLimit → un + u < cLine → 0 < s.toks → need s.heap →
      (∀ v own ps' h' tk', Fr h₀ L h' m → Stays (hideAll s.heap [99]) h' → News h₀ L h' ((99, tabObj ps') :: own) → (∀ q ∈ own, s.heap.get? q.1 = none) → PsOk pos ps' → R v own → Q v { s with heap := h', toks := tk' }) →
      wpAny (model PySem.Challenge.rw_in0282_01.row.prog w) (ktrTop dp un gd cn cs L a ccd cl outer) (call (.ref f) args) Q E s) : TellP w f k u args pos need R := by
  intro p loose mean mg mb dp un gd cn cs a ccd cl outer A₀ base h₀ L m s ps Q E X B F T C N hp hk hd hu ht hn hret
  refine wpAny_mono (wpAny_toks_of (n := 1) ht (h p loose mean mg mb dp un gd cn cs a ccd cl outer A₀ base h₀ L m s ps (fun v s' => 1 ≤ s'.toks → Q v s') E X B F T C N hp hk hd hu ht hn fun v own ps' h' tk' F' st N' fr hp' r ht' => hret v own ps' h' tk' F' st N' fr hp' ht' r)) (fun v s' q => q.2 q.1) fun _ _ q => q.2

theorem TellP.use {w : World} {f : Addr} {k u : Nat} {args : List Value} {pos : Pos} {need : Heap → Prop} {R : Value → List (Addr × Obj) → Prop} (Ct : TellP w f k u args pos need R)
    {p : Program} {loose : List Str} {mean : ExcName → Option Value} {mg mb : Str → Option Value} {dp un : Nat} {gd : Option (List Code)} {cn : Str} {cs : Scope} {a : Addr} {ccd : Value} {cl : List (Str × Addr)} {outer : List Env} {A₀ : Around} {base h₀ : Heap} {L : Addr} {m : Str → Option Value} {news : List (Addr × Obj)} {g : Obj → List (Addr × Obj)} {s : Shared} {ps : Array Value} {Q E : Value → Shared → Prop}
    (X : (Mine.heap w.params).In h₀) (B : Below A₀ base outer h₀) (F : Fr h₀ L s.heap m) (N : News h₀ L s.heap news) (T : Top p loose mean mg mb h₀) (C : CodeHd h₀ 103 99) (U : UpdF 99 (tabObj ps) news g) (hp : PsOk pos ps) (hk : cs.kind = .function) (hd : dp + k < recursionLimit) (hu : un + u < cLine) (ht : 0 < s.toks) (hn : need s.heap)
    (hret : ∀ v own ps' h' tk', Fr h₀ L h' m → News h₀ L h' (own ++ g (tabObj ps')) → (∀ q ∈ own, ∀ q' ∈ news, q'.1 ≠ q.1) → PsOk pos ps' → 0 < tk' → R v own → Q v { s with heap := h', toks := tk' }) :
    wpAny (model PySem.Challenge.rw_in0282_01.row.prog w) (ktrTop dp un gd cn cs L a ccd cl outer) (call (.ref f) args) Q E s := by
  obtain ⟨pre, post, hn', hg, h1, h2⟩ := U.split
  have hm : ((99 : Addr), tabObj ps) ∈ news := by rw [hn']; exact List.mem_append_right _ (.head _)
  refine Ct p loose mean mg mb dp un gd cn cs a ccd cl outer A₀ base h₀ L m s ps Q E X B F T C (fun q hq => by rw [List.mem_singleton] at hq; subst hq; exact N _ hm) hp hk hd hu ht hn fun v own ps' h' tk' F' st N' fr hp' ht' r => hret v own ps' h' tk' F' (fun q hq => ?_) (fun q hq q' hq' e => ?_) hp' ht' r
  · have side : ∀ q ∈ news, q.1 ≠ 99 → h'.get? q.1 = some q.2 ∧ q.1 ≠ L ∧ h₀.get? q.1 = none := fun q hq hne => ⟨st _ _ (hideAll_get _ (N q hq).1 (by simpa using hne)), (N q hq).2⟩
    rcases List.mem_append.mp hq with hq | hq
    · exact N' q (.tail _ hq)
    · rw [hg] at hq
      rcases List.mem_append.mp hq with hq | hq
      · exact side q (by rw [hn']; exact List.mem_append_left _ hq) (h1 q hq)
      · rcases List.mem_cons.mp hq with rfl | hq
        · exact N' _ (.head _)
        · exact side q (by rw [hn']; exact List.mem_append_right _ (.tail _ hq)) (h2 q hq)
  · have := (N q' hq').1
    rw [e, fr q hq] at this
    cases this
end Mine
end
theorem Mine.walk_off_PG : True := by
  w_top off
  k_with_none
  trivial
section
open PySem PySem.W PyProof.Rows PySem.Calls PySem.Spec
set_option Elab.async false
set_option maxRecDepth 100000
set_option maxHeartbeats 8000000
namespace Mine
section
variable {prog : Program} {w : World} {A A₀ : Around} {s : Shared} {K : Frag} {L : Addr} {h₀ base : Heap} {m mg mb : Str → Option Value} {p : Program} {loose : List Str} {mean : ExcName → Option Value}
  {env : Env} {outer : List Env} {R : Result → Shared → Prop} {name qual : Str} {params : Arguments} {body : List Stmt} {scope : Scope} {dV kV doc pm cdv ct oc : Value} {an od : Option Addr} {osl : Array (Option Value)} {f : Addr} {args : Args} {binds : List (Str × Value)} {ps : Array Value}
/-- entering a def with cells, the table laid aside -/
theorem enterGC (B : Below A₀ base outer h₀) (F : Fr h₀ L s.heap m) (X₀ : K.In h₀) (T : Top p loose mean mg mb h₀) (C : CodeHd h₀ 103 99) (N : News h₀ L s.heap [(99, tabObj ps)]) (hA : A.frames = some (env :: outer)) (hf : env.frame = some L) (hke : env.scope.kind = .function)
    (ho : K.lookup f = some ⟨oc, od, .func (fnOf name qual params body scope dV kV doc pm an cdv ct), osl⟩) (hcd : codeIn K cdv qual = true) (hroom : A.depth < recursionLimit)
    (hbind : BindsTo s (fnOf name qual params body scope dV kV doc pm an cdv ct) args binds) (hkind : (binds.all fun y => scope.names.lookup y.1 == some .local || scope.names.lookup y.1 == some .cell) = true)
    (hnd : ((cellsFrom 0 scope.names []).map (·.1)).Nodup)
    (h : ∀ g L' h₁ tk cells, g = hideAll s.heap [99] → Fr g L' h₁ (bindL (envOfC qual scope L' f cdv).kindOf binds fun _ => none) → News g L' h₁ (cells ++ [(99, tabObj ps)]) →
      CellsAre (bindC (envOfC qual scope L' f cdv).kindOf binds fun _ => none) (cellsFrom (L' + 1) scope.names []) cells → Below A base (env :: outer) g → K.In g → Top p loose mean mg mb g → CodeHd g 103 99 → @LT.lt Nat _ 99 L' →
      wpAny (model prog w) (A.deeper (envOfC qual scope L' f cdv)) (execs body (envOfC qual scope L' f cdv))
        (fun fl s' => LeaveM h₀ L m g R (match fl with | .ret v => v | _ => .none) s')
        (fun e s' => wpAny (model prog w) (A.deeper (envOfC qual scope L' f cdv)) (leaving (envOfC qual scope L' f cdv) e) (fun _ s'' => R (.error e) s'') (fun e' s'' => R (.error e') s'') s')
        { s with heap := h₁, toks := tk })
    (hco : scope.isCoroutine = false) (hgen : scope.isGenerator = false) (hk : scope.kind = .function) : codeAny (model prog w) A (.call (.ref f) args) R s := by
  obtain ⟨FG, BG, st, _⟩ := groundX (R := R) B F N hA hf hke
  have hN := N _ (.head _)
  have hlim := T.nolimit
  refine codeAny_call_function hroom ((X₀.keeps F.keep) _ _ ho) rfl hco hgen rfl (codeRec_of (X₀.keeps F.keep) hcd) (hbind _ _ _ _ ?_)
  refine wpAny_newFunctionEnv_cells hk (kindsX hkind _) fun env' he s' x => ?_
  subst he
  refine ⟨(hlim.keeps F.keep).keeps x.toInCall.keep, codeAny_func ?_⟩
  obtain ⟨h₁, tk, rfl, _⟩ := x.done
  have hk₁ := x.toInCall.keep
  obtain ⟨cells, NC, Y⟩ := Cl.news (h₀ := s.heap) (Nat.le_refl _) fun n c hm => ⟨x.cell n c (lookup_of_mem_nodup (cellsFrom_names scope.names 0 (s.heap.objs.size + 1) [] [] rfl ▸ hnd) hm), x.above n c hm⟩
  refine wpAny_mono (h _ s.heap.objs.size h₁ tk cells rfl ⟨x.toInCall.ns, fun b o e => hk₁ b o (of_hideAll _ e), Nat.le_of_eq (hideAll_size _ _)⟩ (fun q hq => ?_) Y BG (X₀.keeps st) (T.keeps st) (C.keeps st) (Heap.lt_size hN.1)) (fun fl s' hl => ?_) fun _ _ y => y
  · rcases List.mem_append.mp hq with hq | hq
    · refine ⟨(NC q hq).1, (NC q hq).2.1, ?_⟩
      cases e : (hideAll s.heap [99]).get? q.1 with
      | none => rfl
      | some o => have := (NC q hq).2.2; rw [of_hideAll _ e] at this; cases this
    · rw [List.mem_singleton] at hq
      subst hq
      exact ⟨hk₁ _ _ hN.1, Nat.ne_of_lt (Heap.lt_size hN.1), hideAll_none _ (by simp)⟩
  · exact leaveM_out FG hl
end
theorem hide_at {h : Heap} {l : Addr} {xs : Array Value} {n : Nat} {ps : Array Value} (e : h.get? l = some (W.listOf xs n)) (e2 : h.get? 99 = some (tabObj ps)) : (hideAll h [99]).get? l = some (W.listOf xs n) := by
  refine hideAll_get _ e (fun q => ?_)
  rw [List.mem_singleton] at q
  rw [q, e2] at e
  exact absurd (congrArg Obj.cls (Option.some.inj e)) (by simp [W.listOf, tabObj])
end Mine
end
theorem Mine.walk_off_PH : True := by
  w_top off
  k_with_none
  trivial
section
open PySem PySem.W PyProof.Rows PySem.Calls PySem.Spec
set_option Elab.async false
set_option maxRecDepth 100000
set_option maxHeartbeats 8000000
namespace Mine
section
variable {prog : Program} {w : World} {A : Around} {E : Value → Shared → Prop} {s : Shared} {env : Env}
theorem while_inv {test : Expr} {body : List Stmt} {pos : Pos} {Q : Flow → Shared → Prop} (I : Nat → Shared → Prop) (n : Nat) (h : I n s)
    (turn : ∀ n s, I n s → wpAny (model prog w) A (isTrue test env (eval test env)) (fun b s₂ => if b = true then wpAny (model prog w) A (execs body env) (fun f s₃ => match f with
        | .next | .cont => ∃ k, k < n ∧ I k s₃ | .brk => Q .next s₃ | .ret v => Q (.ret v) s₃) (fun _ _ => False) s₂ else Q .next s₂) (fun _ _ => False) s) :
    wpAny (model prog w) A (exec (.While test body [] pos) env) Q E s := by
  refine wpAny_While (codeAny_whileLoop I (fun n s hI => wpAny_mono (turn n s hI) (fun b s₂ q => ?_) fun _ _ q => q.elim) n h)
  cases b with
  | false => exact wpAny_execs_nil q
  | true =>
    refine wpAny_mono q (fun f s₃ r => ?_) fun _ _ q => q.elim
    cases f <;> exact r
theorem item_T {value slice : Expr} {P : List Nat} {i : Int} {c : Nat} {t u : Tok} {Q : Value → Shared → Prop} (hc : P[i.toNat]? = some c) (h0 : 0 ≤ i) (hl : P.length ≤ 100000) (h : Q (.str (T [c]) s.toks) { s with toks := s.toks + 1 })
    (hs : subscripted slice false (.str (T P) t) (.int i u) = operate [.str (T P) t, .int i u] (getItem (.str (T P) t) (.int i u)) := by with_unfolding_all rfl) (hg : ∀ r, letTemporaryGo value (.str (T P) t) r = pure () := by intro _; with_unfolding_all rfl) :
    wpAny (model prog w) A (subscriptTail value slice (.str (T P) t) (.int i u)) Q E s := by
  have hlt : i.toNat < P.length := (List.getElem?_eq_some_iff.mp hc).1
  refine subscriptTail_builtin (typeIs_str _ _ _) F.slot_str_getitem.lookup (PySem.P.getItem_str (c := c) ?_ ?_ h) hs hg
  · simp; omega
  · rw [T_len, StrLaws.seqIndex_nonneg h0 (by omega)]
    simpa [T] using hc
end

section
variable {prog : Program} {w : World} {A : Around} {E : Value → Shared → Prop} {s : Shared} {M : Model} {h₀ : Heap} {L : Addr} {m : Str → Option Value} {news : List (Addr × Obj)}
theorem len_T {P : List Nat} {t : Tok} {Q : Value → Shared → Prop} (hl : P.length ≤ 100000) (h : ∀ t' k, Q (.int (P.length : Int) t') { s with toks := k }) : wpAny (model prog w) A (call (.builtin "len") [.str (T P) t]) Q E s := by
  refine PySem.P.len_str (by rw [T_len]; omega) ?_
  rw [T_len]; exact h _ _
theorem while_pos {test : Expr} {body : List Stmt} {pos : Pos} {env : Env} {Q : Flow → Shared → Prop} (I : Nat → Shared → Prop) (n : Nat) (h0 : 0 < s.toks) (h : I n s)
    (turn : ∀ n s, 0 < s.toks → I n s → wpAny (model prog w) A (isTrue test env (eval test env)) (fun b s₂ => if b = true then wpAny (model prog w) A (execs body env) (fun f s₃ => match f with
        | .next | .cont => ∃ k, k < n ∧ I k s₃ | .brk => Q .next s₃ | .ret v => Q (.ret v) s₃) (fun _ _ => False) s₂ else Q .next s₂) (fun _ _ => False) s) :
    wpAny (model prog w) A (exec (.While test body [] pos) env) Q E s := by
  refine while_inv (fun n s => 0 < s.toks ∧ I n s) n ⟨h0, h⟩ fun n s hI => ?_
  refine with_pos hI.1 (wpAny_mono (turn n s hI.1 hI.2) (fun b s₂ q h2 => ?_) fun _ _ q => q.elim)
  cases b with
  | false => exact q
  | true =>
    simp only [if_true] at q ⊢
    refine with_pos h2 (wpAny_mono q (fun f s₃ r h3 => ?_) fun _ _ q => q.elim)
    cases f with
    | next => obtain ⟨k, hk, hI⟩ := r; exact ⟨k, hk, h3, hI⟩
    | cont => obtain ⟨k, hk, hI⟩ := r; exact ⟨k, hk, h3, hI⟩
    | brk => exact r
    | ret v => exact r
theorem eqT_yes {c : Nat} {x : Str} {t u : Tok} {Q : Value → Shared → Prop} (hx : x = T [c]) (h : Q (.bool true) s) : wpAny (model prog w) A (compareOp .Eq (.str (T [c]) t) (.str x u)) Q E s := by
  subst hx
  have := SeqAt.RcAt.str_str (A := A) (s := s) (T [c]) t (T [c]) u prog w E Q
  exact this (by simpa using h)
theorem eqT_no {c d : Nat} {x : Str} {t u : Tok} {Q : Value → Shared → Prop} (hx : x = T [d]) (hd : c ≠ d) (h : Q (.bool false) s) : wpAny (model prog w) A (compareOp .Eq (.str (T [c]) t) (.str x u)) Q E s := by
  subst hx
  have := SeqAt.RcAt.str_str (A := A) (s := s) (T [c]) t (T [d]) u prog w E Q
  refine this ?_
  rw [T_beq, decide_eq_false (by simpa using hd)]
  exact h
theorem neT_no {c : Nat} {x : Str} {t u : Tok} {Q : Value → Shared → Prop} (hx : x = T [c]) (h : Q (.bool false) s) : wpAny (model prog w) A (compareOp .NotEq (.str (T [c]) t) (.str x u)) Q E s := by
  subst hx
  have := SeqAt.RcNeAt.str_str (A := A) (s := s) (T [c]) t (T [c]) u prog w E Q
  exact this (by simpa using h)
theorem neT_yes {c d : Nat} {x : Str} {t u : Tok} {Q : Value → Shared → Prop} (hx : x = T [d]) (hd : c ≠ d) (h : Q (.bool true) s) : wpAny (model prog w) A (compareOp .NotEq (.str (T [c]) t) (.str x u)) Q E s := by
  subst hx
  have := SeqAt.RcNeAt.str_str (A := A) (s := s) (T [c]) t (T [d]) u prog w E Q
  refine this ?_
  rw [T_beq, decide_eq_false (by simpa using hd)]
  exact h
theorem lt_yes {a b : Int} {t u : Tok} {Q : Value → Shared → Prop} (hab : a < b) (h : Q (.bool true) s) : wpAny (model prog w) A (compareOp .Lt (.int a t) (.int b u)) Q E s := lt_int (by rw [decide_eq_true hab]; exact h)
theorem lt_no {a b : Int} {t u : Tok} {Q : Value → Shared → Prop} (hab : ¬ a < b) (h : Q (.bool false) s) : wpAny (model prog w) A (compareOp .Lt (.int a t) (.int b u)) Q E s := lt_int (by rw [decide_eq_false hab]; exact h)
theorem ge_no {a b : Int} {t u : Tok} {Q : Value → Shared → Prop} (hab : ¬ b ≤ a) (h : Q (.bool false) s) : wpAny (model prog w) A (compareOp .GtE (.int a t) (.int b u)) Q E s := ge_int (by rw [decide_eq_false hab]; exact h)
theorem truthy_cons {l : Addr} {v : Value} {vs : List Value} {Q : Bool → Shared → Prop} (hl : s.heap.IsList l (List.toArray (v :: vs))) (hz : vs.length ≤ 100000) (h : ∀ tk, Q true { s with toks := tk }) : wpAny (model prog w) A (truthy (.ref l)) Q E s :=
  wpAny_truthy_list hl (by simp; omega) (by simpa using h _)
theorem last_item {value slice : Expr} {l : Addr} {its : Array Value} {x : Value} {u : Tok} {Q : Value → Shared → Prop} (hl : s.heap.IsList l its) (hx : its[((-1 : Int) + its.size).toNat]? = some x) (h : Q x s)
    (hs : subscripted slice false (.ref l) (.int (-1) u) = operate [.ref l, .int (-1) u] (getItem (.ref l) (.int (-1) u)) := by with_unfolding_all rfl) (hg : ∀ r, letTemporaryGo value (.ref l) r = pure () := by intro _; with_unfolding_all rfl) :
    wpAny (model prog w) A (subscriptTail value slice (.ref l) (.int (-1) u)) Q E s := by
  refine subscriptTail_builtin hl.typeIs F.slot_list_getitem.lookup (wpAny_getItem_list_neg hl (by decide) ?_ (by decide) hx h) hs hg
  have : ((-1 : Int) + its.size).toNat < its.size := (Array.getElem?_eq_some_iff.mp hx).1
  omega
theorem last_TL {S : Addr} {vs : List Value} {xs : List (List Nat)} (h : TL vs xs) (hn : xs ≠ []) : ∃ z t, (List.toArray (Value.ref S :: vs))[((-1 : Int) + (List.toArray (Value.ref S :: vs)).size).toNat]? = some (.str z t) := by
  have e := h.len
  have hpos : 0 < xs.length := List.length_pos_iff.mpr hn
  have hi : vs.length - 1 < vs.length := by omega
  obtain ⟨x, t, hx, _⟩ := h.item (List.getElem?_eq_getElem hi)
  refine ⟨T x, t, ?_⟩
  rw [← hx]
  have e2 : ((-1 : Int) + (List.toArray (Value.ref S :: vs)).size).toNat = vs.length - 1 + 1 := by simp; omega
  rw [e2]
  simp [hi]
theorem isnot_str_ref {x : Str} {t : Tok} {a : Addr} {Q : Value → Shared → Prop} (h : Q (.bool true) s) : wpAny (model prog w) A (compareOp .IsNot (.str x t) (.ref a)) Q E s := by
  unfold compareOp
  first
    | exact wpAny_bind (wpAny_pure (wpAny_pure h))
    | (wp_walk; exact h)
theorem eqI_same {a : Int} {t u : Tok} {Q : Value → Shared → Prop} (h : Q (.bool true) s) : wpAny (model prog w) A (compareOp .Eq (.int a t) (.int a u)) Q E s := eq_int (by rw [beq_self_eq_true]; exact h)
theorem slice_one {P : List Nat} {i j : Int} {c : Nat} (hc : P[i.toNat]? = some c) (h0 : 0 ≤ i) (hj : j = i + 1) : Txt.slice (T P) (some i) (some j) = T [c] := by
  have hlt : i.toNat < P.length := (List.getElem?_eq_some_iff.mp hc).1
  have e := slice_closesL (x := T P) (i := i) (j := j) h0 (by omega) (by rw [T_len]; omega)
  rw [eq_of_beq e, T_cps]
  have e2 : (j - i).toNat = 1 := by omega
  rw [e2, List.drop_eq_getElem_cons hlt]
  have e3 : P[i.toNat] = c := by simpa [List.getElem?_eq_getElem hlt] using hc
  rw [e3]
  rfl
theorem slice_M {value slice : Expr} {P : List Nat} {i j : Int} {ui uj : Tok} {c : Nat} {t : Tok} {Q : Value → Shared → Prop} (F : Fr h₀ L s.heap m) (N : News h₀ L s.heap news) (hc : P[i.toNat]? = some c) (h0 : 0 ≤ i) (hj : j = i + 1) (hl : P.length ≤ 100000)
    (h : ∀ h' t' k, Fr h₀ L h' m → News h₀ L h' news → Q (.str (T [c]) t') { s with heap := h', toks := k })
    (hs : subscripted slice false (.str (T P) t) (.ref s.heap.objs.size) = operate [.ref s.heap.objs.size, .str (T P) t] (getItem (.str (T P) t) (.ref s.heap.objs.size)) := by with_unfolding_all rfl)
    (ht : ∀ r, letTemporaryGo value (.str (T P) t) r = pure () := by intro _; with_unfolding_all rfl) :
    wpAny (model prog w) A (subscriptTail value slice (.str (T P) t) (.ref s.heap.objs.size)) Q E { s with heap := s.heap.push { cls := .type "slice", data := .fields #[.int i ui, .int j uj, .none] } } :=
  slice_strN_ss F N (fun h' t' k F' N' => by rw [slice_one hc h0 hj]; exact h h' t' k F' N') hs ht (by rw [T_len, sizeLine_eq]; omega)
theorem notin_T {x : Str} {l : List Nat} {d : Nat} {t u : Tok} {Q : Value → Shared → Prop} (hx : x = T [d]) (hd : d ∉ l) (h : Q (.bool true) s) : wpAny (model prog w) A (compareOp .NotIn (.str x t) (.str (T l) u)) Q E s := by
  subst hx
  refine notIn_str ?_
  have e := found_T d l
  rw [decide_eq_false hd] at e
  first
    | (simp only [Bool.not_eq_false'] at e; rw [e]; exact h)
    | (rw [e]; exact h)
    | (have e' : (Builtin.Str.occurrences (T l) (T [d]) 0 (T l).length 1).isEmpty = true := by simpa using e
       rw [e']; exact h)
theorem replace_none {l z : List Nat} {d : Nat} {x y : Str} {t u v : Tok} {Q : Value → Shared → Prop} (hx : x = T [d]) (hy : y = T z) (hd : d ∉ l) (h1 : u ≠ 0) (h2 : v ≠ 0) (h3 : u ≠ v) (hz : z.length ≤ 6) (hl : l.length ≤ 1000) (hne : [d] ≠ z) (h : ∀ t' k, Q (.str (T l) t') { s with toks := k }) :
    wpAny (model prog w) A (call (.builtin "str.replace") [.str (T l) t, .str x u, .str y v]) Q E s := by
  subst hx hy
  refine SC.replace h1 h2 h3 (by rw [T_beq]; exact decide_eq_false hne) ?_ ?_
  · rw [T_len, T_len]
    have : (l.length + 1) * z.length ≤ (l.length + 1) * 6 := Nat.mul_le_mul_left _ hz
    omega
  · intro t' k
    rw [replace_T, repl_free hd]
    exact h t' k
noncomputable def AppAt (u l : Addr) (h : Heap) : Prop := h.get? u = some (boundApp l)
theorem AppAt.of {u l : Addr} {h : Heap} (N : News h₀ L h news) (hm : (u, boundApp l) ∈ news) : AppAt u l h := N.get hm
theorem ba_callWith0 {pos : Pos} {u l : Addr} {first : List Value} {args : List (Bool × Sem Value)} {Q : Value → Shared → Prop} (hplain : args.any (·.1) = false)
    (h : wpAny M A (evalArgs (.ref u) true args []) (fun x s₁ => AppAt u l s₁.heap ∧ wpAny M A (call (.ref u) (first ++ x.pos) x.kw) Q E s₁) E s) : wpAny M A (callWith pos (.ref u) first args []) Q E s := by
  unfold callWith
  refine wpAny_bind (wpAny_holding (wpAny_mono h (fun x s₁ h₁ => wpAny_bind (wpAny_standAt ?_)) fun _ _ x => x))
  obtain ⟨ho, hcall⟩ := h₁
  simp only [hplain, List.any_nil, Bool.or_false]
  refine wpAny_bind (m := keeperOf (.ref u)) ?_
  unfold keeperOf
  refine wpAny_bind (wpAny_load ho ?_)
  simp only [boundApp, show (Value.type "builtin_function_or_method" != Value.type "method") = true by decide, show (Value.type "builtin_function_or_method" == Value.type "builtin_function_or_method" || Value.type "builtin_function_or_method" == Value.type "method-wrapper") = true by decide, if_true]
  refine wpAny_pure ?_
  exact wpAny_bind (wpAny_mono hcall (fun r s₂ hr => wpAny_bind (wpAny_holding (wpAny_point (wpAny_pure hr)))) fun _ _ x => x)
theorem ba_callWith {pos : Pos} {u l : Addr} {first : List Value} {env : Env} {e : Expr} {rest : List Expr} {Q : Value → Shared → Prop} (_N : News h₀ L s.heap news) (_hm : (u, boundApp l) ∈ news)
    (h : wpAny M A (spliced (backTo pos (starEach (e :: rest) env))) (fun vs s₁ => AppAt u l s₁.heap ∧ wpAny M A (call (.ref u) (first ++ vs)) Q E s₁) E s)
    (he : starEach (e :: rest) env = (false, eval e env) :: starEach rest env := by rfl) (hplain : (backTo pos (starEach rest env)).any (·.1) = false := by rfl) :
    wpAny M A (callWith pos (.ref u) first (backTo pos (starEach (e :: rest) env)) []) Q E s := by
  rw [he] at h ⊢
  refine ba_callWith0 (l := l) (by show (false || (backTo pos (starEach rest env)).any (·.1)) = false; rw [hplain]; rfl) ?_
  exact evalArgs_plain h
end
noncomputable def wr (c : Nat) : List Nat := if c = 42 ∨ c = 63 ∨ c = 91 then [91, c, 93] else [c]
noncomputable def patt (own : List Nat) : List Nat := 42 :: own.flatMap wr ++ [42]
theorem patt_len (own : List Nat) : (patt own).length ≤ 3 * own.length + 2 := by
  have h : ∀ l : List Nat, (l.flatMap wr).length ≤ 3 * l.length := by
    intro l
    induction l with
    | nil => simp
    | cons c l ih =>
      rw [List.flatMap_cons, List.length_append, List.length_cons]
      have : (wr c).length ≤ 3 := by unfold wr; split <;> simp
      omega
  have := h own
  unfold patt
  simp only [List.length_append, List.length_cons, List.length_nil]
  omega

noncomputable def part (c : Nat) : List Nat := if c = 91 then [91, 92, 91, 93] else if c = 42 ∨ c = 63 then [91, c, 93] else esc c
/-- what the translation in parts hands back -/
noncomputable def RTrans (own : List Nat) (S : Addr) (v : Value) (ow : List (Addr × Obj)) : Prop := ∃ l vs n, v = .ref l ∧ ow = [(l, W.listOf (List.toArray (.ref S :: vs ++ [.ref S])) n)] ∧ TL vs (own.map part)
/-- where the walk over the pattern stands -/
inductive Ph (own : List Nat) (S : Addr) : Nat → Int → List Value → Prop
  | start : Ph own S (own.length + 2) 0 []
  | mid (done rest : List Nat) (vs : List Value) : own = done ++ rest → TL vs (done.map part) → Ph own S (rest.length + 1) ((1 + (done.flatMap wr).length : Nat) : Int) (.ref S :: vs)
  | fin (vs : List Value) : TL vs (own.map part) → Ph own S 0 ((patt own).length : Int) (.ref S :: vs ++ [.ref S])
noncomputable def Look (own : List Nat) (S b l : Addr) (m : Str → Option Value) (i : Int) : Prop := (∃ t, m (Str.ofString "pat") = some (.str (T (patt own)) t)) ∧ m (Str.ofString "STAR") = some (.ref S) ∧ m (Str.ofString "res") = some (.ref l) ∧ m (Str.ofString "add") = some (.ref b) ∧ (∃ t, m (Str.ofString "n") = some (.int ((patt own).length : Int) t)) ∧ ∃ t, m (Str.ofString "i") = some (.int i t)
noncomputable def lamPos : Pos := ⟨137, 39, 137, 76⟩
noncomputable def TrI (own : List Nat) (S : Addr) (g : Heap) (L b l : Addr) (s : Shared) (n : Nat) (s' : Shared) : Prop := ∃ h tk m items k i ps, s' = { s with heap := h, toks := tk } ∧ Fr g L h m ∧ News g L h [(b, boundApp l), (l, W.listOf (List.toArray items) k), (99, tabObj ps)] ∧ PsOk lamPos ps ∧ Look own S b l m i ∧ Ph own S n i items
/-- a while of one turn, then over -/
theorem TrI.elim {own : List Nat} {S : Addr} {g : Heap} {L b l : Addr} {s : Shared} {n : Nat} {s' : Shared} {G : Shared → Prop} (hI : TrI own S g L b l s n s')
    (h : ∀ h2 tk m items k i ps tp tn ti, Fr g L h2 m → News g L h2 [(b, boundApp l), (l, W.listOf (List.toArray items) k), (99, tabObj ps)] → PsOk lamPos ps → m (Str.ofString "pat") = some (.str (T (patt own)) tp) → m (Str.ofString "STAR") = some (.ref S) → m (Str.ofString "res") = some (.ref l) → m (Str.ofString "add") = some (.ref b) →
      m (Str.ofString "n") = some (.int ((patt own).length : Int) tn) → m (Str.ofString "i") = some (.int i ti) → Ph own S n i items → G { s with heap := h2, toks := tk }) : G s' := by
  obtain ⟨h2, tk, m, items, k, i, ps, rfl, F, N, hps, ⟨⟨tp, lp⟩, lS, lr, la, ⟨tn, ln⟩, ⟨ti, li⟩⟩, ph⟩ := hI
  exact h _ _ _ _ _ _ _ _ _ _ F N hps lp lS lr la ln li ph
theorem TrI.elimP {own : List Nat} {S : Addr} {g : Heap} {L b l : Addr} {s : Shared} {n : Nat} {s' : Shared} {G : Shared → Prop} (hI : TrI own S g L b l s n s') (hp : 0 < s'.toks)
    (h : ∀ h2 tk m items k i ps tp tn ti, Fr g L h2 m → News g L h2 [(b, boundApp l), (l, W.listOf (List.toArray items) k), (99, tabObj ps)] → PsOk lamPos ps → m (Str.ofString "pat") = some (.str (T (patt own)) tp) → m (Str.ofString "STAR") = some (.ref S) → m (Str.ofString "res") = some (.ref l) → m (Str.ofString "add") = some (.ref b) →
      m (Str.ofString "n") = some (.int ((patt own).length : Int) tn) → m (Str.ofString "i") = some (.int i ti) → Ph own S n i items → 0 < tk → G { s with heap := h2, toks := tk }) : G s' := TrI.elim (G := fun s' => 0 < s'.toks → G s') hI h hp
noncomputable def JAt (g : Heap) (L : Addr) (m : Str → Option Value) (news : List (Addr × Obj)) (s : Shared) (j : Int) (s' : Shared) : Prop := ∃ h tk t', s' = { s with heap := h, toks := tk } ∧ Fr g L h (fun y => if y = Str.ofString "j" then some (.int j t') else m y) ∧ News g L h news
theorem one_turn {prog : Program} {w : World} {A : Around} {E : Value → Shared → Prop} {s : Shared} {env : Env} {L : Addr} {g : Heap} {m : Str → Option Value} {news : List (Addr × Obj)} {test : Expr} {body : List Stmt} {pos : Pos} {Q : Flow → Shared → Prop} (j : Int) (h0 : 0 < s.toks) (_F : Fr g L s.heap m) (_N : News g L s.heap news)
    (t1 : wpAny (model prog w) A (isTrue test env (eval test env)) (fun b s₂ => if b = true then wpAny (model prog w) A (execs body env) (GotF (JAt g L m news s j)) (fun _ _ => False) s₂ else False) (fun _ _ => False) s)
    (t2 : ∀ s', 0 < s'.toks → JAt g L m news s j s' → wpAny (model prog w) A (isTrue test env (eval test env)) (fun b s₂ => if b = true then False else Q .next s₂) (fun _ _ => False) s') : wpAny (model prog w) A (exec (.While test body [] pos) env) Q E s := by
  refine while_pos (fun n s' => (n = 1 ∧ s' = s) ∨ (n = 0 ∧ JAt g L m news s j s')) 1 h0 (.inl ⟨rfl, rfl⟩) fun n s' hp hI => ?_
  rcases hI with ⟨rfl, rfl⟩ | ⟨rfl, hJ⟩
  · refine wpAny_mono t1 (fun b s₂ q => ?_) fun _ _ q => q
    cases b with
    | false => simp at q
    | true =>
      simp only [if_true] at q ⊢
      refine wpAny_mono q (fun f s₃ r => ?_) fun _ _ q => q
      obtain ⟨rfl, r⟩ := r
      exact ⟨0, Nat.lt_succ_self _, .inr ⟨rfl, r⟩⟩
  · refine wpAny_mono (t2 s' hp hJ) (fun b s₂ q => ?_) fun _ _ q => q
    cases b with
    | false => simpa using q
    | true => simp at q
theorem tr_drop {g h : Heap} {L : Addr} {x a b c : Addr × Obj} (N : News g L h [x, a, b, c]) : News g L h [a, b, c] := news_tail N
theorem tr_ne {g h : Heap} {L b l : Addr} {o : Obj} {xs : Array Value} {k : Nat} {ps : Array Value} (N : News g L h [(b, o), (l, W.listOf xs k), (99, tabObj ps)]) : l ≠ 99 := by
  intro e
  have h1 := (N _ (.tail _ (.head _))).1
  have h2 := (N _ (.tail _ (.tail _ (.head _)))).1
  rw [show ((l, W.listOf xs k) : Addr × Obj).1 = 99 from e] at h1
  rw [h1] at h2
  exact absurd (congrArg Obj.cls (Option.some.inj h2)) (by simp [W.listOf])
theorem tr_swap {g h : Heap} {L b l : Addr} {o ol oc : Obj} (N : News g L h [(b, o), (l, ol), (99, oc)]) : News g L h ((99, oc) :: [(l, ol)]) := fun q hq => by
  rcases List.mem_cons.mp hq with rfl | hq
  · exact N _ (.tail _ (.tail _ (.head _)))
  · rw [List.mem_singleton] at hq; subst hq; exact N _ (.tail _ (.head _))
noncomputable def Turned (own : List Nat) (S : Addr) (g : Heap) (L b l : Addr) (s : Shared) (n : Nat) (s' : Shared) : Prop := ∃ k, k < n ∧ TrI own S g L b l s k s'
theorem Turned.mk {own : List Nat} {S : Addr} {g : Heap} {L b l : Addr} {s : Shared} {n : Nat} {h : Heap} {tk k' : Nat} {m : Str → Option Value} {vs : List Value} {x : Value} {k : Nat} {i j : Int} {ps : Array Value} (F : Fr g L h m) (N : News g L h [(b, boundApp l), (l, W.listOf ((List.toArray vs).push x) k), (99, tabObj ps)]) (hps : PsOk lamPos ps) (hl : Look own S b l m j) (e : j = i) (ph : Ph own S k' i (vs ++ [x])) (hk : k' < n) :
    Turned own S g L b l s n { s with heap := h, toks := tk } := by
  subst e
  exact ⟨k', hk, h, tk, m, vs ++ [x], k, j, ps, rfl, F, by rw [← List.push_toArray]; exact N, hps, hl, ph⟩
theorem tr_cut {prog : Program} {w : World} {A : Around} {E : Value → Shared → Prop} {s : Shared} {env : Env} {own : List Nat} {S b l L : Addr} {g : Heap} {m : Str → Option Value} {test : Expr} {body rest : List Stmt} {pos : Pos} {Q : Flow → Shared → Prop}
    (h0 : 0 < s.toks) (F : Fr g L s.heap m) {ps : Array Value} (N : News g L s.heap [(b, boundApp l), (l, W.listOf #[] 0), (99, tabObj ps)]) (hps : PsOk lamPos ps) (hl : Look own S b l m 0)
    (turn : ∀ n s', 0 < s'.toks → TrI own S g L b l s n s' → wpAny (model prog w) A (isTrue test env (eval test env)) (fun b' s₂ => if b' = true then wpAny (model prog w) A (execs body env) (fun f s₃ => match f with
        | .next | .cont => Turned own S g L b l s n s₃ | .brk => False | .ret _ => False) (fun _ _ => False) s₂ else n = 0 ∧ TrI own S g L b l s 0 s₂) (fun _ _ => False) s')
    (fin : ∀ s', TrI own S g L b l s 0 s' → wpAny (model prog w) A (execs rest env) Q E s') : wpAny (model prog w) A (execs (.While test body [] pos :: rest) env) Q E s := by
  refine cut_execs1 (TrI own S g L b l s 0) (while_pos (TrI own S g L b l s) (own.length + 2) h0 ⟨s.heap, s.toks, m, [], 0, 0, ps, rfl, F, N, hps, hl, .start⟩ fun n s' hp hI => ?_) fin
  refine wpAny_mono (turn n s' hp hI) (fun b' s₂ q => ?_) fun _ _ q => q
  cases b' with
  | false => exact ⟨rfl, q.2⟩
  | true =>
    simp only [if_true] at q ⊢
    refine wpAny_mono q (fun f s₃ r => ?_) fun _ _ q => q
    cases f with
    | next => exact r
    | cont => exact r
    | brk => exact r.elim
    | ret v => exact r.elim
end Mine
end
theorem Mine.walk_off_P19 : True := by
  w_top off
  k_with_none
  trivial
section
open PySem PySem.W PyProof.Rows PySem.Calls PySem.Spec
set_option Elab.async false
set_option maxRecDepth 100000
set_option maxHeartbeats 8000000
namespace Mine
theorem rows_P20_1 : True := by
  k_with_none
  k_with "ne" => (refine neN ?_; (try dsimp only); first | exact Nat.ne_of_lt (by assumption) | exact Nat.ne_of_gt (by assumption) | exact Mine.la0 (by assumption) | exact Mine.ga0 (by assumption) | exact Mine.la1 (by assumption) | exact Mine.ga1 (by assumption) | exact Mine.le1 (by assumption) | exact Mine.ge1 (by assumption) | exact Mine.la2 (by assumption) | exact Mine.ga2 (by assumption) | exact Mine.le2 (by assumption) | exact Mine.ge2 (by assumption) | exact Mine.la3 (by assumption) | exact Mine.ga3 (by assumption) | exact Mine.le3 (by assumption) | exact Mine.ge3 (by assumption) | exact Mine.la4 (by assumption) | exact Mine.ga4 (by assumption) | exact Mine.le4 (by assumption) | exact Mine.ge4 (by assumption) | exact Mine.la5 (by assumption) | exact Mine.ga5 (by assumption) | exact Mine.le5 (by assumption) | exact Mine.ge5 (by assumption) | exact Mine.la6 (by assumption) | exact Mine.ga6 (by assumption) | exact Mine.le6 (by assumption) | exact Mine.ge6 (by assumption) | exact Mine.la7 (by assumption) | exact Mine.ga7 (by assumption) | exact Mine.le7 (by assumption) | exact Mine.ge7 (by assumption) | exact Mine.la8 (by assumption) | exact Mine.ga8 (by assumption) | exact Mine.le8 (by assumption) | exact Mine.ge8 (by assumption))
  k_with "room" => (first | exact Mine.room0 (by assumption) | exact Mine.room1 (by assumption) (by decide) | exact Mine.room2 (by assumption) (by decide))
  k_with "units" => (first | exact Mine.room0 (by assumption) | exact Mine.room1 (by assumption) (by decide) | exact Mine.room2 (by assumption) (by decide))
  k_with "size" => (first | exact Nat.zero_le _ | with_reducible exact Mine.szT (by assumption) | with_reducible exact Mine.szT1 (by assumption) | with_reducible exact Mine.szK (by assumption) | with_reducible exact Mine.szK1 (by assumption))
  k_with "LeaveM" => (k_dflt (refine' Mine.leaveM_ ?k1 ?k2 ?_; (case k1 => k_asm); (case k2 => k_asm); k_whole); intro kF kS kN kf; (try dsimp only))
  k_with "Kont" => ((try dsimp only); first | (refine' Mine.kont_next ?L_k ?_; (case L_k => assumption); intro tkp htkp) | (refine' Mine.kont_ret ?L_k ?_; (case L_k => assumption)) | (refine' Mine.kont_brk ?L_k ?_; (case L_k => assumption)) | (refine' Mine.kont_cont ?L_k ?_; (case L_k => assumption)))
  k_with "execs cons" => (k_here; first | refine Mine.execs_one ?_ | ((first | (refine' Mine.execs_kont ?kp_k ?_; (case kp_k => assumption)) | (refine Mine.gen_pos ?kp_k ?_; (case kp_k => first | assumption | exact Nat.succ_pos _ | omega); intro tkp htkp; refine Mine.execs_kont htkp ?_)); intro K9 hK9))
  k_with "call ref" => (k_here; k_dflt (refine' Mine.Tell.use (Mine.c_escape _ _ _) ?X ?B ?F ?N ?T ?hk ?hd ?hu ?ht ?hn ?_; (case X => k_asm); (case B => k_asm); (case F => k_asm); (case N => k_asm); (case T => k_asm); (case hk => first | exact rfl | assumption); (case hd => ktr_room); (case hu => ktr_units); (case ht => first | assumption | exact Nat.succ_pos _ | (dsimp only; omega)); (case hn => trivial); k_whole; intro v9 own9 h9 tk9 F9 N9 ne9 p9 R9; obtain ⟨⟨t9, e9⟩, o9⟩ := R9; subst e9; subst o9; (try simp only [List.nil_append] at N9); (try dsimp only); (try k_fold)))
  k_with "getAttr ref" => (k_here; k_dflt (refine' Mine.ba_getAttr ?F ?N ?hm ?_; (case F => k_asm); (case N => k_asm); (case hm => k_mem); k_whole; intro b9 h9 tk9 F9 N9 lt9; (try k_lt lt9); (try dsimp only)))
  k_with "callWith ref" => (k_here; (with_reducible show wpAny _ _ (callWith _ (Value.ref _) _ (backTo _ (starEach (_ :: _) _)) []) _ _ _); k_dflt (refine' Mine.ba_callWith ?N ?hm ?_; (case N => k_asm); (case hm => k_mem); k_whole))
  k_with "And" => ((with_reducible show Mine.AppAt _ _ _ ∧ _); k_dflt (refine ⟨Mine.AppAt.of (by k_asm) (by k_mem), ?_⟩); (try dsimp only [List.nil_append, List.cons_append]))
  k_with "call ref" => (k_here; k_dflt (refine' Mine.ba_call ?F ?N ?hb ?U ?hz ?_; (case F => k_asm); (case N => k_asm); (case hb => k_mem); (case U => k_upd); (case hz => first | assumption | (simp only [Array.size_push]; rw [PySem.sizeLine_eq]; first | omega | simp) | size_fits); k_whole; intro h9 F9 N9; (try dsimp only)))
  k_with "call builtin:len" => (k_here; k_dflt (refine' Mine.len_T ?hl ?_; (case hl => assumption); k_whole; intro t9 k9; (try dsimp only)))
  k_with "exec While Compare" => (k_here; refine Mine.hold ?_)
  k_with "execs cons" => ((with_reducible show wpAny _ _ (execs (Stmt.While _ _ _ _ :: _) _) _ _ _); refine Mine.hold ?_)
  k_with "eval Name" => (k_here; k_dflt (refine' nameX_L ?nF ?nv ?_ ?na ?nb ?nc; (case nF => k_asm); (case nv => first | exact rfl | assumption); (case na => rfl); (case nb => rfl); (case nc => decide); k_whole))
  k_with "subscriptTail Name Name str int" => (k_here; k_dflt (refine' Mine.item_T ?hc ?h0 ?hl ?_ ?hs ?hg; (case hc => assumption); (case h0 => first | exact Mine.nn0 | exact Mine.nn1 | exact Mine.nn2 | exact Mine.nn3 | omega); (case hl => assumption); (case hs => with_unfolding_all rfl); (case hg => (intro _; with_unfolding_all rfl)); k_whole; (try dsimp only)))
  k_with "compareOp Eq str str" => (k_here; k_dflt ((first | (refine' Mine.eqT_yes ?hx ?_; (case hx => decide); k_whole) | (refine' Mine.eqT_no (d := 42) ?hx ?hd ?_; (case hx => decide); (case hd => first | decide | assumption); k_whole) | (refine' Mine.eqT_no (d := 63) ?hx ?hd ?_; (case hx => decide); (case hd => first | decide | assumption); k_whole) | (refine' Mine.eqT_no (d := 91) ?hx ?hd ?_; (case hx => decide); (case hd => first | decide | assumption); k_whole) | (refine' Mine.eqT_no (d := 33) ?hx ?hd ?_; (case hx => decide); (case hd => first | decide | assumption); k_whole) | (refine' Mine.eqT_no (d := 93) ?hx ?hd ?_; (case hx => decide); (case hd => first | decide | assumption); k_whole)); (try dsimp only)))
  k_with "compareOp NotEq str str" => (k_here; k_dflt ((first | (refine' Mine.neT_no ?hx ?_; (case hx => decide); k_whole) | (refine' Mine.neT_yes (d := 93) ?hx ?hd ?_; (case hx => decide); (case hd => first | decide | assumption); k_whole)); (try dsimp only)))
  k_with "compareOp Lt int int" => (k_here; k_dflt ((first | (refine' Mine.lt_yes ?hx ?_; (case hx => first | assumption | omega); k_whole) | (refine' Mine.lt_no ?hx ?_; (case hx => first | assumption | omega); k_whole)); (try dsimp only)))
  k_with "compareOp GtE int int" => (k_here; k_dflt ((refine' Mine.ge_no ?hx ?_; (case hx => first | assumption | omega); k_whole); (try dsimp only)))
  k_with "truthy ref" => (k_here; k_dflt (refine' Mine.truthy_cons ?hl ?hz ?_; (case hl => is_list); (case hz => assumption); k_whole; intro k9; (try dsimp only)))
  k_with "subscriptTail Name UnaryOp ref int" => (k_here; k_dflt (refine' Mine.last_item ?hl ?hx ?_ ?hs ?hg; (case hl => is_list); (case hx => assumption); (case hs => with_unfolding_all rfl); (case hg => (intro _; with_unfolding_all rfl)); k_whole; (try dsimp only)))
  k_with "compareOp IsNot str ref" => (k_here; k_dflt (refine Mine.isnot_str_ref ?_); (try dsimp only))
  k_with "compareOp Eq int int" => (k_here; k_dflt (refine Mine.eqI_same ?_); (try dsimp only))
  k_with "exec While BoolOp" => (k_here; refine Mine.hold ?_)
  k_with "subscriptTail Name Slice str ref" => (k_here; (with_reducible show wpAny _ _ (subscriptTail _ (Expr.Slice (some _) (some _) none _) _ _) _ _ _); (with_reducible rename Fr _ _ _ _ => F8); (with_reducible rename News _ _ _ _ => N8); (refine' Mine.slice_M (s := ⟨_, _, _, _, _⟩) F8 N8 ?hc ?h0 ?hj ?hl ?_ ?hs ?ht; (case hc => assumption); (case h0 => first | exact Mine.nn0 | exact Mine.nn1 | exact Mine.nn2 | exact Mine.nn3 | omega); (case hj => omega); (case hl => assumption); (case hs => with_unfolding_all rfl); (case ht => (intro _; with_unfolding_all rfl)); k_whole); intro h9 t9 k9 F9 N9; clear F8 N8; (try dsimp only))
  k_with "compareOp NotIn str str" => (k_here; k_dflt (refine' Mine.notin_T (d := 45) ?hx ?hd ?_; (case hx => decide); (case hd => decide); k_whole); (try dsimp only))
  k_with "call builtin:str.replace" => (k_here; k_dflt (refine' Mine.replace_none (d := 92) (z := [92, 92]) ?hx ?hy ?hd ?h1 ?h2 ?h3 ?hz ?hl ?hne ?_; (case hx => decide); (case hy => decide); (case hd => decide); (case h1 => (show (_ : Nat) ≠ (_ : Nat)); omega); (case h2 => (show (_ : Nat) ≠ (_ : Nat)); omega); (case h3 => (show (_ : Nat) ≠ (_ : Nat)); omega); (case hz => decide); (case hl => decide); (case hne => decide); k_whole); intro t9 k9; (try dsimp only))
  k_with "eval Lambda BinOp" => (k_here; k_dflt (refine' Mine.lam_any ?F ?N ?T ?C ?U ?hps ?_ ?hdef ?hcl; (case F => k_asm); (case N => k_asm); (case T => k_asm); (case C => assumption); (case U => k_updF); (case hps => assumption); (case hdef => exact rfl); (case hcl => exact rfl); k_whole); intro f9 fo9 ps9 h9 tk9 F9 N9 hfo9 hps9 lt9; (try k_lt lt9); (try dsimp only at N9); (try dsimp only))
  k_with "getMethod ref" => (k_here; k_dflt (refine' Mine.rs_getM ?X ?F ?_; (case X => k_asm); (case F => k_asm); k_whole))
  k_with "call builtin:re.Pattern.sub" => (k_here; k_dflt (refine' Mine.rs_M ?X ?F ?N ?hf ?hfc ?hm ?_; (case X => k_asm); (case F => k_asm); (case N => k_asm); (case hf => k_mem); (case hfc => assumption); (case hm => first | exact Mine.m42 | exact Mine.m63 | exact Mine.m91); k_whole); intro t9 h9 k9 F9 N9; (try dsimp only))
  trivial
theorem c_translate0 (w : World) (own : List Nat) (S : Addr) (t t2 : Tok) (hown : own ≠ []) (hlen : own.length ≤ 1000) (hl1 : (patt own).length ≤ 100000) : TellP w 104 4 40 [.str (T (patt own)) t, .ref S, .str (Str.ofString ".") t2] lamPos (fun _ => True) (RTrans own S) := by
  refine TellP.of ?_
  k_fill
  intro p loose mean mg mb dp un gd cn cs a ccd cl outer A₀ base h₀ L m s ps Q E X B F T C N hps hk hd hu ht hn hret
  refine wpAny_call ?_
  k_dflt (refine' Mine.enterG ?k1 ?k2 ?k3 ?k5 ?kC ?kN ?kA ?kF ?kK ?k6 ?k7 ?k8 ?k9 ?kB ?_ ?c2 ?c3 ?c4 ?c5; (case kA => exact rfl); (case kF => exact rfl); (case kK => assumption); (case k1 => k_asm); (case k2 => k_asm); (case k3 => k_asm); (case k5 => k_asm); (case kC => assumption); (case kN => assumption); (case k6 => k_is); (case k7 => k_is); (case k8 => ktr_room); (case k9 => exact BindsTo.of_eq rfl); (case c5 => decide); (case kB => exact locs rfl); (case c2 => exact rfl); (case c3 => exact rfl); (case c4 => exact rfl); k_whole; intro g' L' h' eg' F' N' B' X' T' C' S'; (try dsimp only); (try k_fold))
  k_steps
  unfold Hold
  (rename Fr _ _ _ _ => FX); (rename News _ _ _ _ => NX)
  refine tr_cut (own := own) (S := S) (by first | assumption | exact Nat.succ_pos _ | (dsimp only; omega)) FX (tr_drop NX) hps ⟨⟨_, rfl⟩, rfl, rfl, rfl, ⟨_, rfl⟩, ⟨_, rfl⟩⟩ ?_ ?_
  · intro n s' hp hI
    refine TrI.elimP hI hp ?_
    clear hI hp
    intro h2 tk2 m2 items k2 i2 ps2 tp tn ti F2 N2 hps2 lp lS lr la ln li ph hp
    clear FX NX
    cases ph with
    | start =>
      have hP0 : (patt own)[Int.toNat 0]? = some 42 := rfl
      have hl0 : (0 : Int) < ((patt own).length : Int) := by unfold patt; simp; omega
      k_steps
      refine' Turned.mk (vs := []) ?F ?N ?ps ?look ?e (Ph.mid [] own [] rfl TL.nil) (Nat.lt_succ_self _)
      case F => k_asm
      case N => k_asm
      case ps => assumption
      case look => exact ⟨⟨_, lp⟩, lS, lr, la, ⟨_, ln⟩, ⟨_, rfl⟩⟩
      case e => rfl
    | mid done rest vs ho hv =>
      have hpl : (patt own).length = 1 + (done.flatMap wr).length + (rest.flatMap wr).length + 1 := by
        unfold patt
        rw [ho]
        simp only [List.flatMap_append, List.length_append, List.length_cons, List.length_nil]
        omega
      have hat : ∀ (k : Nat) (x : Nat), ((rest.flatMap wr) ++ [42])[k]? = some x → (patt own)[1 + (done.flatMap wr).length + k]? = some x := by
        intro k x hx
        have e : patt own = (42 :: done.flatMap wr) ++ (rest.flatMap wr ++ [42]) := by unfold patt; rw [ho]; simp
        rw [e, List.getElem?_append_right (by simp; omega)]
        simp only [List.length_cons]
        rw [show 1 + (done.flatMap wr).length + k - ((done.flatMap wr).length + 1) = k by omega]
        exact hx
      obtain ⟨pos, hpos⟩ : ∃ pos, pos = 1 + (done.flatMap wr).length := ⟨_, rfl⟩
      rw [← hpos] at hat hpl li
      have hvz : vs.length ≤ 100000 := by
        have := hv.len
        rw [List.length_map] at this
        have h3 : done.length ≤ own.length := by rw [ho]; simp
        omega
      cases rest with
      | nil =>
        have hP : (patt own)[((pos : Nat) : Int).toNat]? = some 42 := by rw [Int.toNat_natCast]; exact hat 0 42 rfl
        have hl0 : (pos : Int) < ((patt own).length : Int) := by rw [hpl]; simp; omega
        have hd : done ≠ [] := by intro e; subst e; exact hown (by simpa using ho)
        obtain ⟨z, tz, hlast⟩ := last_TL (S := S) hv (by simpa using hd)
        k_steps
        refine' Turned.mk (vs := .ref S :: vs) ?F ?N ?ps ?look ?e (Ph.fin vs (by rw [ho]; simpa using hv)) (Nat.succ_pos _)
        case F => k_asm
        case N => k_asm
        case ps => assumption
        case look => exact ⟨⟨_, lp⟩, lS, lr, la, ⟨_, ln⟩, ⟨_, rfl⟩⟩
        case e => rw [hpl]; simp
      | cons c rest =>
        have ho2 : own = (done ++ [c]) ++ rest := by rw [ho]; simp
        by_cases hc : c = 42 ∨ c = 63 ∨ c = 91
        · have hwr : wr c = [91, c, 93] := by unfold wr; rw [if_pos hc]
          have hP : (patt own)[((pos : Nat) : Int).toNat]? = some 91 := by rw [Int.toNat_natCast]; exact hat 0 91 (by rw [List.flatMap_cons, hwr]; rfl)
          have hP1 : (patt own)[(((pos : Nat) : Int) + 1).toNat]? = some c := by rw [show (((pos : Nat) : Int) + 1).toNat = pos + 1 from rfl]; exact hat 1 c (by rw [List.flatMap_cons, hwr]; rfl)
          have hP2 : (patt own)[(((pos : Nat) : Int) + 1 + 1).toNat]? = some 93 := by rw [show (((pos : Nat) : Int) + 1 + 1).toNat = pos + 2 from rfl]; exact hat 2 93 (by rw [List.flatMap_cons, hwr]; rfl)
          have hl0 : (pos : Int) < ((patt own).length : Int) := by rw [hpl]; omega
          have hlw : ((c :: rest).flatMap wr).length = 3 + (rest.flatMap wr).length := by rw [List.flatMap_cons, hwr, List.length_append]; rfl
          have hl1' : (pos : Int) + 1 < ((patt own).length : Int) := by rw [hpl, hlw]; omega
          have hl2 : (pos : Int) + 1 + 1 < ((patt own).length : Int) := by rw [hpl, hlw]; omega
          rcases hc with rfl | rfl | rfl
          · k_steps
            unfold Hold
            (rename Fr _ _ _ _ => FX); (rename News _ _ _ _ => NX)
            refine' wpAny_execs_cons (one_turn ((pos : Int) + 1 + 1) (by first | assumption | exact Nat.succ_pos _ | omega) ?F ?N ?_ ?_)
            case F => k_asm
            case N => k_asm
            · k_steps
              (rename Fr _ _ _ _ => FY); (rename News _ _ _ _ => NY)
              exact ⟨rfl, _, _, _, rfl, FY, NY⟩
            · rintro s' hp3 ⟨h3, tk3, t3, rfl, F3, N3⟩
              clear FX NX
              k_steps
              (rename Fr _ _ _ _ => FZ); (rename News _ _ _ _ => NZ)
              have hst : (Str.empty ++ Str.ofString "[" ++ Mine.T [42] ++ Str.ofString "]") = Mine.T (part 42) := by decide
              rw [hst] at NZ
              refine' Turned.mk (vs := .ref S :: vs) FZ (news_tail (news_tail NZ)) ?ps ?look ?e (Ph.mid (done ++ [42]) rest (vs ++ [.str (Mine.T (part 42)) _]) ho2 ?tl) ?hk
              case ps => assumption
              case look => exact ⟨⟨_, lp⟩, lS, lr, la, ⟨_, ln⟩, ⟨_, rfl⟩⟩
              case tl => rw [List.map_append]; exact hv.snoc (part 42) _
              case hk => simp
              case e => rw [List.flatMap_append, List.length_append, List.flatMap_cons, hwr, hpos]; simp; omega
          · k_steps
            unfold Hold
            (rename Fr _ _ _ _ => FX); (rename News _ _ _ _ => NX)
            refine' wpAny_execs_cons (one_turn ((pos : Int) + 1 + 1) (by first | assumption | exact Nat.succ_pos _ | omega) ?F ?N ?_ ?_)
            case F => k_asm
            case N => k_asm
            · k_steps
              (rename Fr _ _ _ _ => FY); (rename News _ _ _ _ => NY)
              exact ⟨rfl, _, _, _, rfl, FY, NY⟩
            · rintro s' hp3 ⟨h3, tk3, t3, rfl, F3, N3⟩
              clear FX NX
              k_steps
              (rename Fr _ _ _ _ => FZ); (rename News _ _ _ _ => NZ)
              have hst : (Str.empty ++ Str.ofString "[" ++ Mine.T [63] ++ Str.ofString "]") = Mine.T (part 63) := by decide
              rw [hst] at NZ
              refine' Turned.mk (vs := .ref S :: vs) FZ (news_tail (news_tail NZ)) ?ps ?look ?e (Ph.mid (done ++ [63]) rest (vs ++ [.str (Mine.T (part 63)) _]) ho2 ?tl) ?hk
              case ps => assumption
              case look => exact ⟨⟨_, lp⟩, lS, lr, la, ⟨_, ln⟩, ⟨_, rfl⟩⟩
              case tl => rw [List.map_append]; exact hv.snoc (part 63) _
              case hk => simp
              case e => rw [List.flatMap_append, List.length_append, List.flatMap_cons, hwr, hpos]; simp; omega
          · k_steps
            unfold Hold
            (rename Fr _ _ _ _ => FX); (rename News _ _ _ _ => NX)
            refine' wpAny_execs_cons (one_turn ((pos : Int) + 1 + 1) (by first | assumption | exact Nat.succ_pos _ | omega) ?F ?N ?_ ?_)
            case F => k_asm
            case N => k_asm
            · k_steps
              (rename Fr _ _ _ _ => FY); (rename News _ _ _ _ => NY)
              exact ⟨rfl, _, _, _, rfl, FY, NY⟩
            · rintro s' hp3 ⟨h3, tk3, t3, rfl, F3, N3⟩
              clear FX NX
              k_steps
              (rename Fr _ _ _ _ => FZ); (rename News _ _ _ _ => NZ)
              have hst : (Str.empty ++ Str.ofString "[" ++ Str.ofString "\\[" ++ Str.ofString "]") = Mine.T (part 91) := by decide
              rw [hst] at NZ
              refine' Turned.mk (vs := .ref S :: vs) FZ (news_tail (news_tail NZ)) ?ps ?look ?e (Ph.mid (done ++ [91]) rest (vs ++ [.str (Mine.T (part 91)) _]) ho2 ?tl) ?hk
              case ps => assumption
              case look => exact ⟨⟨_, lp⟩, lS, lr, la, ⟨_, ln⟩, ⟨_, rfl⟩⟩
              case tl => rw [List.map_append]; exact hv.snoc (part 91) _
              case hk => simp
              case e => rw [List.flatMap_append, List.length_append, List.flatMap_cons, hwr, hpos]; simp; omega
        · have hwr : wr c = [c] := by unfold wr; rw [if_neg hc]
          have hpt : part c = esc c := by unfold part; rw [if_neg (fun e => hc (.inr (.inr e))), if_neg (fun e => hc (by rcases e with e | e; exact .inl e; exact .inr (.inl e)))]
          have hc1 : c ≠ 42 := fun e => hc (.inl e)
          have hc2 : c ≠ 63 := fun e => hc (.inr (.inl e))
          have hc3 : c ≠ 91 := fun e => hc (.inr (.inr e))
          have hP : (patt own)[((pos : Nat) : Int).toNat]? = some c := by rw [Int.toNat_natCast]; exact hat 0 c (by rw [List.flatMap_cons, hwr]; rfl)
          have hl0 : (pos : Int) < ((patt own).length : Int) := by rw [hpl]; omega
          k_steps
          refine' Turned.mk (vs := .ref S :: vs) ?F ?N ?ps ?look ?e (Ph.mid (done ++ [c]) rest (vs ++ [.str (Mine.T (esc c)) _]) ho2 ?tl) ?hk
          case F => k_asm
          case N => k_asm
          case ps => assumption
          case look => exact ⟨⟨_, lp⟩, lS, lr, la, ⟨_, ln⟩, ⟨_, rfl⟩⟩
          case tl => rw [List.map_append]; simpa [hpt] using hv.snoc (esc c) _
          case hk => simp
          case e => rw [List.flatMap_append, List.length_append, List.flatMap_cons, hwr, hpos]; simp; omega
    | fin vs hv =>
      have hl0 : ¬ (((patt own).length : Int) < ((patt own).length : Int)) := Int.lt_irrefl _
      k_steps
      all_goals exact ⟨h2, _, m2, _, k2, _, _, rfl, F2, N2, hps2, ⟨⟨_, lp⟩, lS, lr, la, ⟨_, ln⟩, ⟨_, li⟩⟩, .fin vs hv⟩
  · intro s' hI
    refine TrI.elim hI ?_
    clear hI
    intro h2 tk2 m2 items k2 i2 ps2 tp tn ti F2 N2 hps2 lp lS lr la ln li ph
    clear FX NX
    cases ph with
    | fin vs hv =>
      k_steps
      have hl99 := tr_ne kN
      exact hret _ _ _ _ _ kF (eg' ▸ kS) (tr_swap kN) (fun q hq => by rw [List.mem_singleton] at hq; subst hq; exact hide_none (eg' ▸ kf _ (.tail _ (.head _))) (by simpa using hl99)) hps2 ⟨_, vs, _, rfl, rfl, hv⟩
end Mine
end
theorem Mine.walk_off_P20 : True := by
  w_top off
  k_with_none
  trivial
section
open PySem PySem.W PyProof.Rows PySem.Calls PySem.Spec
set_option Elab.async false
set_option maxRecDepth 100000
set_option maxHeartbeats 8000000
namespace Mine
section
variable {prog : Program} {w : World} {A : Around} {E : Value → Shared → Prop} {s : Shared} {M : Model} {h₀ : Heap} {L : Addr} {m : Str → Option Value} {news : List (Addr × Obj)}
theorem item_L {value slice : Expr} {l : Addr} {its : Array Value} {i : Int} {x : Value} {u : Tok} {Q : Value → Shared → Prop} (hl : s.heap.IsList l its) (hx : its[i.toNat]? = some x) (h0 : 0 ≤ i) (hi : i ≤ 1000000) (h : Q x s)
    (hs : subscripted slice false (.ref l) (.int i u) = operate [.ref l, .int i u] (getItem (.ref l) (.int i u)) := by with_unfolding_all rfl) (hg : ∀ r, letTemporaryGo value (.ref l) r = pure () := by intro _; with_unfolding_all rfl) :
    wpAny (model prog w) A (subscriptTail value slice (.ref l) (.int i u)) Q E s := by
  refine subscriptTail_builtin hl.typeIs F.slot_list_getitem.lookup (wpAny_getItem_list hl h0 (by omega) hx h) hs hg
theorem loadX_L {a : Addr} {cn : Str} {cs : Scope} {ccd : Value} {cl : List (Str × Addr)} {x : Str} {v : Value} {Q : Value → Shared → Prop} (F : Fr h₀ L s.heap m) (hv : m x = some v) (h : Q v s)
    (hk : cs.kind = .function := by rfl) (hx : (envX cn cs L a ccd cl).kindOf x = some .local := by rfl) : wpAny M A (loadName (envX cn cs L a ccd cl) x) Q E s := wpAny_loadName_local hk hx F.ns hv h
theorem eqI_yes {a b : Int} {t u : Tok} {Q : Value → Shared → Prop} (e : a = b) (h : Q (.bool true) s) : wpAny (model prog w) A (compareOp .Eq (.int a t) (.int b u)) Q E s := eq_int (by rw [e, beq_self_eq_true]; exact h)
theorem eqI_no {a b : Int} {t u : Tok} {Q : Value → Shared → Prop} (e : a ≠ b) (h : Q (.bool false) s) : wpAny (model prog w) A (compareOp .Eq (.int a t) (.int b u)) Q E s := eq_int (by rw [beq_eq_false_iff_ne.mpr e]; exact h)
theorem field_T {l : List Nat} {t : Tok} {Q : Value → Shared → Prop} (hl : l.length ≤ 100000) (h : ∀ t' k, Q (.str (T l) t') { s with toks := k }) : wpAny M A (formatField (.str (T l) t) Str.empty) Q E s :=
  formatField_str h (by rw [T_len, sizeLine_eq]; omega)
theorem len_l1 : (Str.ofString "(?>.*?").length = 6 := by decide
theorem len_l2 : (Str.ofString ")").length = 1 := by decide
theorem len_l3 : (Str.ofString "(?s:").length = 4 := by decide
theorem len_l4 : (Str.ofString ")\\Z").length = 3 := by decide
theorem len_l0 : Str.empty.length = 0 := by decide
theorem while_none {test : Expr} {body : List Stmt} {pos : Pos} {env : Env} {Q : Flow → Shared → Prop} (h : wpAny (model prog w) A (isTrue test env (eval test env)) (fun b s₂ => if b = true then False else Q .next s₂) (fun _ _ => False) s) : wpAny (model prog w) A (exec (.While test body [] pos) env) Q E s := by
  refine while_inv (fun n s' => s' = s) 0 rfl fun n s' e => ?_
  subst e
  refine wpAny_mono h (fun b s₂ q => ?_) fun _ _ q => q
  cases b with
  | false => simpa using q
  | true => simp at q
theorem len_L {l : Addr} {its : Array Value} {n : Int} {Q : Value → Shared → Prop} (hl : s.heap.IsList l its) (hz : its.size ≤ 100000) (hn : (its.size : Int) = n) (h : ∀ t k, Q (.int n t) { s with toks := k }) : wpAny (model prog w) A (call (.builtin "len") [.ref l]) Q E s := by
  subst hn
  first
    | exact len_list hl (by omega) (h _ _)
    | exact PySem.P.len_list hl (by omega) (h _ _)
    | exact call_len_list hl (by omega) (h _ _)
end
noncomputable def jhead : List Nat := [40, 63, 115, 58, 40, 63, 62, 46, 42, 63]
noncomputable def jtail : List Nat := [41, 46, 42, 41, 92, 90]
structure JLook (S l b r : Addr) (nn : Nat) (m : Str → Option Value) (i : Int) : Prop where
  inp : m (Str.ofString "inp") = some (.ref l)
  star : m (Str.ofString "STAR") = some (.ref S)
  res : m (Str.ofString "res") = some (.ref r)
  add : m (Str.ofString "add") = some (.ref b)
  n : ∃ t, m (Str.ofString "n") = some (.int (nn : Int) t)
  i : ∃ t, m (Str.ofString "i") = some (.int i t)
/-- the outer while: two turns -/
inductive JPh (fx : List Nat) (q : Nat) : Nat → Int → List Value → Prop
  | start : JPh fx q 1 0 []
  | mid (t : Tok) : JPh fx q 0 ((1 + q : Nat) : Int) [.str (T ([40, 63, 62, 46, 42, 63] ++ fx ++ [41])) t]
noncomputable def JO (fx : List Nat) (q : Nat) (S l b r : Addr) (g : Heap) (L : Addr) (s : Shared) (n : Nat) (s' : Shared) : Prop := ∃ h tk m items k i, s' = { s with heap := h, toks := tk } ∧ Fr g L h m ∧ News g L h [(b, boundApp r), (r, W.listOf (List.toArray items) k)] ∧ JLook S l b r (q + 2) m i ∧ JPh fx q n i items
theorem JO.elim {fx : List Nat} {q : Nat} {S l b r : Addr} {g : Heap} {L : Addr} {s : Shared} {n : Nat} {s' : Shared} {G : Shared → Prop} (hI : JO fx q S l b r g L s n s')
    (h : ∀ h2 tk m items k i, Fr g L h2 m → News g L h2 [(b, boundApp r), (r, W.listOf (List.toArray items) k)] → JLook S l b r (q + 2) m i → JPh fx q n i items → G { s with heap := h2, toks := tk }) : G s' := by
  obtain ⟨h2, tk, m, items, k, i, rfl, F, N, hl, ph⟩ := hI
  exact h _ _ _ _ _ _ F N hl ph
theorem JO.elimP {fx : List Nat} {q : Nat} {S l b r : Addr} {g : Heap} {L : Addr} {s : Shared} {n : Nat} {s' : Shared} {G : Shared → Prop} (hI : JO fx q S l b r g L s n s') (hp : 0 < s'.toks)
    (h : ∀ h2 tk m items k i, Fr g L h2 m → News g L h2 [(b, boundApp r), (r, W.listOf (List.toArray items) k)] → JLook S l b r (q + 2) m i → JPh fx q n i items → 0 < tk → G { s with heap := h2, toks := tk }) : G s' := JO.elim (G := fun s' => 0 < s'.toks → G s') hI h hp
noncomputable def JE (fx : List Nat) (q : Nat) (S l b r : Addr) (g : Heap) (L : Addr) (s : Shared) (s' : Shared) : Prop := ∃ h tk m k t t', s' = { s with heap := h, toks := tk } ∧ Fr g L h m ∧ News g L h [(b, boundApp r), (r, W.listOf (List.toArray [Value.str (T ([40, 63, 62, 46, 42, 63] ++ fx ++ [41])) t, Value.str (T [46, 42]) t']) k)] ∧ JLook S l b r (q + 2) m ((q + 2 : Nat) : Int)
theorem JE.elim {fx : List Nat} {q : Nat} {S l b r : Addr} {g : Heap} {L : Addr} {s : Shared} {s' : Shared} {G : Shared → Prop} (hI : JE fx q S l b r g L s s')
    (h : ∀ h2 tk m k t t', Fr g L h2 m → News g L h2 [(b, boundApp r), (r, W.listOf (List.toArray [Value.str (T ([40, 63, 62, 46, 42, 63] ++ fx ++ [41])) t, Value.str (T [46, 42]) t']) k)] → JLook S l b r (q + 2) m ((q + 2 : Nat) : Int) → G { s with heap := h2, toks := tk }) : G s' := by
  obtain ⟨h2, tk, m, k, t, t', rfl, F, N, hl⟩ := hI
  exact h _ _ _ _ _ _ F N hl
theorem JO.mk {fx : List Nat} {q : Nat} {S l b r L D : Addr} {g h : Heap} {s : Shared} {tk k : Nat} {m : Str → Option Value} {x : Str} {t : Tok} {o : Obj} {i : Int} (F : Fr g L h m) (N : News g L h [(D, o), (b, boundApp r), (r, W.listOf ((List.toArray []).push (.str x t)) k)]) (hx : x = T ([40, 63, 62, 46, 42, 63] ++ fx ++ [41])) (hl : JLook S l b r (q + 2) m i) (hi : i = ((1 + q : Nat) : Int)) : JO fx q S l b r g L s 0 { s with heap := h, toks := tk } := by
  subst hx hi
  exact ⟨h, tk, m, _, k, _, rfl, F, news_tail N, hl, .mid t⟩
theorem JE.mk {fx : List Nat} {q : Nat} {S l b r L : Addr} {g h : Heap} {s : Shared} {tk k : Nat} {m : Str → Option Value} {x : Str} {t t' : Tok} {i : Int} (F : Fr g L h m) (N : News g L h [(b, boundApp r), (r, W.listOf ((List.toArray [Value.str (T ([40, 63, 62, 46, 42, 63] ++ fx ++ [41])) t]).push (.str x t')) k)]) (hx : x = T [46, 42]) (hl : JLook S l b r (q + 2) m i) (hi : i = ((q + 2 : Nat) : Int)) : JE fx q S l b r g L s { s with heap := h, toks := tk } := by
  subst hx hi
  exact ⟨h, tk, m, k, t, t', rfl, F, N, hl⟩
theorem j_cut {prog : Program} {w : World} {A : Around} {E : Value → Shared → Prop} {s : Shared} {env : Env} {fx : List Nat} {q : Nat} {S b l r L : Addr} {g : Heap} {m : Str → Option Value} {test : Expr} {body rest : List Stmt} {pos : Pos} {Q : Flow → Shared → Prop}
    (h0 : 0 < s.toks) (F : Fr g L s.heap m) (N : News g L s.heap [(b, boundApp r), (r, W.listOf #[] 0)]) (hl : JLook S l b r (q + 2) m 0)
    (turn : ∀ n s', 0 < s'.toks → JO fx q S l b r g L s n s' → wpAny (model prog w) A (isTrue test env (eval test env)) (fun b' s₂ => if b' = true then wpAny (model prog w) A (execs body env) (fun f s₃ => match f with
        | .next | .cont => n = 1 ∧ JO fx q S l b r g L s 0 s₃ | .brk => JE fx q S l b r g L s s₃ | .ret _ => False) (fun _ _ => False) s₂ else False) (fun _ _ => False) s')
    (fin : ∀ s', JE fx q S l b r g L s s' → wpAny (model prog w) A (execs rest env) Q E s') : wpAny (model prog w) A (execs (.While test body [] pos :: rest) env) Q E s := by
  refine cut_execs1 (JE fx q S l b r g L s) (while_pos (JO fx q S l b r g L s) 1 h0 ⟨s.heap, s.toks, m, [], 0, 0, rfl, F, N, hl, .start⟩ fun n s' hp hI => ?_) fin
  refine wpAny_mono (turn n s' hp hI) (fun b' s₂ q => ?_) fun _ _ q => q
  cases b' with
  | false => simp at q
  | true =>
    simp only [if_true] at q ⊢
    refine wpAny_mono q (fun f s₃ r => ?_) fun _ _ q => q
    cases f with
    | next => exact ⟨0, by omega, r.2⟩
    | cont => exact ⟨0, by omega, r.2⟩
    | brk => exact ⟨rfl, r⟩
    | ret v => exact r.elim
/-- the inner while: the parts between two stars -/
noncomputable def JI (vs : List Value) (S l b r D : Addr) (nn : Nat) (items : List Value) (g : Heap) (L : Addr) (s : Shared) (n : Nat) (s' : Shared) : Prop := ∃ h tk m k k2 j, s' = { s with heap := h, toks := tk } ∧ Fr g L h m ∧ News g L h [(D, W.listOf (List.toArray (vs.take j)) k2), (b, boundApp r), (r, W.listOf (List.toArray items) k)] ∧ JLook S l b r nn m ((1 + j : Nat) : Int) ∧ m (Str.ofString "fixed") = some (.ref D) ∧ j ≤ vs.length ∧ n + j = vs.length
theorem JI.elim {vs : List Value} {S l b r D : Addr} {nn : Nat} {items : List Value} {g : Heap} {L : Addr} {s : Shared} {n : Nat} {s' : Shared} {G : Shared → Prop} (hI : JI vs S l b r D nn items g L s n s')
    (h : ∀ h2 tk m k k2 j, Fr g L h2 m → News g L h2 [(D, W.listOf (List.toArray (vs.take j)) k2), (b, boundApp r), (r, W.listOf (List.toArray items) k)] → JLook S l b r nn m ((1 + j : Nat) : Int) → m (Str.ofString "fixed") = some (.ref D) → j ≤ vs.length → n + j = vs.length → G { s with heap := h2, toks := tk }) : G s' := by
  obtain ⟨h2, tk, m, k, k2, j, rfl, F, N, hl, hf, hj, hn⟩ := hI
  exact h _ _ _ _ _ _ F N hl hf hj hn
theorem JI.elimP {vs : List Value} {S l b r D : Addr} {nn : Nat} {items : List Value} {g : Heap} {L : Addr} {s : Shared} {n : Nat} {s' : Shared} {G : Shared → Prop} (hI : JI vs S l b r D nn items g L s n s') (hp : 0 < s'.toks)
    (h : ∀ h2 tk m k k2 j, Fr g L h2 m → News g L h2 [(D, W.listOf (List.toArray (vs.take j)) k2), (b, boundApp r), (r, W.listOf (List.toArray items) k)] → JLook S l b r nn m ((1 + j : Nat) : Int) → m (Str.ofString "fixed") = some (.ref D) → j ≤ vs.length → n + j = vs.length → 0 < tk → G { s with heap := h2, toks := tk }) : G s' := JI.elim (G := fun s' => 0 < s'.toks → G s') hI h hp
noncomputable def JT (vs : List Value) (S l b r D : Addr) (nn : Nat) (items : List Value) (g : Heap) (L : Addr) (s : Shared) (n : Nat) (s' : Shared) : Prop := ∃ k', k' < n ∧ JI vs S l b r D nn items g L s k' s'
noncomputable def JX (vs : List Value) (S l b r D : Addr) (nn : Nat) (items : List Value) (g : Heap) (L : Addr) (s : Shared) (s' : Shared) : Prop := 0 < s'.toks ∧ JI vs S l b r D nn items g L s 0 s'
theorem JT.mk {vs : List Value} {S l b r D : Addr} {nn : Nat} {items : List Value} {g : Heap} {L : Addr} {s : Shared} {n : Nat} {h : Heap} {tk j k k2 : Nat} {m : Str → Option Value} {v : Value} (F : Fr g L h m) (N : News g L h [(D, W.listOf ((List.toArray (vs.take j)).push v) k2), (b, boundApp r), (r, W.listOf (List.toArray items) k)]) (hv : vs[j]? = some v) (hl : JLook S l b r nn m ((1 + j : Nat) + 1 : Int)) (hf : m (Str.ofString "fixed") = some (.ref D)) (hn : n + j = vs.length) : JT vs S l b r D nn items g L s n { s with heap := h, toks := tk } := by
  have hj : j < vs.length := (List.getElem?_eq_some_iff.mp hv).1
  refine ⟨n - 1, by omega, h, tk, m, k, k2, j + 1, rfl, F, ?_, ?_, hf, by omega, by omega⟩
  · have e : List.take (j + 1) vs = List.take j vs ++ [v] := by rw [List.take_succ, hv]; rfl
    rw [e, ← List.push_toArray]
    exact N
  · have e : ((1 + (j + 1) : Nat) : Int) = ((1 + j : Nat) : Int) + 1 := by omega
    rw [e]; exact hl
theorem j_cutI {prog : Program} {w : World} {A : Around} {E : Value → Shared → Prop} {s : Shared} {env : Env} {vs items : List Value} {nn k : Nat} {S b l r D L : Addr} {g : Heap} {m : Str → Option Value} {test : Expr} {body rest : List Stmt} {pos : Pos} {Q : Flow → Shared → Prop}
    (h0 : 0 < s.toks) (F : Fr g L s.heap m) (N : News g L s.heap [(D, W.listOf #[] 0), (b, boundApp r), (r, W.listOf (List.toArray items) k)]) (hl : JLook S l b r nn m ((1 + 0 : Nat) : Int)) (hf : m (Str.ofString "fixed") = some (.ref D))
    (turn : ∀ n s', 0 < s'.toks → JI vs S l b r D nn items g L s n s' → wpAny (model prog w) A (isTrue test env (eval test env)) (fun b' s₂ => if b' = true then wpAny (model prog w) A (execs body env) (fun f s₃ => match f with
        | .next | .cont => JT vs S l b r D nn items g L s n s₃ | .brk => False | .ret _ => False) (fun _ _ => False) s₂ else JX vs S l b r D nn items g L s s₂) (fun _ _ => False) s')
    (fin : ∀ s', 0 < s'.toks → JI vs S l b r D nn items g L s 0 s' → wpAny (model prog w) A (execs rest env) Q E s') : wpAny (model prog w) A (execs (.While test body [] pos :: rest) env) Q E s := by
  refine cut_execs1 (fun s' => 0 < s'.toks ∧ JI vs S l b r D nn items g L s 0 s') (while_pos (JI vs S l b r D nn items g L s) vs.length h0 ⟨s.heap, s.toks, m, k, 0, 0, rfl, F, N, hl, hf, Nat.zero_le _, Nat.add_zero _⟩ fun n s' hp hI => ?_) fun s' q => fin s' q.1 q.2
  refine wpAny_mono (turn n s' hp hI) (fun b' s₂ q => ?_) fun _ _ q => q
  cases b' with
  | false => exact ⟨rfl, q⟩
  | true =>
    simp only [if_true] at q ⊢
    refine wpAny_mono q (fun f s₃ r => ?_) fun _ _ q => q
    cases f with
    | next => exact r
    | cont => exact r
    | brk => exact r.elim
    | ret v => exact r.elim
theorem part_len (c : Nat) : (part c).length ≤ 4 := by
  unfold part esc
  split
  · simp
  · split
    · simp
    · split <;> simp
theorem parts_len (own : List Nat) : (own.flatMap part).length ≤ 4 * own.length := by
  induction own with
  | nil => simp
  | cons c l ih =>
    rw [List.flatMap_cons, List.length_append, List.length_cons]
    have := part_len c
    omega
theorem rows_P21_1 : True := by
  k_with_none
  k_with "ne" => (refine neN ?_; (try dsimp only); first | exact Nat.ne_of_lt (by assumption) | exact Nat.ne_of_gt (by assumption) | exact Mine.la0 (by assumption) | exact Mine.ga0 (by assumption) | exact Mine.la1 (by assumption) | exact Mine.ga1 (by assumption) | exact Mine.le1 (by assumption) | exact Mine.ge1 (by assumption) | exact Mine.la2 (by assumption) | exact Mine.ga2 (by assumption) | exact Mine.le2 (by assumption) | exact Mine.ge2 (by assumption) | exact Mine.la3 (by assumption) | exact Mine.ga3 (by assumption) | exact Mine.le3 (by assumption) | exact Mine.ge3 (by assumption) | exact Mine.la4 (by assumption) | exact Mine.ga4 (by assumption) | exact Mine.le4 (by assumption) | exact Mine.ge4 (by assumption) | exact Mine.la5 (by assumption) | exact Mine.ga5 (by assumption) | exact Mine.le5 (by assumption) | exact Mine.ge5 (by assumption) | exact Mine.la6 (by assumption) | exact Mine.ga6 (by assumption) | exact Mine.le6 (by assumption) | exact Mine.ge6 (by assumption) | exact Mine.la7 (by assumption) | exact Mine.ga7 (by assumption) | exact Mine.le7 (by assumption) | exact Mine.ge7 (by assumption) | exact Mine.la8 (by assumption) | exact Mine.ga8 (by assumption) | exact Mine.le8 (by assumption) | exact Mine.ge8 (by assumption))
  k_with "room" => (first | exact Mine.room0 (by assumption) | exact Mine.room1 (by assumption) (by decide) | exact Mine.room2 (by assumption) (by decide))
  k_with "units" => (first | exact Mine.room0 (by assumption) | exact Mine.room1 (by assumption) (by decide) | exact Mine.room2 (by assumption) (by decide))
  k_with "size" => (first | exact Nat.zero_le _ | with_reducible exact Mine.szT (by assumption) | with_reducible exact Mine.szT1 (by assumption) | with_reducible exact Mine.szK (by assumption) | with_reducible exact Mine.szK1 (by assumption))
  k_with "LeaveM" => (k_dflt (refine' Mine.leaveM_ ?k1 ?k2 ?_; (case k1 => k_asm); (case k2 => k_asm); k_whole); intro kF kS kN kf; (try dsimp only))
  k_with "Kont" => ((try dsimp only); first | (refine' Mine.kont_next ?L_k ?_; (case L_k => assumption); intro tkp htkp) | (refine' Mine.kont_ret ?L_k ?_; (case L_k => assumption)) | (refine' Mine.kont_brk ?L_k ?_; (case L_k => assumption)) | (refine' Mine.kont_cont ?L_k ?_; (case L_k => assumption)))
  k_with "execs cons" => (k_here; first | refine Mine.execs_one ?_ | ((first | (refine' Mine.execs_kont ?kp_k ?_; (case kp_k => assumption)) | (refine Mine.gen_pos ?kp_k ?_; (case kp_k => first | assumption | exact Nat.succ_pos _ | omega); intro tkp htkp; refine Mine.execs_kont htkp ?_)); intro K9 hK9))
  k_with "getAttr ref" => (k_here; k_dflt (refine' Mine.ba_getAttr ?F ?N ?hm ?_; (case F => k_asm); (case N => k_asm); (case hm => k_mem); k_whole; intro b9 h9 tk9 F9 N9 lt9; (try k_lt lt9); (try dsimp only)))
  k_with "callWith ref" => (k_here; (with_reducible show wpAny _ _ (callWith _ (Value.ref _) _ (backTo _ (starEach (_ :: _) _)) []) _ _ _); k_dflt (refine' Mine.ba_callWith ?N ?hm ?_; (case N => k_asm); (case hm => k_mem); k_whole))
  k_with "And" => ((with_reducible show Mine.AppAt _ _ _ ∧ _); k_dflt (refine ⟨Mine.AppAt.of (by k_asm) (by k_mem), ?_⟩); (try dsimp only [List.nil_append, List.cons_append]))
  k_with "call ref" => (k_here; k_dflt (refine' Mine.ba_call ?F ?N ?hb ?U ?hz ?_; (case F => k_asm); (case N => k_asm); (case hb => k_mem); (case U => k_upd); (case hz => first | assumption | (simp only [Array.size_push]; rw [PySem.sizeLine_eq]; first | omega | simp) | size_fits); k_whole; intro h9 F9 N9; (try dsimp only)))
  k_with "exec While BoolOp" => (k_here; refine Mine.hold ?_)
  k_with "exec While Compare" => (k_here; refine Mine.hold ?_)
  k_with "execs cons" => ((with_reducible show wpAny _ _ (execs (Stmt.While _ _ _ _ :: _) _) _ _ _); refine Mine.hold ?_)
  k_with "eval Name" => (k_here; k_dflt (refine' nameX_L ?nF ?nv ?_ ?na ?nb ?nc; (case nF => k_asm); (case nv => first | exact rfl | assumption); (case na => rfl); (case nb => rfl); (case nc => decide); k_whole))
  k_with "loadName" => (k_here; k_dflt (refine' Mine.loadX_L ?nF ?nv ?_ ?na ?nb; (case nF => k_asm); (case nv => first | exact rfl | assumption); (case na => rfl); (case nb => rfl); k_whole))
  k_with "call builtin:len" => (k_here; k_dflt (refine' Mine.len_L ?hl ?hz ?hn ?_; (case hl => is_list); (case hz => assumption); (case hn => assumption); k_whole; intro t9 k9; (try dsimp only)))
  k_with "subscriptTail Name Name ref int" => (k_here; k_dflt (refine' Mine.item_L ?hl ?hx ?h0 ?hi ?_ ?hs ?hg; (case hl => is_list); (case hx => assumption); (case h0 => first | exact Mine.nn0 | exact Mine.nn1 | exact Mine.nn2 | exact Mine.nn3 | omega); (case hi => omega); (case hs => with_unfolding_all rfl); (case hg => (intro _; with_unfolding_all rfl)); k_whole; (try dsimp only)))
  k_with "compareOp Lt int int" => (k_here; k_dflt ((first | (refine' Mine.lt_yes ?hx ?_; (case hx => first | assumption | omega); k_whole) | (refine' Mine.lt_no ?hx ?_; (case hx => first | assumption | omega); k_whole)); (try dsimp only)))
  k_with "compareOp Eq int int" => (k_here; k_dflt ((first | (refine' Mine.eqI_yes ?hx ?_; (case hx => omega); k_whole) | (refine' Mine.eqI_no ?hx ?_; (case hx => omega); k_whole)); (try dsimp only)))
  k_with "call builtin:str.join" => (k_here; k_dflt ((refine' Mine.join_M0 (sep := []) ?hx ?hl ?hi ?hsep ?hok ?_; (case hx => decide); (case hl => is_list); (case hi => assumption); (case hsep => decide); (case hok => assumption); k_whole; intro t9 k9; (try dsimp only))))
  k_with "formatField str" => (k_here; k_dflt ((refine' Mine.field_T ?hl ?_; (case hl => assumption); k_whole; intro t9 k9; (try dsimp only))))
  k_with "le" => ((with_reducible show Str.length _ ≤ sizeLine); (simp only [strLen_append, Mine.T_len, sizeLine_eq, Mine.len_l0, Mine.len_l1, Mine.len_l2, Mine.len_l3, Mine.len_l4]); omega)
  k_with "joinParts" => (k_here; (first | (with_reducible show wpAny _ _ (joinParts _ []) _ _ _) | (with_reducible show wpAny _ _ (joinParts _ (evalEach [] _)) _ _ _)); k_dflt (refine' joinParts_nil ?_ ?hsz; (case hsz => (simp only [strLen_append, Mine.T_len, sizeLine_eq, Mine.len_l0, Mine.len_l1, Mine.len_l2, Mine.len_l3, Mine.len_l4]); omega); k_whole))
  k_with "compareOp IsNot str ref" => (k_here; k_dflt (refine Mine.isnot_str_ref ?_); (try dsimp only))
  k_with "compareOp IsNot ref ref" => (k_here; k_dflt (refine wpAny_isNot_ref_self ?_); (try dsimp only))
  k_with "compareOp Is ref ref" => (k_here; k_dflt (refine wpAny_is_ref_self ?_); (try dsimp only))
  trivial
theorem c_join (w : World) (own : List Nat) (S l : Addr) (vs : List Value) (hv : TL vs (own.map part)) (hown : own ≠ []) (hlen : own.length ≤ 1000) : Tell w 111 3 40 [.ref l, .ref S] (fun h => h.IsList l (List.toArray (.ref S :: vs ++ [.ref S]))) (RStr (jhead ++ own.flatMap part ++ jtail)) := by
  have hvl : vs.length = own.length := by rw [hv.len, List.length_map]
  have hok1 : ((own.map part).map (·.length)).sum + (own.map part).length * 64 ≤ 1000000 := by
    have e : ((own.map part).map (·.length)).sum ≤ 4 * own.length := by
      clear hv hown hlen hvl
      induction own with
      | nil => simp
      | cons c l ih =>
        have := part_len c
        simp only [List.map_cons, List.sum_cons, List.length_cons] at ih ⊢
        omega
    rw [List.length_map]; omega
  have hflat : List.intercalate [] (own.map part) = own.flatMap part := inter_nil _
  have hfl : (List.intercalate [] (own.map part)).length ≤ 100000 := by
    rw [hflat]
    have := parts_len own
    omega
  have hzz : (List.toArray (Value.ref S :: vs ++ [.ref S])).size ≤ 100000 := by simp; omega
  refine Tell.of ?_
  k_fill
  intro p loose mean mg mb dp un gd cn cs a ccd cl outer A₀ base h₀ L m s Q E X B F T hk hd hu ht hn hret
  refine wpAny_call ?_
  k_dflt (refine' Mine.enterP ?k1 ?k2 ?k3 ?k5 ?kA ?kF ?kK ?k6 ?k7 ?k8 ?k9 ?kB ?_ ?c2 ?c3 ?c4 ?c5; (case kA => exact rfl); (case kF => exact rfl); (case kK => assumption); (case k1 => k_asm); (case k2 => k_asm); (case k3 => k_asm); (case k5 => k_asm); (case k6 => k_is); (case k7 => k_is); (case k8 => ktr_room); (case k9 => exact BindsTo.of_eq rfl); (case c5 => decide); (case kB => exact locs rfl); (case c2 => exact rfl); (case c3 => exact rfl); (case c4 => exact rfl); k_whole; intro L' h' F' N' B' X' T'; (try dsimp only); (try k_fold))
  have hnn : (((List.toArray (Value.ref S :: vs ++ [.ref S])).size : Nat) : Int) = ((vs.length + 2 : Nat) : Int) := by simp; omega
  have hi0 : (List.toArray (Value.ref S :: vs ++ [.ref S]))[(0 : Int).toNat]? = some (.ref S) := rfl
  k_steps
  unfold Hold
  refine wpAny_execs_cons (while_none ?_)
  k_steps
  unfold Hold
  (rename Fr _ _ _ _ => FX); (rename News _ _ _ _ => NX)
  refine j_cut (fx := own.flatMap part) (q := vs.length) (S := S) (by first | assumption | exact Nat.succ_pos _ | omega) FX (news_tail NX) ⟨rfl, rfl, rfl, rfl, ⟨_, rfl⟩, ⟨_, rfl⟩⟩ ?_ ?_
  · intro n s' hp hI
    refine JO.elimP hI hp ?_
    clear hI hp
    intro h2 tk2 m2 items k2 i2 F2 N2 hl2 ph hp
    have lp := hl2.inp
    have lS := hl2.star
    have lr := hl2.res
    have la := hl2.add
    obtain ⟨tn, ln⟩ := hl2.n
    obtain ⟨ti, li⟩ := hl2.i
    clear FX NX
    cases ph with
    | start =>
      have hn0 : (0 : Int) < ((vs.length + 2 : Nat) : Int) := by omega
      obtain ⟨z1, u1, hx1⟩ : ∃ z u, (List.toArray (Value.ref S :: vs ++ [.ref S]))[((0 : Int) + 1).toNat]? = some (.str z u) := by
        have hpos : 0 < vs.length := by rw [hvl]; exact List.length_pos_iff.mpr hown
        obtain ⟨x, t, hx, _⟩ := hv.item (List.getElem?_eq_getElem hpos)
        refine ⟨Mine.T x, t, ?_⟩
        rw [← hx]
        simp [hpos]
      k_steps
      unfold Hold
      (rename Fr _ _ _ _ => FX); (rename News _ _ _ _ => NX)
      refine j_cutI (vs := vs) (S := S) (by first | assumption | exact Nat.succ_pos _ | omega) FX NX ⟨lp, lS, lr, la, ⟨_, ln⟩, ⟨_, rfl⟩⟩ rfl ?_ ?_
      · intro n3 s3 hp3 hI
        refine JI.elimP hI hp3 ?_
        clear hI hp3
        intro h3 tk3 m3 k3 k4 j F3 N3 hl3 hf3 hj hnj hp3
        clear FX NX lp lS lr la ln li
        have lp := hl3.inp
        have lS := hl3.star
        have lr := hl3.res
        have la := hl3.add
        obtain ⟨tn3, ln⟩ := hl3.n
        obtain ⟨ti3, li⟩ := hl3.i
        have hn3 : ((1 + j : Nat) : Int) < ((vs.length + 2 : Nat) : Int) := by omega
        by_cases hjv : j < vs.length
        · obtain ⟨x, t, hx, _⟩ := hv.item (List.getElem?_eq_getElem hjv)
          have hx3 : (List.toArray (Value.ref S :: vs ++ [.ref S]))[((1 + j : Nat) : Int).toNat]? = some (.str (Mine.T x) t) := by
            rw [← hx, Int.toNat_natCast, Nat.add_comm]
            rw [List.getElem?_toArray, List.cons_append, List.getElem?_cons_succ, List.getElem?_append_left hjv, List.getElem?_eq_getElem hjv]
          k_steps
          (rename Fr _ _ _ _ => FZ); (rename News _ _ _ _ => NZ)
          exact JT.mk FZ NZ (by rw [List.getElem?_eq_getElem hjv, hx]) ⟨lp, lS, lr, la, ⟨_, ln⟩, ⟨_, rfl⟩⟩ hf3 hnj
        · have hx3 : (List.toArray (Value.ref S :: vs ++ [.ref S]))[((1 + j : Nat) : Int).toNat]? = some (.ref S) := by
            have e : j = vs.length := by omega
            rw [e, Int.toNat_natCast, Nat.add_comm]; simp
          k_steps
          exact ⟨by assumption, h3, _, m3, k3, k4, j, rfl, F3, N3, ⟨lp, lS, lr, la, ⟨_, ln⟩, ⟨_, li⟩⟩, hf3, hj, by omega⟩
      · intro s3 hp3 hI
        refine JI.elimP hI hp3 ?_
        clear hI hp3
        intro h3 tk3 m3 k3 k4 j F3 N3 hl3 hf3 hj hnj hp3
        clear FX NX lp lS lr la ln li
        have lp := hl3.inp
        have lS := hl3.star
        have lr := hl3.res
        have la := hl3.add
        obtain ⟨tn3, ln⟩ := hl3.n
        obtain ⟨ti3, li⟩ := hl3.i
        have ej : j = vs.length := by omega
        subst ej
        rw [List.take_length] at N3
        have hst : Str.empty ++ Str.ofString "(?>.*?" ++ Mine.T (List.intercalate [] (List.map part own)) ++ Str.ofString ")" = Mine.T ([40, 63, 62, 46, 42, 63] ++ List.flatMap part own ++ [41]) := by
          rw [hflat, show Str.empty ++ Str.ofString "(?>.*?" = Mine.T [40, 63, 62, 46, 42, 63] by decide, show Str.ofString ")" = Mine.T [41] by decide, T_app, T_app]
        k_steps
        · trivial
        · (rename Fr _ _ _ _ => FZ); (rename News _ _ _ _ => NZ)
          exact JO.mk FZ NZ hst ⟨lp, lS, lr, la, ⟨_, ln⟩, ⟨_, li⟩⟩ rfl
    | mid tz =>
      have hn0 : ((1 + vs.length : Nat) : Int) < ((vs.length + 2 : Nat) : Int) := by omega
      have hx0 : (List.toArray (Value.ref S :: vs ++ [.ref S]))[((1 + vs.length : Nat) : Int).toNat]? = some (.ref S) := by
        rw [Int.toNat_natCast, Nat.add_comm]; simp
      k_steps
      (rename Fr _ _ _ _ => FX); (rename News _ _ _ _ => NX)
      exact JE.mk FX NX (by decide) ⟨lp, lS, lr, la, ⟨_, ln⟩, ⟨_, rfl⟩⟩ (by omega)
  · intro s' hI
    refine JE.elim hI ?_
    clear hI
    intro h2 tk2 m2 k2 tz tz' F2 N2 hl2
    have lp := hl2.inp
    have lS := hl2.star
    have lr := hl2.res
    have la := hl2.add
    obtain ⟨tn, ln⟩ := hl2.n
    obtain ⟨ti, li⟩ := hl2.i
    have hTL : TL (List.toArray [Value.str (Mine.T ([40, 63, 62, 46, 42, 63] ++ List.flatMap part own ++ [41])) tz, Value.str (Mine.T [46, 42]) tz']).toList [[40, 63, 62, 46, 42, 63] ++ List.flatMap part own ++ [41], [46, 42]] := .cons (.cons .nil _ _) _ _
    have hok2 : (([[40, 63, 62, 46, 42, 63] ++ List.flatMap part own ++ [41], [46, 42]] : List (List Nat)).map (·.length)).sum + ([[40, 63, 62, 46, 42, 63] ++ List.flatMap part own ++ [41], [46, 42]] : List (List Nat)).length * 64 ≤ 1000000 := by
      have := parts_len own
      simp only [List.map_cons, List.map_nil, List.sum_cons, List.sum_nil, List.length_append, List.length_cons, List.length_nil]
      omega
    have hfl2 : (List.intercalate [] [[40, 63, 62, 46, 42, 63] ++ List.flatMap part own ++ [41], [46, 42]]).length ≤ 100000 := by
      have := parts_len own
      rw [inter_nil]
      simp only [List.flatten_cons, List.flatten_nil, List.length_append, List.length_cons, List.length_nil]
      omega
    k_steps
    refine hret _ _ _ _ kF kS News.nil (fun q hq => absurd hq List.not_mem_nil) ⟨⟨_, congrArg (fun z => Value.str z _) ?_⟩, rfl⟩
    rw [inter_nil, show Str.empty ++ Str.ofString "(?s:" = Mine.T [40, 63, 115, 58] by decide, show Str.ofString ")\\Z" = Mine.T [41, 92, 90] by decide, T_app, T_app]
    simp [jhead, jtail]
end Mine
end
theorem Mine.walk_off_P21 : True := by
  w_top off
  k_with_none
  trivial
section
open PySem PySem.W PyProof.Rows PySem.Calls PySem.Spec
open PySem.Builtin
set_option Elab.async false
set_option maxRecDepth 100000
set_option maxHeartbeats 8000000
namespace Mine
theorem ob_mro : mroOf (.type "object") = pure [.type "object"] := by rw [mroOf_type]; kernel_rfl
theorem ob_look : typeLookup (.type "object") "__new__" = pure (some (.builtin "object.__new__")) := by rw [typeLookup_type, builtinLookup_eq_fast]; kernel_rfl
theorem ob_sub : isSubtype (.type "object") (.type "object") = pure true := by rw [isSubtype_type]; kernel_rfl
theorem ob_init : Slot "object" "__init__" "object.__init__" :=
  .of (owner := "object") (n := "__init__") (by rw [typeLookup_type, builtinLookup_eq_fast]; kernel_rfl) (by decide +kernel) (by decide +kernel) (by decide +kernel)
    (by first | exact .inl (by decide +kernel) | exact .inr (by decide +kernel)) (by rw [isSubtype_type]; kernel_rfl)
theorem ob_called : TypeCalled "object" "object.__new__" "object.__init__" :=
  ⟨by decide +kernel, by decide +kernel, ⟨_, _, ob_mro⟩, madeBy_type ob_mro ob_look (by decide +kernel), by decide +kernel, ob_sub, ob_init⟩
theorem ob_type : checkTypeCall "object" ⟨[], []⟩ = pure () := by kernel_rfl
theorem ob_new : checkBuiltinCall "object.__new__" ⟨[.type "object"], []⟩ = pure () := by kernel_rfl
theorem ob_made : Bind.madeHere "object.__new__" (.type "object") = pure () := by kernel_rfl
theorem ob_args (a : Value) : argsOk "object.__init__" ⟨[a], []⟩ := by unfold argsOk; kernel_rfl
noncomputable def plainObj : Obj := { cls := .type "object", data := .plain }
theorem ob_meets : Meets (Builtin.«object.__new__» ⟨[.type "object"], []⟩) (fun _ R s => R (.ok (.ret (.ref s.heap.objs.size))) { s with heap := s.heap.push plainObj }) :=
  Meets.of_wp fun prog w A R s hs => by
    obtain ⟨hp, g, d, tk, os⟩ := s
    have f2 := ob_made
    have f3 : Bind.madeBy (.type "object") = pure (some "object.__new__") := ob_called.made
    unfold Builtin.«object.__new__»
    repeat (any_goals (first | assumption | wp_step))
    exact ⟨_, rfl, hs⟩
theorem ob_imeets (o : Value) : Meets (Builtin.«object.__init__» ⟨[o], []⟩) (fun _ R s => R (.ok (.ret .none)) s) :=
  Meets.of_wp fun prog w A R s hs => wpAny_pure ⟨_, rfl, hs⟩
section
variable {prog : Program} {w : World} {A : Around} {E : Value → Shared → Prop} {s : Shared}
theorem ob_call {Q : Value → Shared → Prop} (h : Q (.ref s.heap.objs.size) { s with heap := s.heap.push plainObj }) : wpAny (model prog w) A (call (.type "object") []) Q E s := by
  refine callType_meets (Q₁ := fun v s' => v = .ref s.heap.objs.size ∧ s' = { s with heap := s.heap.push plainObj }) ob_called ob_type ob_new F.entry_object_new F.entry_object_init ob_meets ⟨rfl, rfl⟩ ?_
  rintro obj s₁ ⟨rfl, rfl⟩
  exact ⟨⟨_, Heap.get?_push_size _ rfl, rfl⟩, ob_args _, _, ob_imeets _, rfl, h⟩
theorem ob_callM {h₀ : Heap} {L : Addr} {m : Str → Option Value} {news : List (Addr × Obj)} {Q : Value → Shared → Prop} (F₀ : Fr h₀ L s.heap m) (N₀ : News h₀ L s.heap news)
    (h : ∀ S h', Fr h₀ L h' m → News h₀ L h' ((S, plainObj) :: news) → (∀ p ∈ news, p.1 < S) → Q (.ref S) { s with heap := h' }) : wpAny (model prog w) A (call (.type "object") []) Q E s :=
  ob_call (h s.heap.objs.size _ (F₀.push _) (News.push F₀ N₀ plainObj) fun p hp => Heap.lt_size (N₀ p hp).1)
end
end Mine
end
theorem Mine.walk_off_PO : True := by
  w_top off
  k_with_none
  trivial
section
open PySem PySem.W PyProof.Rows PySem.Calls PySem.Spec
set_option Elab.async false
set_option maxRecDepth 100000
set_option maxHeartbeats 8000000
namespace Mine
theorem rows_P22_1 : True := by
  k_with_none
  k_with "ne" => (refine neN ?_; (try dsimp only); first | exact Nat.ne_of_lt (by assumption) | exact Nat.ne_of_gt (by assumption) | exact Mine.la0 (by assumption) | exact Mine.ga0 (by assumption) | exact Mine.la1 (by assumption) | exact Mine.ga1 (by assumption) | exact Mine.le1 (by assumption) | exact Mine.ge1 (by assumption) | exact Mine.la2 (by assumption) | exact Mine.ga2 (by assumption) | exact Mine.le2 (by assumption) | exact Mine.ge2 (by assumption) | exact Mine.la3 (by assumption) | exact Mine.ga3 (by assumption) | exact Mine.le3 (by assumption) | exact Mine.ge3 (by assumption) | exact Mine.la4 (by assumption) | exact Mine.ga4 (by assumption) | exact Mine.le4 (by assumption) | exact Mine.ge4 (by assumption) | exact Mine.la5 (by assumption) | exact Mine.ga5 (by assumption) | exact Mine.le5 (by assumption) | exact Mine.ge5 (by assumption) | exact Mine.la6 (by assumption) | exact Mine.ga6 (by assumption) | exact Mine.le6 (by assumption) | exact Mine.ge6 (by assumption) | exact Mine.la7 (by assumption) | exact Mine.ga7 (by assumption) | exact Mine.le7 (by assumption) | exact Mine.ge7 (by assumption) | exact Mine.la8 (by assumption) | exact Mine.ga8 (by assumption) | exact Mine.le8 (by assumption) | exact Mine.ge8 (by assumption))
  k_with "room" => (first | exact Mine.room0 (by assumption) | exact Mine.room1 (by assumption) (by decide) | exact Mine.room2 (by assumption) (by decide))
  k_with "units" => (first | exact Mine.room0 (by assumption) | exact Mine.room1 (by assumption) (by decide) | exact Mine.room2 (by assumption) (by decide))
  k_with "size" => (first | exact Nat.zero_le _ | with_reducible exact Mine.szT (by assumption) | with_reducible exact Mine.szT1 (by assumption) | with_reducible exact Mine.szK (by assumption) | with_reducible exact Mine.szK1 (by assumption))
  k_with "LeaveM" => (k_dflt (refine' Mine.leaveM_ ?k1 ?k2 ?_; (case k1 => k_asm); (case k2 => k_asm); k_whole); intro kF kS kN kf; (try dsimp only))
  k_with "Kont" => ((try dsimp only); first | (refine' Mine.kont_next ?L_k ?_; (case L_k => assumption); intro tkp htkp) | (refine' Mine.kont_ret ?L_k ?_; (case L_k => assumption)) | (refine' Mine.kont_brk ?L_k ?_; (case L_k => assumption)) | (refine' Mine.kont_cont ?L_k ?_; (case L_k => assumption)))
  k_with "execs cons" => (k_here; first | refine Mine.execs_one ?_ | ((first | (refine' Mine.execs_kont ?kp_k ?_; (case kp_k => assumption)) | (refine Mine.gen_pos ?kp_k ?_; (case kp_k => first | assumption | exact Nat.succ_pos _ | omega); intro tkp htkp; refine Mine.execs_kont htkp ?_)); intro K9 hK9))
  k_with "call ref" => (k_here; k_dflt (refine' Mine.Tell.use (Mine.c_join _ _ _ _ _ (by assumption) (by assumption) (by assumption)) ?X ?B ?F ?N ?T ?hk ?hd ?hu ?ht ?hn ?_; (case X => k_asm); (case B => k_asm); (case F => k_asm); (case N => k_asm); (case T => k_asm); (case hk => first | exact rfl | assumption); (case hd => ktr_room); (case hu => ktr_units); (case ht => first | assumption | exact Nat.succ_pos _ | omega | (dsimp only; omega)); (case hn => is_list); k_whole; intro v9 own9 h9 tk9 F9 N9 ne9 p9 R9; obtain ⟨⟨t9, e9⟩, o9⟩ := R9; subst e9; subst o9; (try simp only [List.nil_append] at N9); (try dsimp only); (try k_fold)))
  k_with "call ref" => (k_here; k_dflt (refine' Mine.TellP.use (Mine.c_translate0 _ _ _ _ _ (by assumption) (by assumption) (by assumption)) ?X ?B ?F ?N ?T ?C ?U ?hp ?hk ?hd ?hu ?ht ?hn ?_; (case X => k_asm); (case B => k_asm); (case F => k_asm); (case N => k_asm); (case T => k_asm); (case C => assumption); (case U => k_updF); (case hp => assumption); (case hk => first | exact rfl | assumption); (case hd => ktr_room); (case hu => ktr_units); (case ht => first | assumption | exact Nat.succ_pos _ | omega | (dsimp only; omega)); (case hn => trivial); k_whole; intro v9 own9 ps9 h9 tk9 F9 N9 ne9 hp9 p9 R9; (try dsimp only at N9); obtain ⟨l8, vs8, n8, e8, o8, hv8⟩ := R9; subst e8; subst o8; (try simp only [List.cons_append, List.nil_append] at N9); (try dsimp only)))
  k_with "call type:object" => (k_here; k_dflt (refine' Mine.ob_callM ?F ?N ?_; (case F => k_asm); (case N => k_asm); k_whole); intro S9 h9 F9 N9 lt9; (try k_lt lt9); (try dsimp only))
  trivial
theorem c_translate (w : World) (own : List Nat) (t : Tok) (hown : own ≠ []) (hlen : own.length ≤ 1000) (hl1 : (patt own).length ≤ 100000) : TellP w 85 5 80 [.str (T (patt own)) t] lamPos (fun _ => True) (RStr (jhead ++ own.flatMap part ++ jtail)) := by
  refine TellP.of ?_
  k_fill
  intro p loose mean mg mb dp un gd cn cs a ccd cl outer A₀ base h₀ L m s ps Q E X B F T C N hps hk hd hu ht hn hret
  refine wpAny_call ?_
  k_dflt (refine' Mine.enterG ?k1 ?k2 ?k3 ?k5 ?kC ?kN ?kA ?kF ?kK ?k6 ?k7 ?k8 ?k9 ?kB ?_ ?c2 ?c3 ?c4 ?c5; (case kA => exact rfl); (case kF => exact rfl); (case kK => assumption); (case k1 => k_asm); (case k2 => k_asm); (case k3 => k_asm); (case k5 => k_asm); (case kC => assumption); (case kN => assumption); (case k6 => k_is); (case k7 => k_is); (case k8 => ktr_room); (case k9 => exact BindsTo.of_eq rfl); (case c5 => decide); (case kB => exact locs rfl); (case c2 => exact rfl); (case c3 => exact rfl); (case c4 => exact rfl); k_whole; intro g' L' h' eg' F' N' B' X' T' C' S'; (try dsimp only); (try k_fold))
  k_steps
  exact hret _ _ _ _ _ kF (eg' ▸ kS) (news_tail (news_tail kN)) (fun q hq => absurd hq List.not_mem_nil) (by assumption) ⟨⟨_, rfl⟩, rfl⟩
end Mine
end
theorem Mine.walk_off_P22 : True := by
  w_top off
  k_with_none
  trivial
section
open PySem PySem.W PyProof.Rows PySem.Calls PySem.Spec
set_option Elab.async false
set_option maxRecDepth 100000
set_option maxHeartbeats 8000000
namespace Mine
section
variable {prog : Program} {w : World} {A : Around} {E : Value → Shared → Prop} {s : Shared} {M : Model} {h₀ : Heap} {L : Addr} {m : Str → Option Value} {news : List (Addr × Obj)}
theorem neS_no {x y : Str} {t u : Tok} {Q : Value → Shared → Prop} (hx : x = y) (h : Q (.bool false) s) : wpAny (model prog w) A (compareOp .NotEq (.str x t) (.str y u)) Q E s := by
  subst hx
  have := SeqAt.RcNeAt.str_str (A := A) (s := s) x t x u prog w E Q
  exact this (by simpa using h)
theorem inT_no {x : Str} {l : List Nat} {d : Nat} {t u : Tok} {Q : Value → Shared → Prop} (hx : x = T l) (hd : d ∉ l) (h : Q (.bool false) s) : wpAny (model prog w) A (compareOp .In (.str (T [d]) u) (.str x t)) Q E s := by
  subst hx
  refine in_str ?_
  rw [found_T, decide_eq_false hd]
  exact h
theorem slice_to {value slice : Expr} {P : List Nat} {j : Int} {uj : Tok} {x : List Nat} {t : Tok} {Q : Value → Shared → Prop} (F : Fr h₀ L s.heap m) (N : News h₀ L s.heap news) (hj : P.take j.toNat = x) (h0 : 0 ≤ j) (h1 : j ≤ P.length) (hl : P.length ≤ 100000)
    (h : ∀ h' t' k, Fr h₀ L h' m → News h₀ L h' news → Q (.str (T x) t') { s with heap := h', toks := k })
    (hs : subscripted slice false (.str (T P) t) (.ref s.heap.objs.size) = operate [.ref s.heap.objs.size, .str (T P) t] (getItem (.str (T P) t) (.ref s.heap.objs.size)) := by with_unfolding_all rfl)
    (ht : ∀ r, letTemporaryGo value (.str (T P) t) r = pure () := by intro _; with_unfolding_all rfl) :
    wpAny (model prog w) A (subscriptTail value slice (.str (T P) t) (.ref s.heap.objs.size)) Q E { s with heap := s.heap.push { cls := .type "slice", data := .fields #[.none, .int j uj, .none] } } := by
  subst hj
  refine slice_strN_ns F N (fun h' t' k F' N' => ?_) hs ht (by rw [T_len, sizeLine_eq]; omega)
  have e := slice_closes_toL (x := T P) (j := j) h0 (by rw [T_len]; omega)
  rw [eq_of_beq e, T_cps]
  have e2 : (j - 0).toNat = j.toNat := by omega
  rw [e2, show (0 : Int).toNat = 0 from rfl, List.drop_zero]
  exact h h' t' k F' N'
theorem slice_from {value slice : Expr} {P : List Nat} {i : Int} {ui : Tok} {x : List Nat} {t : Tok} {Q : Value → Shared → Prop} (F : Fr h₀ L s.heap m) (N : News h₀ L s.heap news) (hi : P.drop i.toNat = x) (h0 : 0 ≤ i) (h1 : i ≤ P.length) (hl : P.length ≤ 100000)
    (h : ∀ h' t' k, Fr h₀ L h' m → News h₀ L h' news → Q (.str (T x) t') { s with heap := h', toks := k })
    (hs : subscripted slice false (.str (T P) t) (.ref s.heap.objs.size) = operate [.ref s.heap.objs.size, .str (T P) t] (getItem (.str (T P) t) (.ref s.heap.objs.size)) := by with_unfolding_all rfl)
    (ht : ∀ r, letTemporaryGo value (.str (T P) t) r = pure () := by intro _; with_unfolding_all rfl) :
    wpAny (model prog w) A (subscriptTail value slice (.str (T P) t) (.ref s.heap.objs.size)) Q E { s with heap := s.heap.push { cls := .type "slice", data := .fields #[.int i ui, .none, .none] } } := by
  subst hi
  refine slice_strN_sn F N (fun h' t' k F' N' => ?_) hs ht (by rw [T_len, sizeLine_eq]; omega)
  rw [slice_from_eq (x := T P) (i := i) (b := ((T P).length : Int)) h0 (by rw [T_len]; omega) rfl, T_cps]
  rw [List.take_of_length_le (by rw [List.length_drop, T_len]; omega)]
  exact h h' t' k F' N'
theorem last_T {value slice : Expr} {P : List Nat} {c : Nat} {t u : Tok} {Q : Value → Shared → Prop} (hl : P.length ≤ 100000) (h : Q (.str (T [c]) s.toks) { s with toks := s.toks + 1 })
    (hs : subscripted slice false (.str (T (P ++ [c])) t) (.int (-1) u) = operate [.str (T (P ++ [c])) t, .int (-1) u] (getItem (.str (T (P ++ [c])) t) (.int (-1) u)) := by with_unfolding_all rfl) (hg : ∀ r, letTemporaryGo value (.str (T (P ++ [c])) t) r = pure () := by intro _; with_unfolding_all rfl) :
    wpAny (model prog w) A (subscriptTail value slice (.str (T (P ++ [c])) t) (.int (-1) u)) Q E s := by
  refine subscriptTail_builtin (typeIs_str _ _ _) F.slot_str_getitem.lookup (PySem.P.getItem_str (c := c) (by decide) ?_ h) hs hg
  rw [T_len, StrLaws.seqIndex_neg (by decide) (by simp; omega)]
  have e : ((-1 : Int) + ((P ++ [c]).length : Int)).toNat = P.length := by rw [List.length_append]; simp; omega
  rw [e]
  simp [T]
theorem iadd_T {a b : List Nat} {t u : Tok} {Q : Value → Shared → Prop} (hl : a.length ≤ 100000) (hl2 : b.length ≤ 100000) (h : ∀ t' k, Q (.str (T (a ++ b)) t') { s with toks := k }) : wpAny (model prog w) A (inplaceOp .Add (.str (T a) t) (.str (T b) u)) Q E s :=
  PyProof.Rows.iadd_str (fun t' k => by rw [T_app]; exact h t' k) (by rw [T_len, T_len, sizeLine_eq]; omega)
end
theorem jh_len : jhead.length = 10 := rfl
theorem jt_len : jtail.length = 6 := rfl
structure PLook (X don : List Nat) (e a : Int) (m : Str → Option Value) : Prop where
  text : ∃ t, m (Str.ofString "text") = some (.str (T X) t)
  piece : ∃ t, m (Str.ofString "piece") = some (.str (T don) t)
  fin : ∃ t, m (Str.ofString "end") = some (.int e t)
  at_ : ∃ t, m (Str.ofString "at") = some (.int a t)
noncomputable def PX (own : List Nat) : List Nat := jhead ++ own.flatMap part ++ jtail
noncomputable def PI (own : List Nat) (g : Heap) (L : Addr) (s : Shared) (n : Nat) (s' : Shared) : Prop := ∃ h tk m don rest, s' = { s with heap := h, toks := tk } ∧ Fr g L h m ∧ own = don ++ rest ∧ n = rest.length ∧ PLook (PX own) don ((10 + (own.flatMap part).length : Nat) : Int) ((10 + (don.flatMap part).length : Nat) : Int) m
theorem PI.elim {own : List Nat} {g : Heap} {L : Addr} {s : Shared} {n : Nat} {s' : Shared} {G : Shared → Prop} (hI : PI own g L s n s')
    (h : ∀ h2 tk m don rest t1 t2 t3 t4, Fr g L h2 m → own = don ++ rest → n = rest.length → m (Str.ofString "text") = some (.str (T (PX own)) t1) → m (Str.ofString "piece") = some (.str (T don) t2) → m (Str.ofString "end") = some (.int ((10 + (own.flatMap part).length : Nat) : Int) t3) → m (Str.ofString "at") = some (.int ((10 + (don.flatMap part).length : Nat) : Int) t4) → G { s with heap := h2, toks := tk }) : G s' := by
  obtain ⟨h2, tk, m, don, rest, rfl, F, ho, hn, ⟨t1, lt⟩, ⟨t2, lp⟩, ⟨t3, le⟩, ⟨t4, la⟩⟩ := hI
  exact h _ _ _ _ _ _ _ _ _ F ho hn lt lp le la
theorem PI.elimP {own : List Nat} {g : Heap} {L : Addr} {s : Shared} {n : Nat} {s' : Shared} {G : Shared → Prop} (hI : PI own g L s n s') (hp : 0 < s'.toks)
    (h : ∀ h2 tk m don rest t1 t2 t3 t4, Fr g L h2 m → own = don ++ rest → n = rest.length → m (Str.ofString "text") = some (.str (T (PX own)) t1) → m (Str.ofString "piece") = some (.str (T don) t2) → m (Str.ofString "end") = some (.int ((10 + (own.flatMap part).length : Nat) : Int) t3) → m (Str.ofString "at") = some (.int ((10 + (don.flatMap part).length : Nat) : Int) t4) → 0 < tk → G { s with heap := h2, toks := tk }) : G s' := PI.elim (G := fun s' => 0 < s'.toks → G s') hI h hp
noncomputable def PT (own : List Nat) (g : Heap) (L : Addr) (s : Shared) (n : Nat) (s' : Shared) : Prop := ∃ k, k < n ∧ PI own g L s k s'
theorem PT.mk {own don rest : List Nat} {c : Nat} {g h : Heap} {L : Addr} {s : Shared} {n tk : Nat} {m : Str → Option Value} {a : Int} (F : Fr g L h m) (ho : own = (don ++ [c]) ++ rest) (hl : PLook (PX own) (don ++ [c]) ((10 + (own.flatMap part).length : Nat) : Int) a m) (ha : a = ((10 + ((don ++ [c]).flatMap part).length : Nat) : Int)) (hn : rest.length < n) : PT own g L s n { s with heap := h, toks := tk } := by
  subst ha
  exact ⟨rest.length, hn, h, tk, m, don ++ [c], rest, rfl, F, ho, rfl, hl⟩
theorem p_cut {prog : Program} {w : World} {A : Around} {E : Value → Shared → Prop} {s : Shared} {env : Env} {own : List Nat} {L : Addr} {g : Heap} {m : Str → Option Value} {test : Expr} {body rest : List Stmt} {pos : Pos} {Q : Flow → Shared → Prop} {e : Int}
    (h0 : 0 < s.toks) (F : Fr g L s.heap m) (he : e = ((10 + (own.flatMap part).length : Nat) : Int)) (hl : PLook (PX own) [] e 10 m)
    (turn : ∀ h2 tk m don rest t1 t2 t3 t4 n, Fr g L h2 m → own = don ++ rest → n = rest.length → m (Str.ofString "text") = some (.str (T (PX own)) t1) → m (Str.ofString "piece") = some (.str (T don) t2) → m (Str.ofString "end") = some (.int ((10 + (own.flatMap part).length : Nat) : Int) t3) → m (Str.ofString "at") = some (.int ((10 + (don.flatMap part).length : Nat) : Int) t4) → 0 < tk →
      wpAny (model prog w) A (isTrue test env (eval test env)) (fun b' s₂ => if b' = true then wpAny (model prog w) A (execs body env) (fun f s₃ => match f with
        | .next | .cont => PT own g L s n s₃ | .brk => False | .ret _ => False) (fun _ _ => False) s₂ else n = 0 ∧ s₂ = { s with heap := h2, toks := tk }) (fun _ _ => False) { s with heap := h2, toks := tk })
    (fin : ∀ s', PI own g L s 0 s' → wpAny (model prog w) A (execs rest env) Q E s') : wpAny (model prog w) A (execs (.While test body [] pos :: rest) env) Q E s := by
  subst he
  refine cut_execs1 (PI own g L s 0) (while_pos (PI own g L s) own.length h0 ⟨s.heap, s.toks, m, [], own, rfl, F, rfl, rfl, hl⟩ fun n s' hp hI => ?_) fin
  refine wpAny_mono (PI.elimP (G := fun s' => wpAny (model prog w) A (isTrue test env (eval test env)) (fun b' s₂ => if b' = true then wpAny (model prog w) A (execs body env) (fun f s₃ => match f with
        | .next | .cont => PT own g L s n s₃ | .brk => False | .ret _ => False) (fun _ _ => False) s₂ else n = 0 ∧ s₂ = s') (fun _ _ => False) s') hI hp fun h2 tk m don rest t1 t2 t3 t4 F ho hn lt lp le la htk => turn h2 tk m don rest t1 t2 t3 t4 n F ho hn lt lp le la htk) (fun b' s₂ q => ?_) fun _ _ q => q
  cases b' with
  | false =>
    obtain ⟨rfl, rfl⟩ := q
    exact ⟨rfl, hI⟩
  | true =>
    simp only [if_true] at q ⊢
    refine wpAny_mono q (fun f s₃ r => ?_) fun _ _ q => q
    cases f with
    | next => exact r
    | cont => exact r
    | brk => exact r.elim
    | ret v => exact r.elim
theorem rows_P23_1 : True := by
  k_with_none
  k_with "ne" => (refine neN ?_; (try dsimp only); first | exact Nat.ne_of_lt (by assumption) | exact Nat.ne_of_gt (by assumption) | exact Mine.la0 (by assumption) | exact Mine.ga0 (by assumption) | exact Mine.la1 (by assumption) | exact Mine.ga1 (by assumption) | exact Mine.le1 (by assumption) | exact Mine.ge1 (by assumption) | exact Mine.la2 (by assumption) | exact Mine.ga2 (by assumption) | exact Mine.le2 (by assumption) | exact Mine.ge2 (by assumption) | exact Mine.la3 (by assumption) | exact Mine.ga3 (by assumption) | exact Mine.le3 (by assumption) | exact Mine.ge3 (by assumption) | exact Mine.la4 (by assumption) | exact Mine.ga4 (by assumption) | exact Mine.le4 (by assumption) | exact Mine.ge4 (by assumption) | exact Mine.la5 (by assumption) | exact Mine.ga5 (by assumption) | exact Mine.le5 (by assumption) | exact Mine.ge5 (by assumption) | exact Mine.la6 (by assumption) | exact Mine.ga6 (by assumption) | exact Mine.le6 (by assumption) | exact Mine.ge6 (by assumption) | exact Mine.la7 (by assumption) | exact Mine.ga7 (by assumption) | exact Mine.le7 (by assumption) | exact Mine.ge7 (by assumption) | exact Mine.la8 (by assumption) | exact Mine.ga8 (by assumption) | exact Mine.le8 (by assumption) | exact Mine.ge8 (by assumption))
  k_with "room" => (first | exact Mine.room0 (by assumption) | exact Mine.room1 (by assumption) (by decide) | exact Mine.room2 (by assumption) (by decide))
  k_with "units" => (first | exact Mine.room0 (by assumption) | exact Mine.room1 (by assumption) (by decide) | exact Mine.room2 (by assumption) (by decide))
  k_with "size" => (first | exact Nat.zero_le _ | with_reducible exact Mine.szT (by assumption) | with_reducible exact Mine.szT1 (by assumption) | with_reducible exact Mine.szK (by assumption) | with_reducible exact Mine.szK1 (by assumption))
  k_with "LeaveM" => (k_dflt (refine' Mine.leaveM_ ?k1 ?k2 ?_; (case k1 => k_asm); (case k2 => k_asm); k_whole); intro kF kS kN kf; (try dsimp only))
  k_with "Kont" => ((try dsimp only); first | (refine' Mine.kont_next ?L_k ?_; (case L_k => assumption); intro tkp htkp) | (refine' Mine.kont_ret ?L_k ?_; (case L_k => assumption)) | (refine' Mine.kont_brk ?L_k ?_; (case L_k => assumption)) | (refine' Mine.kont_cont ?L_k ?_; (case L_k => assumption)))
  k_with "execs cons" => (k_here; first | refine Mine.execs_one ?_ | ((first | (refine' Mine.execs_kont ?kp_k ?_; (case kp_k => assumption)) | (refine Mine.gen_pos ?kp_k ?_; (case kp_k => first | assumption | exact Nat.succ_pos _ | omega); intro tkp htkp; refine Mine.execs_kont htkp ?_)); intro K9 hK9))
  k_with "execs cons" => ((with_reducible show wpAny _ _ (execs (Stmt.While _ _ _ _ :: _) _) _ _ _); refine Mine.hold ?_)
  k_with "eval Name" => (k_here; k_dflt (refine' nameX_L ?nF ?nv ?_ ?na ?nb ?nc; (case nF => k_asm); (case nv => first | exact rfl | assumption); (case na => rfl); (case nb => rfl); (case nc => decide); k_whole))
  k_with "loadName" => (k_here; k_dflt (refine' Mine.loadX_L ?nF ?nv ?_ ?na ?nb; (case nF => k_asm); (case nv => first | exact rfl | assumption); (case na => rfl); (case nb => rfl); k_whole))
  k_with "call builtin:len" => (k_here; k_dflt (refine' Mine.len_T ?hl ?_; (case hl => assumption); k_whole; intro t9 k9; (try dsimp only)))
  k_with "compareOp Lt int int" => (k_here; k_dflt ((first | (refine' Mine.lt_yes ?hx ?_; (case hx => first | assumption | omega); k_whole) | (refine' Mine.lt_no ?hx ?_; (case hx => first | assumption | omega); k_whole)); (try dsimp only)))
  k_with "subscriptTail Name Slice str ref" => (k_here; (with_reducible show wpAny _ _ (subscriptTail _ (Expr.Slice none (some _) none _) _ _) _ _ _); (with_reducible rename Fr _ _ _ _ => F8); (with_reducible rename News _ _ _ _ => N8); (refine' Mine.slice_to (s := ⟨_, _, _, _, _⟩) F8 N8 ?hj ?h0 ?h1 ?hl ?_ ?hs ?ht; (case hj => assumption); (case h0 => first | exact Mine.nn0 | exact Mine.nn1 | exact Mine.nn2 | exact Mine.nn3 | omega); (case h1 => assumption); (case hl => assumption); (case hs => with_unfolding_all rfl); (case ht => (intro _; with_unfolding_all rfl)); k_whole); intro h9 t9 k9 F9 N9; clear F8 N8; (try dsimp only))
  k_with "subscriptTail Name Slice str ref" => (k_here; (with_reducible show wpAny _ _ (subscriptTail _ (Expr.Slice (some _) none none _) _ _) _ _ _); (with_reducible rename Fr _ _ _ _ => F8); (with_reducible rename News _ _ _ _ => N8); (refine' Mine.slice_from (s := ⟨_, _, _, _, _⟩) F8 N8 ?hj ?h0 ?h1 ?hl ?_ ?hs ?ht; (case hj => assumption); (case h0 => first | exact Mine.nn0 | exact Mine.nn1 | exact Mine.nn2 | exact Mine.nn3 | omega); (case h1 => assumption); (case hl => assumption); (case hs => with_unfolding_all rfl); (case ht => (intro _; with_unfolding_all rfl)); k_whole); intro h9 t9 k9 F9 N9; clear F8 N8; (try dsimp only))
  k_with "compareOp NotEq str str" => (k_here; k_dflt ((refine' Mine.neS_no ?hx ?_; (case hx => first | assumption | decide); k_whole)); (try dsimp only))
  k_with "subscriptTail Name Name str int" => (k_here; k_dflt (refine' Mine.item_T ?hc ?h0 ?hl ?_ ?hs ?hg; (case hc => assumption); (case h0 => first | exact Mine.nn0 | exact Mine.nn1 | exact Mine.nn2 | exact Mine.nn3 | omega); (case hl => assumption); (case hs => with_unfolding_all rfl); (case hg => (intro _; with_unfolding_all rfl)); k_whole; (try dsimp only)))
  k_with "subscriptTail Name UnaryOp str int" => (k_here; k_dflt (refine' Mine.last_T ?hl ?_ ?hs ?hg; (case hl => assumption); (case hs => with_unfolding_all rfl); (case hg => (intro _; with_unfolding_all rfl)); k_whole; (try dsimp only)))
  k_with "compareOp Eq str str" => (k_here; k_dflt ((first | (refine' Mine.eqT_yes ?hx ?_; (case hx => decide); k_whole) | (refine' Mine.eqT_no (d := 91) ?hx ?hd ?_; (case hx => decide); (case hd => first | decide | assumption); k_whole) | (refine' Mine.eqT_no (d := 92) ?hx ?hd ?_; (case hx => decide); (case hd => first | decide | assumption); k_whole) | (refine' Mine.eqT_no (d := 94) ?hx ?hd ?_; (case hx => decide); (case hd => first | decide | assumption); k_whole)); (try dsimp only)))
  k_with "compareOp In str str" => (k_here; k_dflt (refine' Mine.inT_no (l := [46, 40, 41, 42, 43, 63, 123, 125, 124, 94, 36]) ?hx ?hd ?_; (case hx => decide); (case hd => first | decide | assumption); k_whole); (try dsimp only))
  k_with "inplaceOp Add str str" => (k_here; k_dflt (refine' Mine.iadd_T ?hl ?hl2 ?_; (case hl => assumption); (case hl2 => exact Nat.le_of_ble_eq_true rfl); k_whole); intro t9 k9; (try dsimp only))
  trivial
theorem c_piece (w : World) (own : List Nat) (t : Tok) (hlen : own.length ≤ 1000) : Tell w 162 2 40 [.str (T (jhead ++ own.flatMap part ++ jtail)) t] (fun _ => True) (RStr own) := by
  have hle := parts_len own
  have hX : (jhead ++ own.flatMap part ++ jtail).length = 16 + (own.flatMap part).length := by rw [List.length_append, List.length_append, jh_len, jt_len]; omega
  have hX1 : (jhead ++ own.flatMap part ++ jtail).length ≤ 100000 := by omega
  have hth : Mine.T jhead = Str.ofString "(?s:(?>.*?" := by decide
  have htt : Mine.T jtail = Str.ofString ").*)\\Z" := by decide
  have ht1 : (jhead ++ own.flatMap part ++ jtail).take (Int.toNat 10) = jhead := by rw [List.append_assoc]; exact List.take_left' rfl
  have ht2 : (10 : Int) ≤ ((jhead ++ own.flatMap part ++ jtail).length : Int) := by omega
  have ht3 : ((jhead ++ own.flatMap part ++ jtail).length : Int) - 6 ≤ ((jhead ++ own.flatMap part ++ jtail).length : Int) := by omega
  have ht4 : (jhead ++ own.flatMap part ++ jtail).drop (((jhead ++ own.flatMap part ++ jtail).length : Int) - 6).toNat = jtail := by
    have e : (((jhead ++ own.flatMap part ++ jtail).length : Int) - 6).toNat = (jhead ++ own.flatMap part).length := by rw [hX, List.length_append, jh_len]; omega
    rw [e]; exact List.drop_left
  refine Tell.of ?_
  k_fill
  intro p loose mean mg mb dp un gd cn cs a ccd cl outer A₀ base h₀ L m s Q E X B F T hk hd hu ht hn hret
  refine wpAny_call ?_
  k_dflt (refine' Mine.enterP ?k1 ?k2 ?k3 ?k5 ?kA ?kF ?kK ?k6 ?k7 ?k8 ?k9 ?kB ?_ ?c2 ?c3 ?c4 ?c5; (case kA => exact rfl); (case kF => exact rfl); (case kK => assumption); (case k1 => k_asm); (case k2 => k_asm); (case k3 => k_asm); (case k5 => k_asm); (case k6 => k_is); (case k7 => k_is); (case k8 => ktr_room); (case k9 => exact BindsTo.of_eq rfl); (case c5 => decide); (case kB => exact locs rfl); (case c2 => exact rfl); (case c3 => exact rfl); (case c4 => exact rfl); k_whole; intro L' h' F' N' B' X' T'; (try dsimp only); (try k_fold))
  k_steps
  unfold Hold
  (rename Fr _ _ _ _ => FX); (rename News _ _ _ _ => NX)
  refine p_cut (own := own) (by first | assumption | exact Nat.succ_pos _ | omega) FX (by rw [hX]; omega) ⟨⟨_, rfl⟩, ⟨_, rfl⟩, ⟨_, rfl⟩, ⟨_, rfl⟩⟩ ?_ ?_
  · clear FX NX ht1 ht2 ht3 ht4 hth htt
    intro h2 tk2 m2 don rest t1 t2 t3 t4 n F2 ho hn2 lt lpc le la hp
    have N2 : News s.heap L' h2 [] := News.nil
    have hat : ∀ (k : Nat) (x : Nat), ((rest.flatMap part) ++ jtail)[k]? = some x → (PX own)[10 + (don.flatMap part).length + k]? = some x := by
      intro k x hx
      have e : PX own = (jhead ++ don.flatMap part) ++ (rest.flatMap part ++ jtail) := by unfold PX; rw [ho]; simp
      rw [e, List.getElem?_append_right (by rw [List.length_append, jh_len]; omega)]
      rw [show 10 + (don.flatMap part).length + k - (jhead ++ don.flatMap part).length = k by rw [List.length_append, jh_len]; omega]
      exact hx
    have hX2 : (PX own).length ≤ 100000 := hX1
    have hdl : don.length ≤ 100000 := by rw [ho] at hlen; simp at hlen; omega
    have htot : (own.flatMap part).length = (don.flatMap part).length + (rest.flatMap part).length := by rw [ho, List.flatMap_append, List.length_append]
    obtain ⟨pos, hpos⟩ : ∃ pos, pos = 10 + (don.flatMap part).length := ⟨_, rfl⟩
    rw [← hpos] at hat la
    cases rest with
    | nil =>
      have hl0 : ¬ ((pos : Nat) : Int) < ((10 + (own.flatMap part).length : Nat) : Int) := by rw [htot, List.flatMap_nil]; simp only [List.length_nil]; omega
      k_steps
      all_goals exact ⟨hn2, rfl⟩
    | cons c rest =>
      have ho2 : own = (don ++ [c]) ++ rest := by rw [ho]; simp
      have hfm : ((don ++ [c]).flatMap part).length = (don.flatMap part).length + (part c).length := by rw [List.flatMap_append, List.length_append]; simp only [List.flatMap_cons, List.flatMap_nil, List.append_nil]
      have hcc : ∀ p, part c = p → (List.flatMap part (c :: rest)) = p ++ List.flatMap part rest := by intro p hp; rw [List.flatMap_cons, hp]
      subst hn2
      by_cases h91 : c = 91
      · subst h91
        have hp4 : part 91 = [91, 92, 91, 93] := rfl
        have hq := hcc _ hp4
        have hP0 : (PX own)[((pos : Nat) : Int).toNat]? = some 91 := by rw [Int.toNat_natCast]; exact hat 0 91 (by rw [hq]; rfl)
        have hP1 : (PX own)[(((pos : Nat) : Int) + 1).toNat]? = some 92 := by rw [show (((pos : Nat) : Int) + 1).toNat = pos + 1 from rfl]; exact hat 1 92 (by rw [hq]; rfl)
        have hP2 : (PX own)[(((pos : Nat) : Int) + 1 + 1).toNat]? = some 91 := by rw [show (((pos : Nat) : Int) + 1 + 1).toNat = pos + 2 from rfl]; exact hat 2 91 (by rw [hq]; rfl)
        have hP3 : (PX own)[(((pos : Nat) : Int) + 1 + 1 + 1).toNat]? = some 93 := by rw [show (((pos : Nat) : Int) + 1 + 1 + 1).toNat = pos + 3 from rfl]; exact hat 3 93 (by rw [hq]; rfl)
        have hl0 : ((pos : Nat) : Int) < ((10 + (own.flatMap part).length : Nat) : Int) := by rw [htot, hq, List.length_append]; simp only [List.length_cons, List.length_nil]; omega
        rw [hp4] at hfm; simp only [List.length_cons, List.length_nil] at hfm
        k_steps
        (rename Fr _ _ _ _ => FZ)
        exact PT.mk FZ ho2 ⟨⟨_, lt⟩, ⟨_, rfl⟩, ⟨_, le⟩, ⟨_, rfl⟩⟩ (by omega) (by simp)
      · by_cases h42 : c = 42 ∨ c = 63
        · have hp4 : part c = [91, c, 93] := by unfold part; rw [if_neg h91, if_pos h42]
          have hc92 : c ≠ 92 := by rcases h42 with rfl | rfl <;> decide
          have hc94 : c ≠ 94 := by rcases h42 with rfl | rfl <;> decide
          have hq := hcc _ hp4
          have hP0 : (PX own)[((pos : Nat) : Int).toNat]? = some 91 := by rw [Int.toNat_natCast]; exact hat 0 91 (by rw [hq]; rfl)
          have hP1 : (PX own)[(((pos : Nat) : Int) + 1).toNat]? = some c := by rw [show (((pos : Nat) : Int) + 1).toNat = pos + 1 from rfl]; exact hat 1 c (by rw [hq]; rfl)
          have hP2 : (PX own)[(((pos : Nat) : Int) + 1 + 1).toNat]? = some 93 := by rw [show (((pos : Nat) : Int) + 1 + 1).toNat = pos + 2 from rfl]; exact hat 2 93 (by rw [hq]; rfl)
          have hl0 : ((pos : Nat) : Int) < ((10 + (own.flatMap part).length : Nat) : Int) := by rw [htot, hq, List.length_append]; simp only [List.length_cons, List.length_nil]; omega
          rw [hp4] at hfm; simp only [List.length_cons, List.length_nil] at hfm
          k_steps
          (rename Fr _ _ _ _ => FZ)
          exact PT.mk FZ ho2 ⟨⟨_, lt⟩, ⟨_, rfl⟩, ⟨_, le⟩, ⟨_, rfl⟩⟩ (by omega) (by simp)
        · have hpe : part c = esc c := by unfold part; rw [if_neg h91, if_neg h42]
          by_cases hsp : c ∈ special
          · have hp4 : part c = [92, c] := by rw [hpe]; unfold esc; rw [if_pos hsp]
            have hq := hcc _ hp4
            have hP0 : (PX own)[((pos : Nat) : Int).toNat]? = some 92 := by rw [Int.toNat_natCast]; exact hat 0 92 (by rw [hq]; rfl)
            have hP1 : (PX own)[(((pos : Nat) : Int) + 1).toNat]? = some c := by rw [show (((pos : Nat) : Int) + 1).toNat = pos + 1 from rfl]; exact hat 1 c (by rw [hq]; rfl)
            have hl0 : ((pos : Nat) : Int) < ((10 + (own.flatMap part).length : Nat) : Int) := by rw [htot, hq, List.length_append]; simp only [List.length_cons, List.length_nil]; omega
            rw [hp4] at hfm; simp only [List.length_cons, List.length_nil] at hfm
            k_steps
            (rename Fr _ _ _ _ => FZ)
            exact PT.mk FZ ho2 ⟨⟨_, lt⟩, ⟨_, rfl⟩, ⟨_, le⟩, ⟨_, rfl⟩⟩ (by omega) (by simp)
          · have hp4 : part c = [c] := by rw [hpe]; unfold esc; rw [if_neg hsp]
            have hns : ∀ d, d ∈ special → c ≠ d := fun d hd e => hsp (by rw [e]; exact hd)
            have hc92 : c ≠ 92 := hns 92 (by decide)
            have hcin : c ∉ [46, 40, 41, 42, 43, 63, 123, 125, 124, 94, 36] := by
              intro hm
              have : (([46, 40, 41, 42, 43, 63, 123, 125, 124, 94, 36] : List Nat).all fun d => decide (d ∈ special)) = true := by decide
              exact hsp (of_decide_eq_true (List.all_eq_true.mp this c hm))
            have hq := hcc _ hp4
            have hP0 : (PX own)[((pos : Nat) : Int).toNat]? = some c := by rw [Int.toNat_natCast]; exact hat 0 c (by rw [hq]; rfl)
            have hl0 : ((pos : Nat) : Int) < ((10 + (own.flatMap part).length : Nat) : Int) := by rw [htot, hq, List.length_append]; simp only [List.length_cons, List.length_nil]; omega
            rw [hp4] at hfm; simp only [List.length_cons, List.length_nil] at hfm
            k_steps
            (rename Fr _ _ _ _ => FZ)
            exact PT.mk FZ ho2 ⟨⟨_, lt⟩, ⟨_, rfl⟩, ⟨_, le⟩, ⟨_, rfl⟩⟩ (by omega) (by simp)
  · intro s' hI
    refine PI.elim hI ?_
    clear hI
    intro h2 tk2 m2 don rest t1 t2 t3 t4 F2 ho hn2 lt lpc le la
    clear FX NX ht1 ht2 ht3 ht4 hth htt
    have e0 : rest = [] := List.length_eq_zero_iff.mp hn2.symm
    subst e0
    rw [List.append_nil] at ho
    subst ho
    have N2 : News s.heap L' h2 [] := News.nil
    k_steps
    exact hret _ _ _ _ kF kS kN kf ⟨⟨_, rfl⟩, rfl⟩
end Mine
end
theorem Mine.walk_off_P23 : True := by
  w_top off
  k_with_none
  trivial
section
open PySem PySem.W PyProof.Rows PySem.Calls PySem.Spec
open PyProof.Rows.LCg
set_option Elab.async false
set_option maxRecDepth 100000
set_option maxHeartbeats 8000000
namespace Mine
/-- where a zip of two lists stands -/
noncomputable def ZSt (z TI TO i1 i2 l1 l2 : Addr) (xs ys : Array Value) (i : Nat) (h : Heap) : Prop :=
  IsZip h z TI TO .none ∧ IsPair h TI (.ref i1) (.ref i2) ∧ (∃ a b, IsPair h TO a b) ∧ h.IsListIter i1 l1 i ∧ h.IsListIter i2 l2 i ∧ h.IsList l1 xs ∧ h.IsList l2 ys
/-- the zip's own objects, off the ledger -/
structure ZOff (h₀ : Heap) (L z TI TO i1 i2 : Addr) (news : List (Addr × Obj)) : Prop where
  L : L ≠ z ∧ L ≠ TI ∧ L ≠ TO ∧ L ≠ i1 ∧ L ≠ i2
  h0 : h₀.get? z = none ∧ h₀.get? TI = none ∧ h₀.get? TO = none ∧ h₀.get? i1 = none ∧ h₀.get? i2 = none
  news : ∀ p ∈ news, p.1 ≠ z ∧ p.1 ≠ TI ∧ p.1 ≠ TO ∧ p.1 ≠ i1 ∧ p.1 ≠ i2
noncomputable def ZEnd (h₀ : Heap) (L : Addr) (m : Str → Option Value) (s : Shared) (all : List (Addr × Obj)) (P : Prop) (s' : Shared) : Prop := ∃ h tk, s' = { s with heap := h, toks := tk } ∧ Fr h₀ L h m ∧ News h₀ L h all ∧ P
section
variable {prog : Program} {w : World} {A : Around} {E : Value → Shared → Prop} {s : Shared} {h₀ : Heap} {L : Addr} {m : Str → Option Value} {env : Env}
noncomputable def SrcZ (prog : Program) (w : World) (A : Around) (h₀ : Heap) (L : Addr) (m : Str → Option Value) (env : Env) (c : Expr) (a b : Str) (scope : Scope) (cl : List (Str × Addr)) (Q : Value → Shared → Prop) (xv : Value) (s₁ : Shared) : Prop :=
  ∃ (z TI TO i1 i2 l1 l2 : Addr) (xs ys : Array Value) (n : Nat) (news : List (Addr × Obj)) (G : Nat → List Value → Prop), xv = .ref z ∧ A.handled = none ∧ ZipApart z TI TO i1 i2 l1 l2 ∧ xs.size = n ∧ ys.size = n ∧ n ≤ 100000 ∧ ZSt z TI TO i1 i2 l1 l2 xs ys 0 s₁.heap ∧ ZOff h₀ L z TI TO i1 i2 news ∧
    Fr h₀ L s₁.heap m ∧ News h₀ L s₁.heap news ∧ (∀ h, Fr h₀ L h m → News h₀ L h news → h.IsList l1 xs ∧ h.IsList l2 ys) ∧ G 0 [] ∧
    (∀ i x y zs us h tk C oC D m₂ E', xs[i]? = some x → ys[i]? = some y → G i us → NsObj oC m₂ → m₂ a = some x → m₂ b = some y → Fr h₀ L h m → News h₀ L h ((C, oC) :: (D, lst us) :: (news ++ zs)) →
      wpAny (model prog w) A (isTrue c (compEnvC scope cl C env) (eval c (compEnvC scope cl C env))) (fun ok s₃ => ZEnd h₀ L m s₁ ((C, oC) :: (D, lst us) :: (news ++ zs)) (if ok = true then G (i + 1) (us ++ [x]) else G (i + 1) us) s₃) E' { s₁ with heap := h, toks := tk }) ∧
    ∀ us D h tk, G n us → Fr h₀ L h m → News h₀ L h ((D, lst us) :: news) → (∀ p ∈ news, p.1 ≠ D) → Q (.ref D) { s₁ with heap := h, toks := tk }

theorem ZSt.at_ {z TI TO i1 i2 l1 l2 : Addr} {xs ys : Array Value} {i : Nat} {h h' : Heap} (x : ZSt z TI TO i1 i2 l1 l2 xs ys i h) (hz : ∀ o, h.get? z = some o → h'.get? z = some o) (hTI : ∀ o, h.get? TI = some o → h'.get? TI = some o) (hTO : ∀ o, h.get? TO = some o → h'.get? TO = some o) (h1 : ∀ o, h.get? i1 = some o → h'.get? i1 = some o) (h2 : ∀ o, h.get? i2 = some o → h'.get? i2 = some o) (hl1 : h'.IsList l1 xs) (hl2 : h'.IsList l2 ys) : ZSt z TI TO i1 i2 l1 l2 xs ys i h' := by
  obtain ⟨a1, a2, ⟨p, q, a3⟩, a4, a5, _, _⟩ := x
  exact ⟨hz _ a1, hTI _ a2, ⟨p, q, hTO _ a3⟩, a4.at h1, a5.at h2, hl1, hl2⟩

theorem ListComp_Z {iter c : Expr} {a b : Str} {pa pb pe tp : Pos} {kk : Nat} {scope : Scope} {cl : List (Str × Addr)} {pos : Pos} {Q : Value → Shared → Prop} (_F₀ : Fr h₀ L s.heap m)
    (hclos : closureFor scope env = pure cl) (hcell : ∀ y ∈ scope.names, y.2 ≠ .cell) (hkind : scope.kind = .function)
    (hnames : ∀ y ∈ scope.names, y.2 = .local → scope.names.lookup y.1 = some .local) (hxa : scope.names.lookup a = some .local) (hxb : scope.names.lookup b = some .local) (hab : ¬ a = b) (hdb : (a == ("__debug__" : Str)) = false)
    (h : wpAny (model prog w) A (eval iter env) (SrcZ prog w A h₀ L m env c a b scope cl Q) E s)
    (hs : ∀ x, foldedSetIterable iter env x = pure x := by intro _; rfl) :
    wpAny (model prog w) A (eval (.ListComp (.Name a pe) [⟨.Tuple [.Name a pa, .Name b pb] kk tp, iter, [c], 0⟩] scope pos) env) Q E s := by
  rw [eval_ListComp]
  refine wpAny_comprehension_free (use := none) rfl hs hclos hkind hnames (wpAny_mono h (fun xv s₁ h₁ => ?_) fun _ _ e => e)
  obtain ⟨z, TI, TO, i1, i2, l1, l2, xs, ys, n, news, G, rfl, hh, Ap, hxn, hyn, hn0, hst, off, F, N, hls, g0, turn, fin⟩ := h₁
  have W := WalksT.zip2 (prog := prog) (w := w) hh z TI TO i1 i2 l1 l2 Ap xs ys
  rw [hxn, hyn, Nat.min_self] at W
  refine wpAny_pyIter_zip hst.1 ?_
  refine wpAny_newObj_type (wpAny_newFunctionEnv hcell (by intro y hy; simp at hy) (fun h₁ hns₁ hsb₁ => ?_) hkind)
  dsimp only at hns₁ hsb₁ ⊢
  generalize hH2 : s₁.heap.push { cls := .type "list", dict := none, data := .seq ([] : List Value).toArray } = H2 at hns₁ hsb₁ ⊢
  have hC : H2.objs.size = s₁.heap.objs.size + 1 := by rw [← hH2, Heap.size_push]
  obtain ⟨C, eC⟩ : ∃ C : Nat, C = H2.objs.size := ⟨_, rfl⟩
  obtain ⟨D, eD⟩ : ∃ D : Nat, D = s₁.heap.objs.size := ⟨_, rfl⟩
  have ltC : ∀ {b : Nat} {o}, s₁.heap.get? b = some o → @Ne Nat b C ∧ @Ne Nat b D := fun {b} {o} e => by have : @LT.lt Nat _ b s₁.heap.objs.size := Heap.lt_size e; exact ⟨by omega, by omega⟩
  have hDC : @Ne Nat D C := by omega
  have old : ∀ b o, s₁.heap.get? b = some o → h₁.get? b = some o := fun b o e => hsb₁.extBut b o (by rw [← eC]; exact (ltC e).1) (Heap.get?_push_of_some _ (hH2 ▸ Heap.get?_push_of_some _ e))
  have hacc : h₁.get? D = some (lst []) := by
    rw [eD]
    exact hsb₁.extBut _ _ (by rw [← eC, ← eD]; exact hDC) (Heap.get?_push_of_some _ (hH2 ▸ Heap.get?_push_size _ rfl))
  have hLs : @LT.lt Nat _ L s₁.heap.objs.size := F.ns.lt
  have hab0 : @LE.le Nat _ h₀.objs.size L := F.above
  have none0 : ∀ b : Nat, s₁.heap.objs.size ≤ b → h₀.get? b = none := fun b hb => Heap.get?_none_of_le (show h₀.objs.size ≤ b by omega)
  have hD₀ : h₀.get? D = none := none0 _ (by omega)
  have hC₀ : h₀.get? C = none := none0 _ (by omega)
  have hDL : @Ne Nat D L := by omega
  have hCL : @Ne Nat C L := by omega
  obtain ⟨sz, sTI, ⟨pa', pb', sTO⟩, ⟨o1, s1, _⟩, ⟨o2, s2, _⟩, _⟩ := id hst
  have nz := ltC sz
  have nTI := ltC sTI
  have nTO := ltC sTO
  have n1 := ltC s1
  have n2 := ltC s2
  have hne : ∀ p ∈ news, p.1 ≠ C ∧ p.1 ≠ D := fun p hp => ltC (N p hp).1
  rw [← eC] at hns₁ ⊢
  rw [← eD]
  have F₁ : Fr h₀ L h₁ m := F.keeps old
  have N₁ : News h₀ L h₁ news := N.grown old
  have hst₁ : ZSt z TI TO i1 i2 l1 l2 xs ys 0 h₁ := hst.at_ (old _) (old _) (old _) (old _) (old _) (hls _ F₁ N₁).1 (hls _ F₁ N₁).2
  have loop : ∀ s₃ : Shared, s₃ = { s₁ with heap := h₁, toks := s₁.toks + ([] : List (Str × Value)).length } →
      codeAny (model prog w) A (.compLoop (.ListComp (.Name a pe) [⟨.Tuple [.Name a pa, .Name b pb] kk tp, iter, [c], 0⟩] scope pos) 0 (.ref z) (.ref D) (compEnvC scope cl C env))
        (compPost (model prog w) A E none Q (.ref D) C) s₃ := by
    rintro s₃ rfl
    refine kct_loop (fun k s' => ∃ h' tk i us m', s' = { s₁ with heap := h', toks := tk } ∧ i ≤ n ∧ k = n + 1 - i ∧ us.length ≤ i ∧ ZSt z TI TO i1 i2 l1 l2 xs ys i h' ∧ Fr h₀ L h' m ∧ h'.Ns C m' ∧ News h₀ L h' ((D, lst us) :: news) ∧ G i us) ?_ (n + 1)
      ⟨h₁, _, 0, [], _, rfl, Nat.zero_le _, rfl, Nat.le_refl _, hst₁, F₁, hns₁, fun p hp => ?_, g0⟩
    · rintro k s' ⟨h', tk, i, us, m', rfl, hi, rfl, hul, hst', F', hn', N', g'⟩
      by_cases hlt : i < n
      · refine W.item i _ _ _ hlt hst' fun T vals h₂ tk₂ hP hT hTt hMd hk₂ => ?_
        refine W.go _ _ _ i T _ _ _ hMd fun h₃ hst₃ hk₃ => ?_
        obtain ⟨x, y, hx, hy, rfl⟩ := hP
        have up₃ : ∀ b o, b ≠ z → b ≠ TO → b ≠ i1 → b ≠ i2 → h'.get? b = some o → h₃.get? b = some o := fun b o c1 c2 c3 c4 e => hk₃ b o (by simp [c1, c2, c3, c4]) (hk₂ b o (by simp [c1, c2, c3, c4]) e)
        have hT₃ : h₃.IsTuple T #[x, y] := by
          have := W.apart i T h₂ hMd
          obtain ⟨oT, eT, r⟩ := hTt
          exact ⟨oT, hk₃ T oT this eT, r⟩
        refine kcp_assign (env := compEnvC scope cl C env) hh hT₃ (lookup_relabel_local hxa) (lookup_relabel_local hxb) (by simp [compEnvC, relabel, hkind]) (hn'.at' fun o e => up₃ _ o nz.1.symm nTO.1.symm n1.1.symm n2.1.symm e) fun h₄ tk₄ hn₄ hs₄ => ?_
        have up : ∀ b o, b ≠ z → b ≠ TO → b ≠ i1 → b ≠ i2 → b ≠ C → h'.get? b = some o → h₄.get? b = some o := fun b o c1 c2 c3 c4 c5 e => hs₄ b o c5 (up₃ b o c1 c2 c3 c4 e)
        have F₄ : Fr h₀ L h₄ m := ⟨F'.ns.at' fun o e => up _ o off.L.1 off.L.2.2.1 off.L.2.2.2.1 off.L.2.2.2.2 hCL.symm e,
          fun b o e => up b o (fun q => by rw [q, off.h0.1] at e; cases e) (fun q => by rw [q, off.h0.2.2.1] at e; cases e) (fun q => by rw [q, off.h0.2.2.2.1] at e; cases e) (fun q => by rw [q, off.h0.2.2.2.2] at e; cases e) (fun q => by rw [q, hC₀] at e; cases e) (F'.keep b o e), F'.above⟩
        have N₄ : News h₀ L h₄ ((D, lst us) :: news) := fun p hp => by
          refine ⟨?_, (N' p hp).2⟩
          rcases List.mem_cons.mp hp with rfl | hp'
          · exact up _ _ nz.2.symm nTO.2.symm n1.2.symm n2.2.symm hDC (N' _ (.head _)).1
          · have q := off.news p hp'
            exact up _ _ q.1 q.2.2.1 q.2.2.2.1 q.2.2.2.2 (hne p hp').1 (N' p hp).1
        have Nn₄ : News h₀ L h₄ news := fun p hp => N₄ p (.tail _ hp)
        have hst₄ : ZSt z TI TO i1 i2 l1 l2 xs ys (i + 1) h₄ := ZSt.at_ hst₃ (fun o e => hs₄ _ o nz.1 e) (fun o e => hs₄ _ o nTI.1 e) (fun o e => hs₄ _ o nTO.1 e) (fun o e => hs₄ _ o n1.1 e) (fun o e => hs₄ _ o n2.1 e) (hls _ F₄ Nn₄).1 (hls _ F₄ Nn₄).2
        obtain ⟨oC, heC, hoC⟩ := ns_obj hn₄
        obtain ⟨tz, tTI, ⟨qa, qb, tTO⟩, ⟨p1, t1, r1⟩, ⟨p2, t2, r2⟩, _⟩ := id hst₄
        have Nall : News h₀ L h₄ ((C, oC) :: (D, lst us) :: (news ++ [(z, _), (TI, _), (TO, _), (i1, p1), (i2, p2)])) := fun p hp => by
          rcases List.mem_cons.mp hp with rfl | hp
          · exact ⟨heC, hCL, hC₀⟩
          · rcases List.mem_cons.mp hp with rfl | hp
            · exact N₄ _ (.head _)
            · rcases List.mem_append.mp hp with hp | hp
              · exact Nn₄ p hp
              · rcases List.mem_cons.mp hp with rfl | hp
                · exact ⟨tz, off.L.1.symm, off.h0.1⟩
                · rcases List.mem_cons.mp hp with rfl | hp
                  · exact ⟨tTI, off.L.2.1.symm, off.h0.2.1⟩
                  · rcases List.mem_cons.mp hp with rfl | hp
                    · exact ⟨tTO, off.L.2.2.1.symm, off.h0.2.2.1⟩
                    · rcases List.mem_cons.mp hp with rfl | hp
                      · exact ⟨t1, off.L.2.2.2.1.symm, off.h0.2.2.2.1⟩
                      · rw [List.mem_singleton] at hp
                        subst hp
                        exact ⟨t2, off.L.2.2.2.2.symm, off.h0.2.2.2.2⟩
        refine wpAny_mono (turn i x y _ us h₄ _ C oC D _ _ hx hy g' hoC (by simp [hab]) (by simp) F₄ Nall) (fun ok s₅ h₅ => ?_) fun _ _ e => e
        obtain ⟨h₅, tk₅, rfl, F₅, N₅, g₅⟩ := h₅
        have zmem : ∀ p, p ∈ [(z, _), (TI, _), (TO, _), (i1, p1), (i2, p2)] → h₅.get? p.1 = some p.2 := fun p hp => (N₅ p (.tail _ (.tail _ (List.mem_append_right _ hp)))).1
        have Nn₅ : News h₀ L h₅ news := fun p hp => N₅ p (.tail _ (.tail _ (List.mem_append_left _ hp)))
        have hst₅ : ZSt z TI TO i1 i2 l1 l2 xs ys (i + 1) h₅ := ⟨zmem _ (.head _), zmem _ (.tail _ (.head _)), ⟨qa, qb, zmem _ (.tail _ (.tail _ (.head _)))⟩, ⟨p1, zmem _ (.tail _ (.tail _ (.tail _ (.head _)))), r1⟩, ⟨p2, zmem _ (.tail _ (.tail _ (.tail _ (.tail _ (.head _))))), r2⟩, (hls _ F₅ Nn₅).1, (hls _ F₅ Nn₅).2⟩
        have zC := (N₅ (C, oC) (.head _)).1
        have zD := (N₅ (D, lst us) (.tail _ (.head _))).1
        cases ok with
        | false =>
          simp only [Bool.false_eq_true, if_false] at g₅ ⊢
          exact ⟨n + 1 - (i + 1), by omega, h₅, tk₅, i + 1, us, _, rfl, hlt, rfl, Nat.le_succ_of_le hul, hst₅, F₅, hoC.ns zC, fun p hp => by
            rcases List.mem_cons.mp hp with rfl | hp
            · exact N₅ _ (.tail _ (.head _))
            · exact Nn₅ p hp, g₅⟩
        | true =>
          simp only [if_true] at g₅ ⊢
          refine wpAny_Name (wpAny_loadName_local (by simp [compEnvC, relabel, hkind]) (lookup_relabel_local hxa) (hoC.ns zC) (v := x) (by simp [hab]) ?_) hdb
          refine append_at (hsz := by show us.toArray.size ≤ sizeLine; rw [List.size_toArray, sizeLine_eq]; omega) zD fun h₆ hs₆ hD₆ => ?_
          have up₆ : ∀ b o, b ≠ D → h₅.get? b = some o → h₆.get? b = some o := fun b o hb e => hs₆.extBut b o hb e
          have F₆ : Fr h₀ L h₆ m := F₅.change hs₆ hDL hD₀
          have Nn₆ : News h₀ L h₆ news := fun p hp => ⟨up₆ _ _ (hne p hp).2 (Nn₅ p hp).1, (Nn₅ p hp).2⟩
          exact ⟨n + 1 - (i + 1), by omega, h₆, _, i + 1, us ++ [x], _, rfl, hlt, rfl, by rw [List.length_append, List.length_singleton]; exact Nat.succ_le_succ hul, hst₅.at_ (fun o e => up₆ _ o nz.2 e) (fun o e => up₆ _ o nTI.2 e) (fun o e => up₆ _ o nTO.2 e) (fun o e => up₆ _ o n1.2 e) (fun o e => up₆ _ o n2.2 e) (hls _ F₆ Nn₆).1 (hls _ F₆ Nn₆).2, F₆, (hoC.ns zC).at' fun o e => up₆ _ o hDC.symm e, fun p hp => by
            rcases List.mem_cons.mp hp with rfl | hp
            · exact ⟨hD₆.trans (congrArg some (lst_snoc us x)), hDL, hD₀⟩
            · exact Nn₆ p hp, g₅⟩
      · have hin : i = n := Nat.le_antisymm hi (Nat.not_lt.mp hlt)
        subst hin
        refine W.done _ _ _ hst' fun h₂ tk₂ hk₂ => ?_
        have up₂ : ∀ b o, b ≠ z → b ≠ TO → b ≠ i1 → b ≠ i2 → h'.get? b = some o → h₂.get? b = some o := fun b o c1 c2 c3 c4 e => hk₂ b o (by simp [c1, c2, c3, c4]) e
        refine ⟨m', hn'.at' fun o e => up₂ _ o nz.1.symm nTO.1.symm n1.1.symm n2.1.symm e, fun h'' hs'' => ?_⟩
        have up : ∀ b o, b ≠ z → b ≠ TO → b ≠ i1 → b ≠ i2 → b ≠ C → h'.get? b = some o → h''.get? b = some o := fun b o c1 c2 c3 c4 c5 e => hs''.extBut b o c5 (up₂ b o c1 c2 c3 c4 e)
        refine fin us D h'' tk₂ g' ⟨F'.ns.at' fun o e => up _ o off.L.1 off.L.2.2.1 off.L.2.2.2.1 off.L.2.2.2.2 hCL.symm e,
          fun b o e => up b o (fun q => by rw [q, off.h0.1] at e; cases e) (fun q => by rw [q, off.h0.2.2.1] at e; cases e) (fun q => by rw [q, off.h0.2.2.2.1] at e; cases e) (fun q => by rw [q, off.h0.2.2.2.2] at e; cases e) (fun q => by rw [q, hC₀] at e; cases e) (F'.keep b o e), F'.above⟩ (fun p hp => ?_) fun p hp => (hne p hp).2
        refine ⟨?_, (N' p hp).2⟩
        rcases List.mem_cons.mp hp with rfl | hp'
        · exact up _ _ nz.2.symm nTO.2.symm n1.2.symm n2.2.symm hDC (N' _ (.head _)).1
        · have q := off.news p hp'
          exact up _ _ q.1 q.2.2.1 q.2.2.2.1 q.2.2.2.2 (hne p hp').1 (N' p hp).1
    · rcases List.mem_cons.mp hp with rfl | hp
      · exact ⟨hacc, hDL, hD₀⟩
      · exact N₁ p hp
  refine codeAny_compStart_list (loop _ rfl) (wpAny_pyIter_zip hst₁.1 (loop _ rfl))

/-- zip(..) of two lists -/
theorem zip_M {l1 l2 : Addr} {xs ys : Array Value} {news : List (Addr × Obj)} {Q : Value → Shared → Prop} (F : Fr h₀ L s.heap m) (N : News h₀ L s.heap news) (hl1 : s.heap.IsList l1 xs) (hl2 : s.heap.IsList l2 ys)
    (h : ∀ z TI TO i1 i2 h', ZipApart z TI TO i1 i2 l1 l2 → ZSt z TI TO i1 i2 l1 l2 xs ys 0 h' → ZOff h₀ L z TI TO i1 i2 news → Fr h₀ L h' m → News h₀ L h' news → Q (.ref z) { s with heap := h' }) :
    wpAny (model prog w) A (call (.type "zip") [.ref l1, .ref l2]) Q E s := by
  have e1 : @LT.lt Nat _ l1 s.heap.objs.size := by obtain ⟨o, e, _⟩ := hl1; exact Heap.lt_size e
  have e2 : @LT.lt Nat _ l2 s.heap.objs.size := by obtain ⟨o, e, _⟩ := hl2; exact Heap.lt_size e
  have hLs : @LT.lt Nat _ L s.heap.objs.size := F.ns.lt
  have hab0 : @LE.le Nat _ h₀.objs.size L := F.above
  have none0 : ∀ b : Nat, s.heap.objs.size ≤ b → h₀.get? b = none := fun b hb => Heap.get?_none_of_le (show h₀.objs.size ≤ b by omega)
  refine call_zip_2 hl1 hl2 fun h' hz hTI hTO hi1 hi2 hsz hk => ?_
  refine h _ _ _ _ _ h' ⟨?_, ?_, ?_, ?_, ?_, ?_, ?_, ?_, ?_, ?_, ?_, ?_, ?_, ?_, ?_, ?_, ?_, ?_⟩ ⟨hz, hTI, ⟨_, _, hTO⟩, hi1, hi2, hl1.at fun o e => hk _ o e, hl2.at fun o e => hk _ o e⟩ ⟨⟨?_, ?_, ?_, ?_, ?_⟩, ⟨none0 _ ?_, none0 _ ?_, none0 _ ?_, none0 _ ?_, none0 _ ?_⟩, fun p hp => ?_⟩ (F.keeps hk) (N.grown hk)
  all_goals first
    | (have hq : @LT.lt Nat _ p.1 s.heap.objs.size := Heap.lt_size (N p hp).1
       refine ⟨?_, ?_, ?_, ?_, ?_⟩ <;> (show @Ne Nat _ _; omega))
    | (show @Ne Nat _ _; omega)
    | (show @LE.le Nat _ _ _; omega)
end
end Mine
end
theorem Mine.walk_off_PZ : True := by
  w_top off
  k_with_none
  trivial
section
open PySem PySem.W PyProof.Rows PySem.Calls PySem.Spec
open PySem.Builtin PySem.Builtin.Str
set_option Elab.async false
set_option maxRecDepth 100000
set_option maxHeartbeats 8000000
namespace Mine
theorem sub_T (x y : List Nat) (i : Nat) (h : i + y.length ≤ x.length) : subAt (T x) (T y) i = true ↔ (x.drop i).take y.length = y := by
  unfold subAt
  rw [beq_iff_eq, T_len, ← Array.toList_inj]
  show (x.toArray.extract i (i + y.length)).toList = y ↔ _
  rw [Array.toList_extract, List.extract_eq_take_drop]
  show List.take (i + y.length - i) (List.drop i x) = y ↔ _
  rw [Nat.add_sub_cancel_left]
theorem found_inf (x y : List Nat) : (!(occurrences (T x) (T y) 0 (T x).length 1).isEmpty) = true ↔ y <:+: x := by
  rw [StrLaws.found_iff]
  constructor
  · rintro ⟨i, h1, h2⟩
    rw [T_len, T_len] at h1
    rw [sub_T x y i h1] at h2
    refine ⟨x.take i, x.drop (i + y.length), ?_⟩
    rw [← h2]
    conv => rhs; rw [← List.take_append_drop i x, ← List.take_append_drop y.length (x.drop i), List.drop_drop]
    rw [h2, List.append_assoc]
  · rintro ⟨a, b, rfl⟩
    have hl : a.length + y.length ≤ (a ++ y ++ b).length := by simp
    refine ⟨a.length, by rw [T_len, T_len]; exact hl, ?_⟩
    rw [sub_T _ y _ hl, List.append_assoc, List.drop_left, List.take_left]
section
variable {prog : Program} {w : World} {A : Around} {E : Value → Shared → Prop} {s : Shared} {M : Model} {h₀ : Heap} {L : Addr} {m : Str → Option Value} {news : List (Addr × Obj)}
theorem inSub_yes {x y : List Nat} {t u : Tok} {Q : Value → Shared → Prop} (hx : y <:+: x) (h : Q (.bool true) s) : wpAny (model prog w) A (compareOp .In (.str (T y) u) (.str (T x) t)) Q E s := by
  refine in_str ?_
  rw [(found_inf x y).mpr hx]
  exact h
theorem inSub_no {x y : List Nat} {t u : Tok} {Q : Value → Shared → Prop} (hx : ¬ y <:+: x) (h : Q (.bool false) s) : wpAny (model prog w) A (compareOp .In (.str (T y) u) (.str (T x) t)) Q E s := by
  refine in_str ?_
  have : (!(occurrences (T x) (T y) 0 (T x).length 1).isEmpty) = false := by
    rw [Bool.eq_false_iff]
    exact fun e => hx ((found_inf x y).mp e)
  rw [this]
  exact h
theorem inT_yes {x : Str} {l : List Nat} {d : Nat} {t u : Tok} {Q : Value → Shared → Prop} (hx : x = T l) (hd : d ∈ l) (h : Q (.bool true) s) : wpAny (model prog w) A (compareOp .In (.str (T [d]) u) (.str x t)) Q E s := by
  subst hx
  refine in_str ?_
  rw [found_T, decide_eq_true hd]
  exact h
theorem add_S {x y : Str} {a b : List Nat} {t u : Tok} {Q : Value → Shared → Prop} (hx : x = T a) (hy : y = T b) (hl : a.length ≤ 100000) (hl2 : b.length ≤ 100000) (h : ∀ t' k, Q (.str (T (a ++ b)) t') { s with toks := k }) : wpAny (model prog w) A (binaryOp .Add (.str x t) (.str y u)) Q E s := by
  subst hx hy
  exact PyProof.Rows.add_str (fun t' k => by rw [T_app]; exact h t' k) (by rw [T_len, T_len, sizeLine_eq]; omega)
theorem index_getM {l : Addr} {its : Array Value} {n : Nat} {pl : Sem Bool} {Q : Value × List Value → Shared → Prop} (hl : s.heap.get? l = some (W.listOf its n)) (h : Q (.builtin "list.index", [.ref l]) s) : wpAny M A (getMethod (.ref l) "index" pl) Q E s :=
  getMethod_builtin ⟨_, hl, rfl⟩ PySem.F.plainAttrs_list PySem.F.slot_list_index PySem.F.type_list_index (fun a q => by cases q; exact ⟨_, hl, rfl⟩) h
theorem index_M {l : Addr} {its : Array Value} {xs : List (List Nat)} {g : List Nat} {t : Tok} {j : Nat} {Q : Value → Shared → Prop} (hl : s.heap.IsList l its) (hi : TL its.toList xs) (hj : xs[j]? = some g) (hno : ∀ i, i < j → xs[i]? ≠ some g) (hz : xs.length ≤ 100000)
    (h : ∀ t' k, Q (.int (j : Int) t') { s with toks := k }) : wpAny (model prog w) A (call (.builtin "list.index") [.ref l, .str (T g) t]) Q E s := by
  obtain ⟨o, e, hc, n, hd⟩ := hl
  obtain ⟨cls, dict, data, slots⟩ := o
  cases hc; cases hd
  have hlen : its.size = xs.length := by have := hi.len; simpa using this
  have hjx : j < xs.length := (List.getElem?_eq_some_iff.mp hj).1
  have at_ : ∀ i (hi' : i < its.size), ∃ x u, its[i] = .str (T x) u ∧ xs[i]? = some x := fun i hi' => by
    obtain ⟨x, u, a, b⟩ := hi.item (i := i) (v := its[i]) (by simp [hi'])
    exact ⟨x, u, a, b⟩
  refine call_meets PySem.F.slot_list_index ⟨_, e, rfl⟩ PySem.F.entry_list_index (PySem.F.args_list_index_2 _ _)
    (SeqAt.list_indexAt l its n _ _ (.str (T g) t) (isStrOf (T g)) j (by omega) (by omega) ?_ ?_) ⟨e, fun y hy => (eq_isStrOf (T g) t hi y (by simpa using hy)).at _ _, h _ _⟩
  · obtain ⟨x, u, a, b⟩ := at_ j (by omega)
    rw [hj] at b; cases b
    rw [a]
    simp [isStrOf]
  · intro i hi' hij
    obtain ⟨x, u, a, b⟩ := at_ i hi'
    rw [a]
    have : x ≠ g := fun q => hno i hij (by rw [b, q])
    show (T x == T g) = false
    rw [T_beq, decide_eq_false this]
end
end Mine
end
theorem Mine.walk_off_PC0 : True := by
  w_top off
  k_with_none
  trivial
section
open PySem PySem.W PyProof.Rows PySem.Calls PySem.Spec
set_option Elab.async false
namespace Mine
/-- a writing sign by sign: a sign of its own, or a reference -/
structure Code (f : Nat → List Nat) : Prop where
  sh : ∀ c, (f c = [c] ∧ c ≠ 38) ∨ ∃ b, f c = 38 :: (b ++ [59]) ∧ 38 ∉ b ∧ 59 ∉ b
  inj : ∀ c d, f c = f d → c = d
namespace Code
variable {f : Nat → List Nat} (H : Code f)
include H
theorem semi {b b' x y : List Nat} (h : b ++ 59 :: x = b' ++ 59 :: y) (h1 : 59 ∉ b) (h2 : 59 ∉ b') : b = b' ∧ x = y := by
  clear H
  induction b generalizing b' with
  | nil =>
    cases b' with
    | nil => simpa using h
    | cons d b' => simp at h; exact absurd (h.1 ▸ List.mem_cons_self) h2
  | cons c b ih =>
    cases b' with
    | nil => simp at h; exact absurd (h.1 ▸ List.mem_cons_self) h1
    | cons d b' =>
      simp at h
      have := ih h.2 (fun e => h1 (List.mem_cons_of_mem _ e)) (fun e => h2 (List.mem_cons_of_mem _ e))
      exact ⟨by rw [h.1, this.1], this.2⟩
theorem first {c d : Nat} {x y : List Nat} (h : f c ++ x = f d ++ y) : c = d ∧ x = y := by
  rcases H.sh c with ⟨e1, n1⟩ | ⟨b, e1, a1, a2⟩
  · rcases H.sh d with ⟨e2, n2⟩ | ⟨b', e2, a1', a2'⟩
    · rw [e1, e2] at h; simpa using h
    · rw [e1, e2] at h; simp at h; exact absurd h.1 n1
  · rcases H.sh d with ⟨e2, n2⟩ | ⟨b', e2, a1', a2'⟩
    · rw [e1, e2] at h; simp at h; exact absurd h.1.symm n2
    · rw [e1, e2] at h
      simp at h
      obtain ⟨rfl, e⟩ := semi H h a2 a2'
      exact ⟨H.inj _ _ (by rw [e1, e2]), e⟩
theorem ne_nil (c : Nat) : f c ≠ [] := by
  rcases H.sh c with ⟨e1, _⟩ | ⟨b, e1, _⟩ <;> rw [e1] <;> simp
theorem flat_inj {a b : List Nat} (h : a.flatMap f = b.flatMap f) : a = b := by
  induction a generalizing b with
  | nil =>
    cases b with
    | nil => rfl
    | cons d b =>
      rw [List.flatMap_cons, List.flatMap_nil] at h
      exact absurd (List.append_eq_nil_iff.mp h.symm).1 (H.ne_nil d)
  | cons c a ih =>
    cases b with
    | nil =>
      rw [List.flatMap_cons, List.flatMap_nil] at h
      exact absurd (List.append_eq_nil_iff.mp h).1 (H.ne_nil c)
    | cons d b =>
      rw [List.flatMap_cons, List.flatMap_cons] at h
      obtain ⟨rfl, e⟩ := H.first h
      rw [ih e]
/-- after each stroke of a reference comes its end -/
theorem shut : ∀ (g X p : List Nat), g.flatMap f = X ++ 38 :: p → 59 ∈ p
  | [], X, p, h => by simp at h
  | c :: g, X, p, h => by
    rw [List.flatMap_cons] at h
    rcases List.append_eq_append_iff.mp h with ⟨a, e1, e2⟩ | ⟨a, e1, e2⟩
    · exact shut g a p e2
    · cases a with
      | nil => exact shut g [] p e2.symm
      | cons d a =>
        simp at e2
        obtain ⟨rfl, e2⟩ := e2
        rcases H.sh c with ⟨e3, n3⟩ | ⟨b, e3, n3, n4⟩
        · rw [e3] at e1
          cases X with
          | nil => simp at e1; exact absurd e1.1 n3
          | cons x X => simp at e1
        · rw [e3] at e1
          cases X with
          | nil => simp at e1; rw [e2, ← e1]; simp
          | cons x X =>
            simp at e1
            have : 38 ∈ b ++ [59] := by rw [e1.2]; simp
            rcases List.mem_append.mp this with h | h
            · exact absurd h n3
            · simp at h
/-- where a writing is cut: between signs, or within a reference -/
theorem cut : ∀ (w P S : List Nat), w.flatMap f = P ++ S → (∃ a b, w = a ++ b ∧ P = a.flatMap f ∧ S = b.flatMap f) ∨ ∃ X p, P = X ++ 38 :: p ∧ 59 ∉ p
  | [], P, S, h => by
    simp at h
    exact .inl ⟨[], [], rfl, by simp [h.1], by simp [h.2]⟩
  | c :: w, P, S, h => by
    rw [List.flatMap_cons] at h
    rcases List.append_eq_append_iff.mp h with ⟨a, e1, e2⟩ | ⟨a, e1, e2⟩
    · rcases cut w a S e2 with ⟨u, v, e3, e4, e5⟩ | ⟨X, p, e3, e4⟩
      · exact .inl ⟨c :: u, v, by rw [e3]; rfl, by rw [e1, e4, List.flatMap_cons], e5⟩
      · exact .inr ⟨f c ++ X, p, by rw [e1, e3, List.append_assoc], e4⟩
    · cases P with
      | nil =>
        exact .inl ⟨[], c :: w, rfl, rfl, by rw [e2, List.flatMap_cons, e1]; rfl⟩
      | cons x P =>
        cases a with
        | nil => exact .inl ⟨[c], w, rfl, by simp at e1; simp [e1], by simpa using e2⟩
        | cons y a =>
          rcases H.sh c with ⟨e3, n3⟩ | ⟨b, e3, n3, n4⟩
          · rw [e3] at e1; simp at e1
          · rw [e3] at e1
            simp at e1
            obtain ⟨rfl, e1⟩ := e1
            refine .inr ⟨[], P, rfl, fun hm => n4 ?_⟩
            have : P.length ≤ b.length := by
              have := congrArg List.length e1
              simp at this; omega
            have e4 := List.append_eq_append_iff.mp e1
            rcases e4 with ⟨q, e5, e6⟩ | ⟨q, e5, e6⟩
            · have hq : q = [] := by
                have := congrArg List.length e5
                simp at this
                exact List.length_eq_zero_iff.mp (by omega)
              rw [e5, hq, List.append_nil] at hm
              exact hm
            · rw [e5]; exact List.mem_append_left _ hm
/-- a writing turned is a writing only where no reference is cut -/
theorem turn {g w : List Nat} (hl : (w.flatMap f).length = (g.flatMap f).length) : g.flatMap f <:+: w.flatMap f ++ w.flatMap f ↔ ∃ a b, w = a ++ b ∧ g = b ++ a := by
  constructor
  · rintro ⟨X, Y, h⟩
    have hlen := congrArg List.length h
    simp only [List.length_append] at hlen
    have hk : X.length ≤ (w.flatMap f).length := by omega
    have e1 : X ++ (g.flatMap f ++ Y) = w.flatMap f ++ w.flatMap f := by rw [← h, List.append_assoc]
    have hX : X = (w.flatMap f).take X.length := by
      have := congrArg (List.take X.length) e1
      rw [List.take_left, List.take_append_of_le_length hk] at this
      exact this
    have hY : g.flatMap f ++ Y = (w.flatMap f).drop X.length ++ w.flatMap f := by
      have := congrArg (List.drop X.length) e1
      rw [List.drop_left, List.drop_append_of_le_length hk] at this
      exact this
    have hg : g.flatMap f = (w.flatMap f).drop X.length ++ (w.flatMap f).take X.length := by
      have := congrArg (List.take (g.flatMap f).length) hY
      rw [List.take_left] at this
      rw [this, List.take_append, List.take_of_length_le (by rw [List.length_drop]; omega)]
      rw [List.length_drop, show (List.flatMap f g).length - ((List.flatMap f w).length - X.length) = X.length by omega]
    rw [← hX] at hg
    rcases H.cut w X ((w.flatMap f).drop X.length) (by conv => rhs; lhs; rw [hX]
                                                       exact (List.take_append_drop _ _).symm) with ⟨a, b, e2, e3, e4⟩ | ⟨Z, p, e2, e3⟩
    · refine ⟨a, b, e2, H.flat_inj ?_⟩
      rw [hg, e4, e3, List.flatMap_append]
    · exfalso
      refine e3 (H.shut g (((w.flatMap f).drop X.length) ++ Z) p ?_)
      rw [hg]
      conv => lhs; rhs; rw [e2]
      rw [List.append_assoc]
  · rintro ⟨a, b, rfl, rfl⟩
    refine ⟨a.flatMap f, b.flatMap f, ?_⟩
    simp [List.flatMap_append]
end Code
end Mine
end
theorem Mine.walk_off_Q1 : True := by
  w_top off
  k_with_none
  trivial
section
open PySem PySem.W PyProof.Rows PySem.Calls PySem.Spec
set_option Elab.async false
namespace Mine
noncomputable def refOk (l : List Nat) : Bool := (l == 38 :: ((l.drop 1).take (l.length - 2) ++ [59])) && !((l.drop 1).take (l.length - 2)).contains 38 && !((l.drop 1).take (l.length - 2)).contains 59
theorem refOk_sh {l : List Nat} (h : refOk l = true) : ∃ b, l = 38 :: (b ++ [59]) ∧ 38 ∉ b ∧ 59 ∉ b := by
  unfold refOk at h
  simp only [Bool.and_eq_true, beq_iff_eq, Bool.not_eq_true', List.contains_eq_mem, decide_eq_false_iff_not] at h
  exact ⟨_, h.1.1, h.1.2, h.2⟩
theorem code_of {ps : List (Nat × List Nat)} (h1 : (ps.all fun p => refOk (ch ps p.1)) = true) (h2 : (ps.any fun p => p.1 == 38) = true) (h3 : (ps.all fun p => ps.all fun q => !(ch ps p.1 == ch ps q.1) || p.1 == q.1) = true) : Code (ch ps) := by
  have key : ∀ c, (∃ p ∈ ps, p.1 = c) ∨ (ch ps c = [c] ∧ c ≠ 38) := by
    intro c
    by_cases hd : ∃ p ∈ ps, p.1 = c
    · exact .inl hd
    · refine .inr ⟨ch_free ps c fun p hp e => hd ⟨p, hp, e⟩, fun e => hd ?_⟩
      obtain ⟨p, hp, e2⟩ := List.any_eq_true.mp h2
      exact ⟨p, hp, by rw [e]; simpa using e2⟩
  refine ⟨fun c => ?_, fun c d e => ?_⟩
  · rcases key c with ⟨p, hp, rfl⟩ | h
    · exact .inr (refOk_sh (List.all_eq_true.mp h1 p hp))
    · exact .inl h
  · rcases key c with ⟨p, hp, rfl⟩ | hc
    · rcases key d with ⟨q, hq, rfl⟩ | hd
      · have := List.all_eq_true.mp (List.all_eq_true.mp h3 p hp) q hq
        rw [e] at this
        simpa using this
      · obtain ⟨b, hb, _⟩ := refOk_sh (List.all_eq_true.mp h1 p hp)
        rw [hb, hd.1] at e
        simp at e
    · rcases key d with ⟨q, hq, rfl⟩ | hd
      · obtain ⟨b, hb, _⟩ := refOk_sh (List.all_eq_true.mp h1 q hq)
        rw [hb, hc.1] at e
        simp at e
      · rw [hc.1, hd.1] at e
        simpa using e
theorem code_W (k : Nat) : Code (ch (chW k)) := by
  match k with
  | 0 => exact code_of (by decide +kernel) (by decide +kernel) (by decide +kernel)
  | 1 => exact code_of (by decide +kernel) (by decide +kernel) (by decide +kernel)
  | 2 => exact code_of (by decide +kernel) (by decide +kernel) (by decide +kernel)
  | 3 => exact code_of (by decide +kernel) (by decide +kernel) (by decide +kernel)
  | n + 4 => show Code (ch ch_attrib_c14n); exact code_of (by decide +kernel) (by decide +kernel) (by decide +kernel)
/-- the circle: those words that the writing test lets pass are the turns -/
noncomputable def isTurn (g w : List Nat) : Bool := (List.range (g.length + 1)).any fun k => decide (w = g.drop k ++ g.take k)
theorem isTurn_iff {g w : List Nat} : isTurn g w = true ↔ ∃ a b, w = a ++ b ∧ g = b ++ a := by
  unfold isTurn
  rw [List.any_eq_true]
  constructor
  · rintro ⟨k, _, h⟩
    exact ⟨g.drop k, g.take k, of_decide_eq_true h, (List.take_append_drop k g).symm⟩
  · rintro ⟨a, b, rfl, rfl⟩
    refine ⟨b.length, List.mem_range.mpr (by simp; omega), decide_eq_true ?_⟩
    simp
theorem turn_len {a b : List Nat} (f : Nat → List Nat) : ((a ++ b).flatMap f).length = ((b ++ a).flatMap f).length := by
  rw [List.flatMap_append, List.flatMap_append, List.length_append, List.length_append, Nat.add_comm]
theorem circle_test (k : Nat) (g w : List Nat) : ((w.flatMap (ch (chW k))).length = (g.flatMap (ch (chW k))).length ∧ g.flatMap (ch (chW k)) <:+: w.flatMap (ch (chW k)) ++ w.flatMap (ch (chW k))) ↔ isTurn g w = true := by
  rw [isTurn_iff]
  constructor
  · rintro ⟨h1, h2⟩
    exact ((code_W k).turn h1).mp h2
  · rintro ⟨a, b, rfl, rfl⟩
    exact ⟨turn_len _, ((code_W k).turn (turn_len _)).mpr ⟨a, b, rfl, rfl⟩⟩
end Mine
end
theorem Mine.walk_off_Q2 : True := by
  w_top off
  k_with_none
  trivial
section
open PySem PySem.W PyProof.Rows PySem.Calls PySem.Spec
set_option Elab.async false
namespace Mine
noncomputable def rotK (g : List Nat) (k : Nat) : List Nat := g.drop k ++ g.take k
noncomputable def circ (W : List (List Nat)) (g : List Nat) : List (List Nat) := W.filter (isTurn g)
noncomputable def offC (L C : List (List Nat)) : List (List Nat) := L.filter fun w => !C.contains w
noncomputable def stepW (W : List (List Nat)) : List (List Nat) × List Nat → List (List Nat) × List Nat
  | ([], R) => ([], R)
  | (g :: r, R) => (offC (g :: r) (circ W g), R ++ g.take (circ W g).length)
noncomputable def runW (W : List (List Nat)) : Nat → List (List Nat) × List Nat
  | 0 => (W, [])
  | n + 1 => stepW W (runW W n)
noncomputable def winds (R : List Nat) (size : Nat) : List (List Nat) := (List.range R.length).map fun k => ((R ++ R).drop k).take size
/-- what a turn of the law's loop needs of the words left -/
structure GoodW (size : Nat) (W L : List (List Nat)) : Prop where
  ex : ∃ g r C', L = g :: r ∧ g ∈ W ∧ circ W g = g :: C' ∧ (∀ c ∈ C', g < c) ∧ (∀ c ∈ C', ¬ c < g) ∧ (∀ k, k < size → rotK g k ∈ circ W g) ∧ (∀ c ∈ circ W g, ∃ k, k < size ∧ c = rotK g k) ∧ (circ W g).Pairwise (· < ·) ∧ (∀ c ∈ circ W g, c ∈ L) ∧ L.Pairwise (· < ·)
noncomputable def goodB (size : Nat) (W : List (List Nat)) : List (List Nat) → Bool
  | [] => false
  | g :: r => W.contains g && (match circ W g with | [] => false | c :: C' => c == g && C'.all (fun c => decide (g < c)) && C'.all (fun c => !decide (c < g))) && (List.range size).all (fun k => (circ W g).contains (rotK g k)) && (circ W g).all (fun c => (List.range size).any fun k => c == rotK g k) && decide ((circ W g).Pairwise (· < ·)) && (circ W g).all (fun c => (g :: r).contains c) && decide ((g :: r).Pairwise (· < ·))
theorem goodB_W {size : Nat} {W L : List (List Nat)} (h : goodB size W L = true) : GoodW size W L := by
  cases L with
  | nil => cases h
  | cons g r =>
    unfold goodB at h
    simp only [Bool.and_eq_true, List.contains_eq_mem, decide_eq_true_eq, List.all_eq_true, List.mem_range, List.any_eq_true, beq_iff_eq] at h
    obtain ⟨⟨⟨⟨⟨⟨h1, h2⟩, h3⟩, h4⟩, h5⟩, h6⟩, h7⟩ := h
    cases hC : circ W g with
    | nil => rw [hC] at h2; cases h2
    | cons c C' =>
      rw [hC] at h2
      simp only [Bool.and_eq_true, beq_iff_eq, List.all_eq_true, decide_eq_true_eq, Bool.not_eq_true', decide_eq_false_iff_not] at h2
      obtain ⟨⟨rfl, h8⟩, h9⟩ := h2
      exact ⟨c, r, C', rfl, h1, hC, h8, h9, h3, h4, h5, h6, h7⟩
/-- signs by their place -/
noncomputable def phi (sg : List Nat) (i : Nat) : Nat := sg.getD i (sg.sum + 1 + i)
theorem mem_le_sum : ∀ {l : List Nat} {x : Nat}, x ∈ l → x ≤ l.sum
  | y :: l, x, h => by
    rw [List.sum_cons]
    rcases List.mem_cons.mp h with rfl | h
    · omega
    · have := mem_le_sum h; omega
theorem phi_mono {sg : List Nat} (h : sg.Pairwise (· < ·)) {i j : Nat} (hij : i < j) : phi sg i < phi sg j := by
  unfold phi
  by_cases hj : j < sg.length
  · have hi : i < sg.length := by omega
    simp only [List.getD, List.getElem?_eq_getElem hi, List.getElem?_eq_getElem hj, Option.getD_some]
    exact List.pairwise_iff_getElem.mp h i j hi hj hij
  · have ej : sg[j]? = none := List.getElem?_eq_none (by omega)
    simp only [List.getD, ej, Option.getD_none]
    by_cases hi : i < sg.length
    · simp only [List.getElem?_eq_getElem hi, Option.getD_some]
      have := mem_le_sum (List.getElem_mem hi)
      omega
    · have ei : sg[i]? = none := List.getElem?_eq_none (by omega)
      simp only [ei, Option.getD_none]
      omega
theorem phi_lt {sg : List Nat} (h : sg.Pairwise (· < ·)) {i j : Nat} : phi sg i < phi sg j ↔ i < j := by
  constructor
  · intro hl
    rcases Nat.lt_trichotomy i j with h1 | h1 | h1
    · exact h1
    · subst h1; omega
    · have := phi_mono h h1; omega
  · exact phi_mono h
theorem phi_inj {sg : List Nat} (h : sg.Pairwise (· < ·)) {i j : Nat} (e : phi sg i = phi sg j) : i = j := by
  rcases Nat.lt_trichotomy i j with h1 | h1 | h1
  · have := phi_mono h h1; omega
  · exact h1
  · have := phi_mono h h1; omega
theorem range_phi (sg : List Nat) : (List.range sg.length).map (phi sg) = sg := by
  refine List.ext_getElem (by simp) fun i h1 h2 => ?_
  simp [phi, List.getD, h2]
section
variable {f : Nat → Nat} (lt : ∀ i j, f i < f j ↔ i < j)
include lt
theorem f_inj {i j : Nat} (e : f i = f j) : i = j := by
  rcases Nat.lt_trichotomy i j with h1 | h1 | h1
  · have := (lt _ _).mpr h1; omega
  · exact h1
  · have := (lt _ _).mpr h1; omega
theorem map_inj {a b : List Nat} (e : a.map f = b.map f) : a = b := (List.map_inj_right fun _ _ => f_inj lt).mp e
theorem map_lt {a b : List Nat} : a.map f < b.map f ↔ a < b := by
  induction a generalizing b with
  | nil => cases b <;> simp
  | cons x a ih =>
    cases b with
    | nil => simp
    | cons y b =>
      rw [List.map_cons, List.map_cons, List.cons_lt_cons_iff, List.cons_lt_cons_iff, ih, lt]
      constructor
      · rintro (h | ⟨h, h2⟩)
        · exact .inl h
        · exact .inr ⟨f_inj lt h, h2⟩
      · rintro (h | ⟨rfl, h2⟩)
        · exact .inl h
        · exact .inr ⟨rfl, h2⟩
theorem turn_map {g w : List Nat} : isTurn (g.map f) (w.map f) = isTurn g w := by
  rw [Bool.eq_iff_iff, isTurn_iff, isTurn_iff]
  constructor
  · rintro ⟨a, b, e1, e2⟩
    refine ⟨w.take a.length, w.drop a.length, (List.take_append_drop _ _).symm, map_inj lt ?_⟩
    rw [e2, List.map_append, List.map_drop, List.map_take, e1]
    simp
  · rintro ⟨a, b, rfl, rfl⟩
    exact ⟨a.map f, b.map f, by simp, by simp⟩
theorem circ_map {W : List (List Nat)} {g : List Nat} : circ (W.map (List.map f)) (g.map f) = (circ W g).map (List.map f) := by
  unfold circ
  rw [List.filter_map]
  congr 1
  exact congrArg (fun p => List.filter p W) (funext fun w => turn_map lt)
theorem mem_map' {W : List (List Nat)} {g : List Nat} : g.map f ∈ W.map (List.map f) ↔ g ∈ W := by
  constructor
  · intro h
    obtain ⟨x, hx, e⟩ := List.mem_map.mp h
    rw [← map_inj lt e]; exact hx
  · exact fun h => List.mem_map.mpr ⟨g, h, rfl⟩
theorem offC_map {L C : List (List Nat)} : offC (L.map (List.map f)) (C.map (List.map f)) = (offC L C).map (List.map f) := by
  unfold offC
  rw [List.filter_map]
  congr 1
  refine congrArg (fun p => List.filter p L) (funext fun w => ?_)
  simp only [Function.comp, List.contains_eq_mem]
  rw [decide_eq_decide.mpr (mem_map' lt)]
omit lt in
theorem rot_map {g : List Nat} {k : Nat} : rotK (g.map f) k = (rotK g k).map f := by
  unfold rotK; rw [List.map_append, List.map_drop, List.map_take]
theorem pw_map {L : List (List Nat)} (h : L.Pairwise (· < ·)) : (L.map (List.map f)).Pairwise (· < ·) := by
  rw [List.pairwise_map]
  exact h.imp fun h => (map_lt lt).mpr h
theorem good_map {size : Nat} {W L : List (List Nat)} (h : GoodW size W L) : GoodW size (W.map (List.map f)) (L.map (List.map f)) := by
  obtain ⟨g, r, C', rfl, h1, h2, h3, h4, h5, h6, h7, h8, h9⟩ := h.ex
  refine ⟨g.map f, r.map (List.map f), C'.map (List.map f), rfl, (mem_map' lt).mpr h1, ?_, ?_, ?_, ?_, ?_, ?_, ?_, pw_map lt h9⟩
  · rw [circ_map lt, h2]; rfl
  · intro c hc
    obtain ⟨d, hd, rfl⟩ := List.mem_map.mp hc
    exact (map_lt lt).mpr (h3 d hd)
  · intro c hc
    obtain ⟨d, hd, rfl⟩ := List.mem_map.mp hc
    exact fun e => h4 d hd ((map_lt lt).mp e)
  · intro k hk
    rw [circ_map lt, rot_map]
    exact (mem_map' lt).mpr (h5 k hk)
  · intro c hc
    rw [circ_map lt] at hc
    obtain ⟨d, hd, rfl⟩ := List.mem_map.mp hc
    obtain ⟨k, hk, e⟩ := h6 d hd
    exact ⟨k, hk, by rw [rot_map, e]⟩
  · rw [circ_map lt]; exact pw_map lt h7
  · intro c hc
    rw [circ_map lt] at hc
    obtain ⟨d, hd, rfl⟩ := List.mem_map.mp hc
    exact (mem_map' lt).mpr (h8 d hd)
theorem step_map {W : List (List Nat)} {st : List (List Nat) × List Nat} : stepW (W.map (List.map f)) (st.1.map (List.map f), st.2.map f) = ((stepW W st).1.map (List.map f), (stepW W st).2.map f) := by
  obtain ⟨L, R⟩ := st
  cases L with
  | nil => rfl
  | cons g r =>
    show (offC (List.map f g :: List.map (List.map f) r) (circ (W.map (List.map f)) (g.map f)), R.map f ++ (g.map f).take (circ (W.map (List.map f)) (g.map f)).length) = _
    rw [circ_map lt, ← List.map_cons, offC_map lt]
    simp [stepW]
theorem run_map {W : List (List Nat)} : ∀ n, runW (W.map (List.map f)) n = ((runW W n).1.map (List.map f), (runW W n).2.map f)
  | 0 => rfl
  | n + 1 => by
    show stepW _ (runW _ n) = _
    rw [run_map n, step_map lt]
    rfl
omit lt in
theorem winds_map {R : List Nat} {size : Nat} : winds (R.map f) size = (winds R size).map (List.map f) := by
  unfold winds
  rw [List.map_map, List.length_map]
  refine List.map_congr_left fun k _ => ?_
  simp [List.map_drop, List.map_take]
end
end Mine
end
theorem Mine.walk_off_Q3 : True := by
  w_top off
  k_with_none
  trivial
section
open PySem PySem.W PyProof.Rows PySem.Calls PySem.Spec
set_option Elab.async false
namespace Mine
theorem words_map (f : Nat → Nat) (is : List Nat) : ∀ k, wordsN (is.map f) k = (wordsN is k).map (List.map f)
  | 0 => rfl
  | k + 1 => by
    rw [wordsN, wordsN, words_map f is k]
    unfold allPairs
    rw [List.flatMap_map, List.map_flatMap]
    refine congrArg (fun g => List.flatMap g (wordsN is k)) (funext fun a => ?_)
    simp [List.map_map, Function.comp_def]
/-- all that the order of the words asks of a shape: so many signs, so long words, so many circles -/
structure Shape4 (size N : Nat) (W : List (List Nat)) : Prop where
  good : ∀ n, n < N → GoodW size W (runW W n).1
  done : (runW W N).1 = []
  pw : W.Pairwise (· < ·)
  perm : (winds (runW W N).2 size).Perm W
noncomputable def shapeB (size N : Nat) (W : List (List Nat)) : Bool := (List.range N).all (fun n => goodB size W (runW W n).1) && (runW W N).1.isEmpty && decide (W.Pairwise (· < ·)) && (winds (runW W N).2 size).isPerm W
theorem shape_of {size N : Nat} {W : List (List Nat)} (h : shapeB size N W = true) : Shape4 size N W := by
  unfold shapeB at h
  simp only [Bool.and_eq_true, List.all_eq_true, List.mem_range, List.isEmpty_iff, decide_eq_true_eq, List.isPerm_iff] at h
  obtain ⟨⟨⟨h1, h2⟩, h3⟩, h4⟩ := h
  exact ⟨fun n hn => goodB_W (h1 n hn), h2, h3, h4⟩
theorem shape_sg {size N many : Nat} {sg : List Nat} (hl : sg.length = many) (hs : sg.Pairwise (· < ·)) (h : Shape4 size N (wordsN (List.range many) size)) : Shape4 size N (wordsN sg size) := by
  subst hl
  have lt : ∀ i j, phi sg i < phi sg j ↔ i < j := fun i j => phi_lt hs
  have e : wordsN sg size = (wordsN (List.range sg.length) size).map (List.map (phi sg)) := by
    conv => lhs; rw [← range_phi sg]
    exact words_map _ _ _
  rw [e]
  refine ⟨fun n hn => ?_, ?_, pw_map lt h.pw, ?_⟩
  · rw [run_map lt]; exact good_map lt (h.good n hn)
  · rw [run_map lt]; show List.map _ _ = []; rw [h.done]; rfl
  · rw [run_map lt]
    show (winds (List.map _ _) size).Perm _
    rw [winds_map]
    exact h.perm.map _
theorem shape24 : Shape4 4 6 (wordsN (List.range 2) 4) := shape_of (by decide +kernel)
theorem shape32 : Shape4 2 6 (wordsN (List.range 3) 2) := shape_of (by decide +kernel)
theorem shape42 : Shape4 2 10 (wordsN (List.range 4) 2) := shape_of (by decide +kernel)
theorem shape23 : Shape4 3 4 (wordsN (List.range 2) 3) := shape_of (by decide +kernel)
end Mine
end
theorem Mine.walk_off_Q4 : True := by
  w_top off
  k_with_none
  trivial
section
open PySem PySem.W PyProof.Rows PySem.Calls PySem.Spec
set_option Elab.async false
set_option maxRecDepth 100000
set_option maxHeartbeats 8000000
namespace Mine

theorem wr_cases (c : Nat) : (c ∈ [42, 63, 91] ∧ wr c = [91] ++ [c] ++ [93]) ∨ (c ∉ [42, 63, 91] ∧ wr c = [c]) := by
  unfold wr
  by_cases h : c = 42 ∨ c = 63 ∨ c = 91
  · exact .inl ⟨by simpa using h, by rw [if_pos h]; rfl⟩
  · exact .inr ⟨by simpa using h, by rw [if_neg h]⟩
theorem first_idx {g : List Nat} : ∀ {ws : List (List Nat)}, g ∈ ws → ∃ j : Nat, ws[j]? = some g ∧ ∀ i : Nat, i < j → ws[i]? ≠ some g
  | [], h => nomatch h
  | x :: l, h => by
    by_cases e : x = g
    · exact ⟨0, by rw [e]; rfl, fun i hi => absurd hi (Nat.not_lt_zero _)⟩
    · obtain ⟨j, h1, h2⟩ := first_idx ((List.mem_cons.mp h).resolve_left fun q => e q.symm)
      refine ⟨j + 1, h1, fun i hi => ?_⟩
      cases i with
      | zero => exact fun q => e (Option.some.inj q)
      | succ i => exact h2 i (by omega)
theorem add_SP {prog : Program} {w : World} {A : Around} {E : Value → Shared → Prop} {s : Shared} {x y : Str} {a b : List Nat} {t u : Tok} {Q : Value → Shared → Prop} (h0 : 0 < s.toks) (hx : x = T a) (hy : y = T b) (hl : a.length ≤ 100000) (hl2 : b.length ≤ 100000) (h : ∀ t' k, 0 < k → Q (.str (T (a ++ b)) t') { s with toks := k }) : wpAny (model prog w) A (binaryOp .Add (.str x t) (.str y u)) Q E s :=
  with_pos h0 (add_S hx hy hl hl2 fun t' k h0 => h t' k h0)
theorem news2 {g h : Heap} {L : Addr} {all : List (Addr × Obj)} {x y : Addr × Obj} (N : News g L h all) (h1 : x ∈ all) (h2 : y ∈ all) : News g L h [x, y] := fun q hq => by
  rcases List.mem_cons.mp hq with rfl | hq
  · exact N _ h1
  · rw [List.mem_singleton] at hq; subst hq; exact N _ h2
theorem ne99 {g h : Heap} {L D : Addr} {all : List (Addr × Obj)} {o : Obj} {ps : Array Value} (N : News g L h all) (h1 : (D, o) ∈ all) (h2 : (99, tabObj ps) ∈ all) (ho : o.cls ≠ .none) : D ∉ [99] := by
  intro e
  rw [List.mem_singleton] at e
  have a := (N _ h1).1
  have b := (N _ h2).1
  rw [show ((D, o) : Addr × Obj).1 = 99 from e] at a
  rw [a] at b
  exact ho (congrArg Obj.cls (Option.some.inj b))
theorem zend {h₀ h : Heap} {L : Addr} {m : Str → Option Value} {s : Shared} {all : List (Addr × Obj)} {P : Prop} {tk : Nat} (F : Fr h₀ L h m) (N : News h₀ L h all) (hP : P) : ZEnd h₀ L m s all P { s with heap := h, toks := tk } := ⟨h, tk, rfl, F, N, hP⟩
theorem pick_yes {g a : List Nat} {ws : List (List Nat)} {us : List Value} {i : Nat} {t : Tok} (ha : ws[i]? = some a) (h : TL us ((ws.take i).filter (isTurn g))) (ht : isTurn g a = true) : TL (us ++ [.str (T a) t]) ((ws.take (i + 1)).filter (isTurn g)) := by
  rw [List.take_add_one, ha, List.filter_append]
  simpa [ht] using h.snoc a t
theorem pick_no {g a : List Nat} {ws : List (List Nat)} {us : List Value} {i : Nat} (ha : ws[i]? = some a) (h : TL us ((ws.take i).filter (isTurn g))) (ht : isTurn g a = false) : TL us ((ws.take (i + 1)).filter (isTurn g)) := by
  rw [List.take_add_one, ha, List.filter_append]
  simpa [ht] using h
theorem wr_len (c : Nat) : (wr c).length ≤ 6 := by unfold wr; split <;> simp
theorem c_translateP (w : World) (own p : List Nat) (t : Tok) (hp : p = patt own) (hown : own ≠ []) (hlen : own.length ≤ 1000) (hl1 : (patt own).length ≤ 100000) : TellP w 85 5 80 [.str (T p) t] lamPos (fun _ => True) (RStr (jhead ++ own.flatMap part ++ jtail)) := by
  subst hp
  exact c_translate w own t hown hlen hl1
section
variable {prog : Program} {w : World} {A : Around} {E : Value → Shared → Prop} {h₀ : Heap} {L : Addr} {m : Str → Option Value} {env : Env} {elt ct iter : Expr} {x : Str} {scope : Scope} {cl : List (Str × Addr)} {s : Shared} {S : List (Addr × Obj) → Prop} {Fin : List Value → List (Addr × Obj) → Prop} {news : List (Addr × Obj)}
theorem rest_wr {l : List Nat} {n : Nat} (hn : n = l.length)
    (turn : ∀ c t I oI C oC D m₂ ys h tk (E' : Value → Shared → Prop), c ∈ l → ys.length ≤ n → LCg.NsObj oC m₂ → m₂ x = some (.str (T [c]) t) → Fr h₀ L h m → News h₀ L h ((I, oI) :: (C, oC) :: (D, LCg.lst ys) :: news) → LCg.Off3 I C D news → ((@Ne Nat I C) ∧ (@Ne Nat I D) ∧ (@Ne Nat C D)) →
      wpAny (model prog w) A (eval elt (compEnvC scope cl C env)) (LCg.CompEnd h₀ L m { s with heap := h, toks := tk } I oI C oC D (LCg.lst ys) S (fun y news' => news' = news ∧ ∃ t, y = .str (T (wr c)) t)) E' { s with heap := h, toks := tk })
    (fin : ∀ ys, TL ys (l.map wr) → Fin ys news) : LCg.CompRest prog w A h₀ L m env elt x scope cl s S (fun i v => ∃ c, l[i]? = some c ∧ ∃ u, v = .str (T [c]) u) Fin n 0 [] news := by
  refine rest_all (xs := l) (fun c v => ∃ t, v = .str (T [c]) t) (fun c y => ∃ t, y = .str (T (wr c)) t) hn.symm (fun i v h => h) (fun a v I oI C oC D m₂ ys h tk E' ha hv hl hC hx F N off ne => ?_) fun ys h => fin ys h.toTL1
  obtain ⟨t, rfl⟩ := hv
  exact turn a t I oI C oC D m₂ ys h tk E' ha hl hC hx F N off ne
end
theorem rows_P24_1 : True := by
  k_with_none
  k_with "ne" => (refine neN ?_; (try dsimp only); first | exact Nat.ne_of_lt (by assumption) | exact Nat.ne_of_gt (by assumption) | exact Mine.la0 (by assumption) | exact Mine.ga0 (by assumption) | exact Mine.la1 (by assumption) | exact Mine.ga1 (by assumption) | exact Mine.le1 (by assumption) | exact Mine.ge1 (by assumption) | exact Mine.la2 (by assumption) | exact Mine.ga2 (by assumption) | exact Mine.le2 (by assumption) | exact Mine.ge2 (by assumption) | exact Mine.la3 (by assumption) | exact Mine.ga3 (by assumption) | exact Mine.le3 (by assumption) | exact Mine.ge3 (by assumption) | exact Mine.la4 (by assumption) | exact Mine.ga4 (by assumption) | exact Mine.le4 (by assumption) | exact Mine.ge4 (by assumption) | exact Mine.la5 (by assumption) | exact Mine.ga5 (by assumption) | exact Mine.le5 (by assumption) | exact Mine.ge5 (by assumption) | exact Mine.la6 (by assumption) | exact Mine.ga6 (by assumption) | exact Mine.le6 (by assumption) | exact Mine.ge6 (by assumption) | exact Mine.la7 (by assumption) | exact Mine.ga7 (by assumption) | exact Mine.le7 (by assumption) | exact Mine.ge7 (by assumption) | exact Mine.la8 (by assumption) | exact Mine.ga8 (by assumption) | exact Mine.le8 (by assumption) | exact Mine.ge8 (by assumption))
  k_with "room" => (first | exact Mine.room0 (by assumption) | exact Mine.room1 (by assumption) (by decide) | exact Mine.room2 (by assumption) (by decide))
  k_with "units" => (first | exact Mine.room0 (by assumption) | exact Mine.room1 (by assumption) (by decide) | exact Mine.room2 (by assumption) (by decide))
  k_with "size" => (first | exact Nat.zero_le _ | with_reducible exact Mine.szT (by assumption) | with_reducible exact Mine.szT1 (by assumption) | with_reducible exact Mine.szK (by assumption) | with_reducible exact Mine.szK1 (by assumption))
  k_with "LeaveM" => (k_dflt (refine' Mine.leaveM_ ?k1 ?k2 ?_; (case k1 => k_asm); (case k2 => k_asm); k_whole); intro kF kS kN kf; (try dsimp only))
  k_with "Kont" => ((try dsimp only); first | (refine' Mine.kont_next ?L_k ?_; (case L_k => assumption); intro tkp htkp) | (refine' Mine.kont_ret ?L_k ?_; (case L_k => assumption)) | (refine' Mine.kont_brk ?L_k ?_; (case L_k => assumption)) | (refine' Mine.kont_cont ?L_k ?_; (case L_k => assumption)))
  k_with "execs cons" => (k_here; first | refine Mine.execs_one ?_ | ((first | (refine' Mine.execs_kont ?kp_k ?_; (case kp_k => assumption)) | (refine Mine.gen_pos ?kp_k ?_; (case kp_k => first | assumption | exact Nat.succ_pos _ | omega); intro tkp htkp; refine Mine.execs_kont htkp ?_)); intro K9 hK9))
  k_with "call ref" => (k_here; k_dflt (refine' Mine.Tell.use (Mine.c_piece _ _ _ (by assumption)) ?X ?B ?F ?N ?T ?hk ?hd ?hu ?ht ?hn ?_; (case X => k_asm); (case B => k_asm); (case F => k_asm); (case N => k_asm); (case T => k_asm); (case hk => first | exact rfl | assumption); (case hd => ktr_room); (case hu => ktr_units); (case ht => first | assumption | exact Nat.succ_pos _ | omega | (dsimp only; omega)); (case hn => trivial); k_whole; intro v9 own9 h9 tk9 F9 N9 ne9 p9 R9; obtain ⟨⟨t9, e9⟩, o9⟩ := R9; subst e9; subst o9; (try simp only [List.nil_append] at N9); (try dsimp only); (try k_fold)))
  k_with "call ref" => (k_here; k_dflt (refine' Mine.TellP.use (Mine.c_translateP _ _ _ _ (by assumption) (by assumption) (by assumption) (by assumption)) ?X ?B ?F ?N ?T ?C ?U ?hp ?hk ?hd ?hu ?ht ?hn ?_; (case X => k_asm); (case B => k_asm); (case F => k_asm); (case N => k_asm); (case T => k_asm); (case C => assumption); (case U => k_updF); (case hp => assumption); (case hk => first | exact rfl | assumption); (case hd => ktr_room); (case hu => ktr_units); (case ht => first | assumption | exact Nat.succ_pos _ | omega | (dsimp only; omega)); (case hn => trivial); k_whole; intro v9 own9 ps9 h9 tk9 F9 N9 ne9 hp9 p9 R9; (try dsimp only at N9); obtain ⟨⟨t9, e9⟩, o9⟩ := R9; subst e9; subst o9; (try simp only [List.nil_append] at N9); (try dsimp only); (try k_fold)))
  k_with "getMethod ref" => (k_here; (with_reducible show wpAny _ _ (getMethod (Value.ref _) (PySem.Str.ofString "index") _) _ _ _); k_dflt (refine' Mine.index_getM ?ho ?_; (case ho => exact Fr.keep (by k_asm) _ _ (by assumption)); k_whole))
  k_with "call builtin:list.index" => (k_here; k_dflt (refine' Mine.index_M ?hl ?hi ?hj ?hno ?hz ?_; (case hl => is_list); (case hi => assumption); (case hj => assumption); (case hno => assumption); (case hz => assumption); k_whole); intro t9 k9; (try dsimp only))
  k_with "subscriptTail Name Call ref int" => (k_here; k_dflt (refine' Mine.item_L ?hl ?hx ?h0 ?hi ?_ ?hs ?hg; (case hl => is_list); (case hx => assumption); (case h0 => first | exact Mine.nn0 | exact Mine.nn1 | exact Mine.nn2 | exact Mine.nn3 | omega); (case hi => omega); (case hs => with_unfolding_all rfl); (case hg => (intro _; with_unfolding_all rfl)); k_whole; (try dsimp only)))
  k_with "eval ListComp" => (k_here; (with_reducible show wpAny _ _ (eval (Expr.ListComp (Expr.IfExp _ _ _ _) _ _ _) _) _ _ _); k_dflt (refine Mine.ListComp_S (_F₀ := by k_asm) (by with_unfolding_all rfl) (by decide) (by rfl) (by decide) (by rfl) ?_))
  k_with "SrcS" => (k_here; k_dflt (((refine Mine.SrcS.intro (by rfl) (by k_asm) (by k_asm) (by rw [PySem.sizeLine_eq]; omega) ?_); intro g9; (refine' Mine.rest_wr ?hn (fun c9 t9 I9 oI9 C9 oC9 D9 m9 ys9 h9 tk9 E9 hc9 hl9 hC9 hx9 F9 N9 off9 ne9 => ?_) (fun ys9 TL9 => ?_); (case hn => rfl)); (have off8 := off9; (try simp only [LCg.Off3, and_true] at off8)); (rcases Mine.wr_cases c9 with hw9 | hw9))))
  k_with "compareOp In str str" => (k_here; k_dflt ((first | (refine' Mine.inT_yes (l := [42, 63, 91]) ?hx ?hd ?_; (case hx => decide); (case hd => exact And.left (by assumption)); k_whole) | (refine' Mine.inT_no (l := [42, 63, 91]) ?hx ?hd ?_; (case hx => decide); (case hd => exact And.left (by assumption)); k_whole)); (try dsimp only)))
  k_with "binaryOp Add str str" => (k_here; k_dflt ((first | (refine' Mine.add_S (a := [91]) ?hx ?hy ?hl ?hl2 ?_; (case hx => decide); (case hy => rfl); (case hl => decide); (case hl2 => exact Nat.le_of_ble_eq_true rfl); k_whole) | (refine' Mine.add_S (b := [93]) ?hx ?hy ?hl ?hl2 ?_; (case hy => decide); (case hx => rfl); (case hl => exact Nat.le_of_ble_eq_true rfl); (case hl2 => decide); k_whole)); intro t9 k9; (try dsimp only)))
  k_with "binaryOp Add str str" => (k_here; k_dflt ((first | (refine' Mine.add_SP (a := [42]) ?h0 ?hx ?hy ?hl ?hl2 ?_; (case hx => decide); (case h0 => first | assumption | exact Nat.succ_pos _ | omega); (case hy => rfl); (case hl => decide); (case hl2 => assumption); k_whole) | (refine' Mine.add_SP (b := [42]) ?h0 ?hx ?hy ?hl ?hl2 ?_; (case hy => decide); (case h0 => first | assumption | exact Nat.succ_pos _ | omega); (case hx => rfl); (case hl => (simp only [List.length_append, List.length_cons, List.length_nil, List.cons_append, List.nil_append]; omega)); (case hl2 => decide); k_whole)); intro t9 k9 p9; (try dsimp only)))
  k_with "CompEnd" => (k_here; k_dflt ((refine' Mine.end_same ?F ?N ?sub ?off ?hS ?_; (case F => k_asm); (case N => k_asm); (case sub => lcg_sub); (case off => first | assumption | lcg_off); (case hS => lcg_src); (rw [And.right (by assumption : _ ∧ Mine.wr _ = _)]; exact ⟨_, rfl⟩))))
  k_with "FinE" => ((unfold LCg.FinE); intro D9 h9 tk9 F9 N9 o9; (have hD9 := Mine.fin_list N9); (replace N9 := Mine.news_tail N9); (clear o9); (try simp only [List.nil_append, List.cons_append] at N9); (try dsimp only))
  k_with "call builtin:str.join" => (k_here; k_dflt ((refine' Mine.join_M0 (sep := []) ?hx ?hl ?hi ?hsep ?hok ?_; (case hx => decide); (case hl => is_list); (case hi => assumption); (case hsep => decide); (case hok => exact Mine.sum_g Mine.wr_len (by assumption)); k_whole; intro t9 k9; (try rw [Mine.inter_map]); (try dsimp only))))
  k_with "compareOp NotEq str str" => (k_here; k_dflt ((refine' Mine.neS_no ?hx ?_; (case hx => first | rfl | assumption | decide); k_whole)); (try dsimp only))
  k_with "exec Return ListComp" => (k_here; refine Mine.hold ?_)
  k_with "eval ListComp" => (k_here; (with_reducible show wpAny _ _ (eval (Expr.ListComp (Expr.Name _ _) _ _ _) _) _ _ _); k_dflt (refine Mine.ListComp_Z (_F₀ := by k_asm) (by with_unfolding_all rfl) (by decide) (by rfl) (by decide) (by rfl) (by rfl) (by decide) (by decide) ?_))
  k_with "call type:zip" => (k_here; k_dflt (refine' Mine.zip_M ?F ?N ?hl1 ?hl2 ?_; (case F => k_asm); (case N => k_asm); (case hl1 => is_list); (case hl2 => is_list); k_whole); intro z9 TI9 TO9 i19 i29 h9 Ap9 st9 off9 F9 N9; (try dsimp only))
  k_with "SrcZ" => (k_here; refine Mine.hold ?_)
  k_with "call builtin:len" => (k_here; k_dflt (refine' Mine.len_T ?hl ?_; (case hl => assumption); k_whole; intro t9 k9; (try dsimp only)))
  k_with "compareOp Eq int int" => (k_here; k_dflt ((first | (refine' Mine.eqI_yes ?hx ?_; (case hx => omega); k_whole) | (refine' Mine.eqI_no ?hx ?_; (case hx => omega); k_whole)); (try dsimp only)))
  k_with "compareOp In str str" => (k_here; k_dflt ((first | (refine' Mine.inSub_yes ?hx ?_; (case hx => assumption); k_whole) | (refine' Mine.inSub_no ?hx ?_; (case hx => assumption); k_whole)); (try dsimp only)))
  k_with "binaryOp Add str str" => (k_here; (with_reducible show wpAny _ _ (binaryOp _ (Value.str (Mine.T _) _) (Value.str (Mine.T _) _)) _ _ _); k_dflt ((refine' Mine.add_S ?hx ?hy ?hl ?hl2 ?_; (case hx => exact rfl); (case hy => exact rfl); (case hl => assumption); (case hl2 => assumption); k_whole); intro t9 k9; (try dsimp only)))
  trivial
theorem c_circle (w : World) (k : Nat) (g : List Nat) (ws : List (List Nat)) (lw lp : Addr) (vs us : List Value) (n1 n2 : Nat) (t : Tok) (hv : TL (List.toArray vs).toList ws) (hU : TL (List.toArray us).toList (ws.map fun x => x.flatMap (ch (chW k)))) (hg : g ∈ ws) (hg0 : g ≠ []) (hwl : ws.length ≤ 300) (hxl : ∀ x ∈ ws, x.length ≤ 4) :
    TellP w 167 8 160 [.str (T g) t, .ref lw, .ref lp] lamPos (fun h => h.get? lw = some (W.listOf (List.toArray vs) n1) ∧ h.get? lp = some (W.listOf (List.toArray us) n2)) (RList (ws.filter (isTurn g))) := by
  obtain ⟨j, hj, hno⟩ := first_idx hg
  have hwz : ws.length ≤ 100000 := by omega
  have hjl : j < ws.length := (List.getElem?_eq_some_iff.mp hj).1
  obtain ⟨uj, hx0⟩ : ∃ u, (List.toArray us)[((j : Nat) : Int).toNat]? = some (.str (T (g.flatMap (ch (chW k)))) u) := by
    have e : (ws.map fun x => x.flatMap (ch (chW k)))[j]? = some (g.flatMap (ch (chW k))) := by rw [List.getElem?_map, hj]; rfl
    obtain ⟨u, hu'⟩ := hU.get e
    exact ⟨u, by rw [Int.toNat_natCast]; simpa using hu'⟩
  have hgl : g.length ≤ 4 := hxl g hg
  obtain ⟨own, hown⟩ : ∃ own, own = g.flatMap (ch (chW k)) := ⟨_, rfl⟩
  rw [← hown] at hx0
  have hol : own.length ≤ 1000 := by rw [hown]; have := flat_len (ch (chW k)) (chW_len k) g; omega
  have hon : own ≠ [] := by
    rw [hown]
    intro e
    exact hg0 ((code_W k).flat_inj (b := []) (by rw [e]; rfl))
  have hpl : (patt own).length ≤ 100000 := by have := patt_len own; omega
  have hpat : [42] ++ own.flatMap wr ++ [42] = patt own := rfl
  have hwl2 : (own.flatMap wr).length ≤ 10000 := by have := flat_len wr wr_len own; omega
  have hwl1 : (own.flatMap wr).length ≤ 100000 := by have := flat_len wr wr_len own; omega
  refine TellP.of ?_
  k_fill
  intro p loose mean mg mb dp un gd cn cs a ccd cl outer A₀ base h₀ L m s ps Q E X B F T C N hps hk hd hu ht hn hret
  refine wpAny_call ?_
  obtain ⟨hn1, hn2⟩ := hn
  have hN99 := (N _ (.head _)).1
  k_dflt (refine' Mine.enterGC ?k1 ?k2 ?k3 ?k5 ?kC ?kN ?kA ?kF ?kK ?k6 ?k7 ?k8 ?k9 ?kB ?kD ?_ ?c2 ?c3 ?c4; (case kA => exact rfl); (case kF => exact rfl); (case kK => assumption); (case k1 => k_asm); (case k2 => k_asm); (case k3 => k_asm); (case k5 => k_asm); (case kC => assumption); (case kN => assumption); (case k6 => k_is); (case k7 => k_is); (case k8 => ktr_room); (case k9 => exact BindsTo.of_eq rfl); (case kB => exact rfl); (case kD => decide +kernel); (case c2 => exact rfl); (case c3 => exact rfl); (case c4 => exact rfl); k_whole; intro g' L' h' tk' cells' eg' F' N' Y' B' X' T' C' l99'; k_cells Y'; (try simp only [List.cons_append, List.nil_append] at N'); (try dsimp only); (try k_fold))
  have hgw : g'.get? lw = some (W.listOf (List.toArray vs) n1) := eg' ▸ hide_at hn1 hN99
  have hgp : g'.get? lp = some (W.listOf (List.toArray us) n2) := eg' ▸ hide_at hn2 hN99
  have hgw2 : g'.IsList lw (List.toArray vs) := ⟨_, hgw, rfl, _, rfl⟩
  have hgp2 : g'.IsList lp (List.toArray us) := ⟨_, hgp, rfl, _, rfl⟩
  k_steps
  unfold Hold
  (rename ZOff _ _ _ _ _ _ _ _ => off9); (rename Fr _ _ _ _ => F9); (rename News _ _ _ _ => N9); (rename ZSt _ _ _ _ _ _ _ _ _ _ _ => st9); (rename ZipApart _ _ _ _ _ _ _ => Ap9)
  have hvl : (List.toArray vs).size = ws.length := by have := hv.len; simpa using this
  have hul : (List.toArray us).size = ws.length := by have := hU.len; simpa using this
  refine ⟨_, _, _, _, _, _, _, List.toArray vs, List.toArray us, ws.length, _, fun i us' => TL us' ((ws.take i).filter (isTurn g)), rfl, rfl, Ap9, hvl, hul, hwz, st9, off9, F9, N9, fun h F N => ⟨⟨_, F.keep _ _ hgw, rfl, _, rfl⟩, ⟨_, F.keep _ _ hgp, rfl, _, rfl⟩⟩, TL.nil, ?_, ?_⟩
  · intro i x y zs us' h3 tk3 Cc oC Dd m₂ E' hx hy hG hC ha hb F3 N3
    clear F9 N9 st9 off9 Ap9
    obtain ⟨a, ta, rfl, hwa⟩ := hv.item (i := i) (v := x) (by simpa using hx)
    obtain ⟨b, tb, rfl, hwb⟩ := hU.item (i := i) (v := y) (by simpa using hy)
    rw [List.getElem?_map, hwa] at hwb
    have eb : a.flatMap (ch (chW k)) = b := by simpa using hwb
    subst eb
    have hal : a.length ≤ 4 := hxl a (List.mem_of_getElem? hwa)
    have hbl : (a.flatMap (ch (chW k))).length ≤ 100000 := by have := flat_len (ch (chW k)) (chW_len k) a; omega
    have hol2 : own.length ≤ 100000 := by omega
    have hct := circle_test k g a
    rw [← hown] at hct
    (simp only [List.cons_append, List.nil_append] at N3)
    by_cases hle : (a.flatMap (ch (chW k))).length = own.length
    · by_cases hin : own <:+: a.flatMap (ch (chW k)) ++ a.flatMap (ch (chW k))
      · have ht := hct.mp ⟨hle, hin⟩
        k_steps
        exact zend (by k_asm) (by k_asm) (pick_yes hwa hG ht)
      · have ht : isTurn g a = false := by rw [Bool.eq_false_iff]; exact fun e => hin (hct.mpr e).2
        k_steps
        exact zend (by k_asm) (by k_asm) (pick_no hwa hG ht)
    · have ht : isTurn g a = false := by rw [Bool.eq_false_iff]; exact fun e => hle (hct.mpr e).1
      k_steps
      exact zend (by k_asm) (by k_asm) (pick_no hwa hG ht)
  · intro us' Dd h3 tk3 hG F3 N3 hne3
    rw [List.take_length] at hG
    clear F9 N9 st9 off9 Ap9 hne3
    k_steps
    exact hret _ _ _ _ _ kF (eg' ▸ kS) (news2 kN (.tail _ (.tail _ (.tail _ (.head _)))) (.head _)) (fun q hq => by rw [List.mem_singleton] at hq; subst hq; exact hide_none (eg' ▸ kf _ (.head _)) (ne99 kN (.head _) (.tail _ (.tail _ (.tail _ (.head _)))) (by simp))) (by assumption) ⟨_, _, _, rfl, rfl, hG⟩
end Mine
end
theorem Mine.walk_off_P24 : True := by
  w_top off
  k_with_none
  trivial
section
open PySem PySem.W PyProof.Rows PySem.Calls PySem.Spec
set_option Elab.async false
set_option maxRecDepth 100000
set_option maxHeartbeats 8000000
namespace Mine

noncomputable def RInt (z : Int) (v : Value) (own : List (Addr × Obj)) : Prop := (∃ t, v = .int z t) ∧ own = []
section
variable {prog : Program} {w : World} {A : Around} {E : Value → Shared → Prop} {s : Shared} {M : Model} {h₀ : Heap} {L : Addr} {m : Str → Option Value} {news : List (Addr × Obj)}
theorem gtT_yes {a b : List Nat} {t u : Tok} {Q : Value → Shared → Prop} (hx : b < a) (h : Q (.bool true) s) : wpAny (model prog w) A (compareOp .Gt (.str (T a) t) (.str (T b) u)) Q E s :=
  P.gt_str (by rw [T_cps, T_cps, decide_eq_true hx]; exact h)
theorem gtT_no {a b : List Nat} {t u : Tok} {Q : Value → Shared → Prop} (hx : ¬ b < a) (h : Q (.bool false) s) : wpAny (model prog w) A (compareOp .Gt (.str (T a) t) (.str (T b) u)) Q E s :=
  P.gt_str (by rw [T_cps, T_cps, decide_eq_false hx]; exact h)
theorem ltT_yes {a b : List Nat} {t u : Tok} {Q : Value → Shared → Prop} (hx : a < b) (h : Q (.bool true) s) : wpAny (model prog w) A (compareOp .Lt (.str (T a) t) (.str (T b) u)) Q E s :=
  lt_str (by rw [T_cps, T_cps, decide_eq_true hx]; exact h)
theorem ltT_no {a b : List Nat} {t u : Tok} {Q : Value → Shared → Prop} (hx : ¬ a < b) (h : Q (.bool false) s) : wpAny (model prog w) A (compareOp .Lt (.str (T a) t) (.str (T b) u)) Q E s :=
  lt_str (by rw [T_cps, T_cps, decide_eq_false hx]; exact h)
end
/-- the contract, where no count of tokens is asked -/
noncomputable def Tell0 (w : World) (f : Addr) (k u : Nat) (args : List Value) (R : Value → List (Addr × Obj) → Prop) : Prop :=
  ∀ (p : Program) (loose : List Str) (mean : ExcName → Option Value) (mg mb : Str → Option Value) (dp un : Nat) (gd : Option (List PySem.Code)) (cn : Str) (cs : Scope) (a : Addr) (ccd : Value) (cl : List (Str × Addr)) (outer : List Env) (A₀ : Around) (base h₀ : Heap) (L : Addr) (m : Str → Option Value) (s : Shared) (Q E : Value → Shared → Prop),
    (Mine.heap w.params).In h₀ → Below A₀ base outer h₀ → Fr h₀ L s.heap m → Top p loose mean mg mb h₀ → cs.kind = .function → dp + k < recursionLimit → un + u < cLine →
    (∀ v own h' tk', Fr h₀ L h' m → Stays s.heap h' → News h₀ L h' own → (∀ q ∈ own, s.heap.get? q.1 = none) → R v own → Q v { s with heap := h', toks := tk' }) →
    wpAny (model PySem.Challenge.rw_in0282_01.row.prog w) (ktrTop dp un gd cn cs L a ccd cl outer) (call (.ref f) args) Q E s
theorem Tell0.use {w : World} {f : Addr} {k u : Nat} {args : List Value} {R : Value → List (Addr × Obj) → Prop} (C : Tell0 w f k u args R)
    {p : Program} {loose : List Str} {mean : ExcName → Option Value} {mg mb : Str → Option Value} {dp un : Nat} {gd : Option (List PySem.Code)} {cn : Str} {cs : Scope} {a : Addr} {ccd : Value} {cl : List (Str × Addr)} {outer : List Env} {A₀ : Around} {base h₀ : Heap} {L : Addr} {m : Str → Option Value} {news : List (Addr × Obj)} {s : Shared} {Q E : Value → Shared → Prop}
    (X : (Mine.heap w.params).In h₀) (B : Below A₀ base outer h₀) (F : Fr h₀ L s.heap m) (N : News h₀ L s.heap news) (T : Top p loose mean mg mb h₀) (hk : cs.kind = .function) (hd : dp + k < recursionLimit) (hu : un + u < cLine)
    (hret : ∀ v own h' tk', Fr h₀ L h' m → News h₀ L h' (own ++ news) → R v own → Q v { s with heap := h', toks := tk' }) :
    wpAny (model PySem.Challenge.rw_in0282_01.row.prog w) (ktrTop dp un gd cn cs L a ccd cl outer) (call (.ref f) args) Q E s := by
  refine C p loose mean mg mb dp un gd cn cs a ccd cl outer A₀ base h₀ L m s Q E X B F T hk hd hu fun v own h' tk' F' st N' fr r => hret v own h' tk' F' (fun q hq => ?_) r
  rcases List.mem_append.mp hq with hq | hq
  · exact N' q hq
  · exact ⟨st _ _ (N q hq).1, (N q hq).2⟩
theorem rows_P25_1 : True := by
  k_with_none
  k_with "ne" => (refine neN ?_; (try dsimp only); first | exact Nat.ne_of_lt (by assumption) | exact Nat.ne_of_gt (by assumption) | exact Mine.la0 (by assumption) | exact Mine.ga0 (by assumption) | exact Mine.la1 (by assumption) | exact Mine.ga1 (by assumption) | exact Mine.le1 (by assumption) | exact Mine.ge1 (by assumption) | exact Mine.la2 (by assumption) | exact Mine.ga2 (by assumption) | exact Mine.le2 (by assumption) | exact Mine.ge2 (by assumption) | exact Mine.la3 (by assumption) | exact Mine.ga3 (by assumption) | exact Mine.le3 (by assumption) | exact Mine.ge3 (by assumption) | exact Mine.la4 (by assumption) | exact Mine.ga4 (by assumption) | exact Mine.le4 (by assumption) | exact Mine.ge4 (by assumption) | exact Mine.la5 (by assumption) | exact Mine.ga5 (by assumption) | exact Mine.le5 (by assumption) | exact Mine.ge5 (by assumption) | exact Mine.la6 (by assumption) | exact Mine.ga6 (by assumption) | exact Mine.le6 (by assumption) | exact Mine.ge6 (by assumption) | exact Mine.la7 (by assumption) | exact Mine.ga7 (by assumption) | exact Mine.le7 (by assumption) | exact Mine.ge7 (by assumption) | exact Mine.la8 (by assumption) | exact Mine.ga8 (by assumption) | exact Mine.le8 (by assumption) | exact Mine.ge8 (by assumption))
  k_with "room" => (first | exact Mine.room0 (by assumption) | exact Mine.room1 (by assumption) (by decide) | exact Mine.room2 (by assumption) (by decide))
  k_with "LeaveM" => (k_dflt (refine' Mine.leaveM_ ?k1 ?k2 ?_; (case k1 => k_asm); (case k2 => k_asm); k_whole); intro kF kS kN kf; (try dsimp only))
  k_with "compareOp Gt str str" => (k_here; k_dflt ((first | (refine' Mine.gtT_yes ?hx ?_; (case hx => assumption); k_whole) | (refine' Mine.gtT_no ?hx ?_; (case hx => assumption); k_whole)); (try dsimp only)))
  k_with "compareOp Lt str str" => (k_here; k_dflt ((first | (refine' Mine.ltT_yes ?hx ?_; (case hx => assumption); k_whole) | (refine' Mine.ltT_no ?hx ?_; (case hx => assumption); k_whole)); (try dsimp only)))
  trivial
theorem c_cmp (w : World) (a b : List Nat) (z : Int) (t1 t2 : Tok) (h : (b < a ∧ ¬ a < b ∧ z = 1) ∨ (a < b ∧ ¬ b < a ∧ z = -1) ∨ (¬ a < b ∧ ¬ b < a ∧ z = 0)) : Tell0 w 125 1 16 [.str (T a) t1, .str (T b) t2] (RInt z) := by
  unfold Tell0
  k_fill
  intro p loose mean mg mb dp un gd cn cs a ccd cl outer A₀ base h₀ L m s Q E X B F T hk hd hu hret
  refine wpAny_call ?_
  k_dflt (refine' Mine.enterP ?k1 ?k2 ?k3 ?k5 ?kA ?kF ?kK ?k6 ?k7 ?k8 ?k9 ?kB ?_ ?c2 ?c3 ?c4 ?c5; (case kA => exact rfl); (case kF => exact rfl); (case kK => assumption); (case k1 => k_asm); (case k2 => k_asm); (case k3 => k_asm); (case k5 => k_asm); (case k6 => k_is); (case k7 => k_is); (case k8 => ktr_room); (case k9 => exact BindsTo.of_eq rfl); (case c5 => decide); (case kB => exact locs rfl); (case c2 => exact rfl); (case c3 => exact rfl); (case c4 => exact rfl); k_whole; intro L' h' F' N' B' X' T'; (try dsimp only); (try k_fold))
  rcases h with ⟨h1, h2, rfl⟩ | ⟨h1, h2, rfl⟩ | ⟨h1, h2, rfl⟩
  all_goals
    k_steps
    exact hret _ _ _ _ kF kS kN kf ⟨⟨_, rfl⟩, rfl⟩
noncomputable def fT (g a : List Nat) : Int := if a = g then 0 else -1
noncomputable def fB (g a : List Nat) : Int := if a = g then 0 else 1
theorem lt_irr (a : List Nat) : ¬ a < a := List.lt_irrefl a
theorem c_cmpT (w : World) (g a : List Nat) (t1 t2 : Tok) (h : a = g ∨ (g < a ∧ ¬ a < g)) : Tell0 w 125 1 16 [.str (T g) t1, .str (T a) t2] (RInt (fT g a)) := by
  refine c_cmp w g a _ t1 t2 ?_
  unfold fT
  rcases h with rfl | ⟨h1, h2⟩
  · rw [if_pos rfl]; exact .inr (.inr ⟨lt_irr _, lt_irr _, rfl⟩)
  · rw [if_neg (fun e => lt_irr g (by rw [e] at h1; exact h1))]; exact .inr (.inl ⟨h1, h2, rfl⟩)
theorem c_cmpB (w : World) (g a : List Nat) (t1 t2 : Tok) (h : a = g ∨ (g < a ∧ ¬ a < g)) : Tell0 w 125 1 16 [.str (T a) t1, .str (T g) t2] (RInt (fB g a)) := by
  refine c_cmp w a g _ t1 t2 ?_
  unfold fB
  rcases h with rfl | ⟨h1, h2⟩
  · rw [if_pos rfl]; exact .inr (.inr ⟨lt_irr _, lt_irr _, rfl⟩)
  · rw [if_neg (fun e => lt_irr g (by rw [e] at h1; exact h1))]; exact .inl ⟨h1, h2, rfl⟩
theorem All2.get {α : Type} {R : α → Value → Prop} {xs : List α} {vs : List Value} (h : All2 R xs vs) : ∀ (j : Nat) (v : Value), vs[j]? = some v → ∃ a, xs[j]? = some a ∧ R a v := by
  induction h with
  | nil => intro j v e; simp at e
  | cons q _ ih =>
    intro j v e
    cases j with
    | zero => simp at e; subst e; exact ⟨_, rfl, q⟩
    | succ j => exact ih j v (by simpa using e)
theorem All2.app {α : Type} {R : α → Value → Prop} {xs ys : List α} {vs us : List Value} (h : All2 R xs vs) (h2 : All2 R ys us) : All2 R (xs ++ ys) (vs ++ us) := by
  induction h with
  | nil => exact h2
  | cons q _ ih => exact .cons q ih
theorem All2.map {α β : Type} {R : β → Value → Prop} {f : α → β} {xs : List α} {vs : List Value} (h : All2 (fun a v => R (f a) v) xs vs) : All2 R (xs.map f) vs := by
  induction h with
  | nil => exact .nil
  | cons q _ ih => exact .cons q ih
noncomputable def isI (z : Int) (v : Value) : Prop := ∃ t, v = .int z t
noncomputable def isB (b : Bool) (v : Value) : Prop := v = .bool b
section
variable {prog : Program} {w : World} {A : Around} {E : Value → Shared → Prop} {s : Shared} {h₀ : Heap} {L : Addr} {m : Str → Option Value} {news : List (Addr × Obj)}
theorem eqs_All {α : Type} {R : α → Value → Prop} {xs : List α} {its its2 : Array Value} (hR : ∀ a v v', R a v → R a v' → SeqAt.EqAt A.in1 s v v' true) (hx : All2 R xs its.toList) (hy : All2 R xs its2.toList) : its.size = its2.size ∧ ∀ j (h1 : j < its.size) (h2 : j < its2.size), SeqAt.EqAt A.in1 s its[j] its2[j] true := by
  have e1 := hx.len
  have e2 := hy.len
  refine ⟨by simpa using e1.trans e2.symm, fun j h1 h2 => ?_⟩
  obtain ⟨a, ha, ra⟩ := hx.get j its[j] (by simp [h1])
  obtain ⟨b, hb, rb⟩ := hy.get j its2[j] (by simp [h2])
  rw [ha] at hb; cases hb
  exact hR a _ _ ra rb
theorem isI_eq (a : Int) (v v' : Value) (h : isI a v) (h' : isI a v') : SeqAt.EqAt A s v v' true := by
  obtain ⟨t, rfl⟩ := h
  obtain ⟨t', rfl⟩ := h'
  have := SeqAt.EqAt.int_int (A := A) (s := s) a t a t'
  simpa using this
theorem isB_eq (a : Bool) (v v' : Value) (h : isB a v) (h' : isB a v') : SeqAt.EqAt A s v v' true := by
  cases h
  cases h'
  have := SeqAt.EqAt.bool_bool (A := A) (s := s) a a
  simpa using this
theorem eq_IL {l b : Addr} {its its2 : Array Value} {xs : List Int} {Q : Value → Shared → Prop} (hl : s.heap.IsList l its) (hb : s.heap.IsList b its2) (hx : All2 isI xs its.toList) (hy : All2 isI xs its2.toList) (hu : A.units < cLine) (h : Q (.bool true) s) : wpAny (model prog w) A (compareOp .Eq (.ref l) (.ref b)) Q E s := by
  obtain ⟨e, he⟩ := eqs_All (A := A) (s := s) isI_eq hx hy
  have := SeqAt.RcAt.lists hl hb e hu he prog w E Q
  exact this (by rw [show ((List.range its.size).all fun _ => true) = true from List.all_eq_true.mpr fun _ _ => rfl]; exact h)
theorem ne_BL {l b : Addr} {its its2 : Array Value} {xs : List Bool} {Q : Value → Shared → Prop} (hl : s.heap.IsList l its) (hb : s.heap.IsList b its2) (hx : All2 isB xs its.toList) (hy : All2 isB xs its2.toList) (hu : A.units < cLine) (h : Q (.bool false) s) : wpAny (model prog w) A (compareOp .NotEq (.ref l) (.ref b)) Q E s := by
  obtain ⟨e, he⟩ := eqs_All (A := A) (s := s) isB_eq hx hy
  have := SeqAt.RcNeAt.lists hl hb e hu he prog w E Q
  exact this (by rw [show ((List.range its.size).all fun _ => true) = true from List.all_eq_true.mpr fun _ _ => rfl]; exact h)
end
theorem sz_app {zs1 zs2 : List Int} {us1 us2 : List Value} (h1 : All2 isI zs1 us1) (h2 : All2 isI zs2 us2) (l1 : zs1.length ≤ 100) (l2 : zs2.length ≤ 100) : (List.toArray (us1 ++ us2)).size ≤ sizeLine := by
  rw [List.size_toArray, List.length_append, h1.len, h2.len, sizeLine_eq]; omega
theorem rep_I {k : Nat} {z : Int} {t : Tok} : All2 isI (List.replicate k z) (List.toArray (List.replicate k [Value.int z t]).flatten).toList := by
  show All2 isI _ (List.replicate k [Value.int z t]).flatten
  induction k with
  | zero => exact .nil
  | succ k ih => exact .cons ⟨_, rfl⟩ ih
theorem add_IL {prog : Program} {w : World} {A : Around} {E : Value → Shared → Prop} {s : Shared} {h₀ : Heap} {L : Addr} {m : Str → Option Value} {news : List (Addr × Obj)} {a b : Addr} {its its2 : Array Value} {xs ys : List Int} {Q : Value → Shared → Prop} (F : Fr h₀ L s.heap m) (N : News h₀ L s.heap news) (ha : s.heap.IsList a its) (hb : s.heap.IsList b its2) (hx : All2 isI xs its.toList) (hy : All2 isI ys its2.toList) (hz : xs.length + ys.length ≤ 1000)
    (h : ∀ D h', Fr h₀ L h' m → News h₀ L h' ((D, W.listOf (List.toArray (its.toList ++ its2.toList)) 0) :: news) → (∀ p ∈ news, p.1 < D) → Q (.ref D) { s with heap := h' }) : wpAny (model prog w) A (binaryOp .Add (.ref a) (.ref b)) Q E s :=
  kmk_add_lit F N ha hb rfl h (by rw [hx.len, hy.len, sizeLine_eq]; omega)
inductive EvF (f : List Nat → Int) (xs : List (List Nat)) : Prop
  | mk
theorem rep_all {g : List Nat} {cs : List (List Nat)} {f : List Nat → Int} {z k : Int} {t t' : Tok} (hk : k = ((g :: cs).length : Int) - 1) (h0 : f g = 0) (hf : ∀ c ∈ cs, f c = z) : All2 isI ((g :: cs).map f) (List.toArray ([Value.int 0 t] ++ (List.replicate k.toNat [Value.int z t']).flatten)).toList := by
  have e : k.toNat = cs.length := by subst hk; simp
  rw [e]
  refine .cons ⟨_, by rw [h0]⟩ ?_
  show All2 isI (cs.map f) (List.replicate cs.length [Value.int z t']).flatten
  clear hk e h0
  induction cs with
  | nil => exact .nil
  | cons c cs ih => exact .cons ⟨_, by rw [hf c List.mem_cons_self]⟩ (ih fun d hd => hf d (List.mem_cons_of_mem _ hd))
theorem rep_true {n : Nat} {k : Int} (hk : k.toNat = n) : All2 isB (List.replicate (n + n) true) (List.toArray (List.replicate k.toNat [Value.bool true, Value.bool true]).flatten).toList := by
  subst hk
  show All2 isB _ (List.replicate k.toNat [Value.bool true, Value.bool true]).flatten
  generalize k.toNat = n
  induction n with
  | zero => exact .nil
  | succ n ih =>
    rw [show n + 1 + (n + 1) = (n + n) + 1 + 1 by omega]
    exact .cons rfl (.cons rfl ih)
section
variable {prog : Program} {w : World} {A : Around} {E : Value → Shared → Prop} {h₀ : Heap} {L : Addr} {m : Str → Option Value} {env : Env} {elt ct iter : Expr} {x : Str} {scope : Scope} {cl : List (Str × Addr)} {s : Shared} {S : List (Addr × Obj) → Prop} {Fin : List Value → List (Addr × Obj) → Prop} {news : List (Addr × Obj)}
theorem rest_cmp {f : List Nat → Int} {xs : List (List Nat)} {its : Array Value} {n : Nat} (_H : EvF f xs) (hT : TL its.toList xs) (hn : n = its.size)
    (turn : ∀ c t I oI C oC D m₂ ys h tk (E' : Value → Shared → Prop), c ∈ xs → ys.length ≤ n → LCg.NsObj oC m₂ → m₂ x = some (.str (T c) t) → Fr h₀ L h m → News h₀ L h ((I, oI) :: (C, oC) :: (D, LCg.lst ys) :: news) → LCg.Off3 I C D news → ((@Ne Nat I C) ∧ (@Ne Nat I D) ∧ (@Ne Nat C D)) →
      wpAny (model prog w) A (eval elt (compEnvC scope cl C env)) (LCg.CompEnd h₀ L m { s with heap := h, toks := tk } I oI C oC D (LCg.lst ys) S (fun y news' => news' = news ∧ isI (f c) y)) E' { s with heap := h, toks := tk })
    (fin : ∀ ys, All2 isI (xs.map f) ys → Fin ys news) : LCg.CompRest prog w A h₀ L m env elt x scope cl s S (fun i v => its[i]? = some v) Fin n 0 [] news := by
  refine rest_all (xs := xs) (fun a v => ∃ t, v = .str (T a) t) (fun a y => isI (f a) y) (by have := hT.len; rw [hn]; simpa using this.symm) (src_list hT) (fun a v I oI C oC D m₂ ys h tk E' ha hv hl hC hx F N off ne => ?_) fun ys h => fin ys h.map
  obtain ⟨t, rfl⟩ := hv
  exact turn a t I oI C oC D m₂ ys h tk E' ha hl hC hx F N off ne
theorem rest_int {zs1 zs2 : List Int} {us1 us2 : List Value} {n : Nat} (h1 : All2 isI zs1 us1) (h2 : All2 isI zs2 us2) (hl : zs1.length = zs2.length) (hn : n = (List.toArray (us1 ++ us2)).size)
    (turn : ∀ z t I oI C oC D m₂ ys h tk (E' : Value → Shared → Prop), ys.length ≤ n → LCg.NsObj oC m₂ → m₂ x = some (.int z t) → Fr h₀ L h m → News h₀ L h ((I, oI) :: (C, oC) :: (D, LCg.lst ys) :: news) → LCg.Off3 I C D news → ((@Ne Nat I C) ∧ (@Ne Nat I D) ∧ (@Ne Nat C D)) →
      wpAny (model prog w) A (eval elt (compEnvC scope cl C env)) (LCg.CompEnd h₀ L m { s with heap := h, toks := tk } I oI C oC D (LCg.lst ys) S (fun y news' => news' = news ∧ isB true y)) E' { s with heap := h, toks := tk })
    (fin : ∀ ys, All2 isB (List.replicate (zs1.length + zs1.length) true) ys → Fin ys news) : LCg.CompRest prog w A h₀ L m env elt x scope cl s S (fun i v => (List.toArray (us1 ++ us2))[i]? = some v) Fin n 0 [] news := by
  have h12 := h1.app h2
  refine rest_all (xs := zs1 ++ zs2) (fun a v => isI a v) (fun _ y => isB true y) (by have := h12.len; rw [hn]; simpa using this.symm) (fun i v e => h12.get i v (by simpa using e)) (fun a v I oI C oC D m₂ ys h tk E' ha hv hl hC hx F N off ne => ?_) fun ys h => fin ys ?_
  · obtain ⟨t, rfl⟩ := hv
    exact turn a t I oI C oC D m₂ ys h tk E' hl hC hx F N off ne
  · have e : (zs1 ++ zs2).map (fun _ => true) = List.replicate (zs1.length + zs1.length) true := by rw [List.map_const', List.length_append, ← hl]
    rw [← e]
    exact h.map
end
theorem rows_P25_2 : True := by
  k_with "Kont" => ((try dsimp only); first | (refine' Mine.kont_next ?L_k ?_; (case L_k => assumption); intro tkp htkp) | (refine' Mine.kont_ret ?L_k ?_; (case L_k => assumption)) | (refine' Mine.kont_brk ?L_k ?_; (case L_k => assumption)) | (refine' Mine.kont_cont ?L_k ?_; (case L_k => assumption)))
  k_with "execs cons" => (k_here; first | refine Mine.execs_one ?_ | ((first | (refine' Mine.execs_kont ?kp_k ?_; (case kp_k => assumption)) | (refine Mine.gen_pos ?kp_k ?_; (case kp_k => first | assumption | exact Nat.succ_pos _ | omega); intro tkp htkp; refine Mine.execs_kont htkp ?_)); intro K9 hK9))
  k_with "call ref" => (k_here; k_dflt (refine' Mine.Tell0.use (Mine.c_cmpT _ _ _ _ _ (by assumption)) ?X ?B ?F ?N ?T ?hk ?hd ?hu ?_; (case X => k_asm); (case B => k_asm); (case F => k_asm); (case N => k_asm); (case T => k_asm); (case hk => first | exact rfl | assumption); (case hd => ktr_room); (case hu => ktr_units); k_whole; intro v9 own9 h9 tk9 F9 N9 R9; obtain ⟨⟨t9, e9⟩, o9⟩ := R9; subst e9; subst o9; (try simp only [List.nil_append] at N9); (try dsimp only); (try k_fold)))
  k_with "call ref" => (k_here; k_dflt (refine' Mine.Tell0.use (Mine.c_cmpB _ _ _ _ _ (by assumption)) ?X ?B ?F ?N ?T ?hk ?hd ?hu ?_; (case X => k_asm); (case B => k_asm); (case F => k_asm); (case N => k_asm); (case T => k_asm); (case hk => first | exact rfl | assumption); (case hd => ktr_room); (case hu => ktr_units); k_whole; intro v9 own9 h9 tk9 F9 N9 R9; obtain ⟨⟨t9, e9⟩, o9⟩ := R9; subst e9; subst o9; (try simp only [List.nil_append] at N9); (try dsimp only); (try k_fold)))
  k_with "CompSrc" => (k_here; (with_reducible show LCg.CompSrc _ _ _ _ _ _ _ (Expr.Call _ [Expr.Name (PySem.Str.ofString "first") _, _] _ _) _ _ _ _ _ _); k_dflt (((refine LCg.CompSrc.base (by rfl) (by k_asm) (by k_asm) (by assumption) (by assumption) ?_); intro g9; (refine' Mine.rest_cmp (f := Mine.fT _) ?H ?hT ?hn (fun c9 t9 I9 oI9 C9 oC9 D9 m9 ys9 h9 tk9 E9 hc9 hl9 hC9 hx9 F9 N9 off9 ne9 => ?_) (fun ys9 TL9 => ?_); (case H => assumption); (case hT => assumption); (case hn => rfl)); (have hq9 := (by assumption : ∀ c ∈ _, c = _ ∨ _) c9 hc9; have off8 := off9; (try simp only [LCg.Off3, and_true] at off8)))))
  k_with "CompSrc" => (k_here; (with_reducible show LCg.CompSrc _ _ _ _ _ _ _ (Expr.Call _ [_, Expr.Name (PySem.Str.ofString "first") _] _ _) _ _ _ _ _ _); k_dflt (((refine LCg.CompSrc.base (by rfl) (by k_asm) (by k_asm) (by assumption) (by assumption) ?_); intro g9; (refine' Mine.rest_cmp (f := Mine.fB _) ?H ?hT ?hn (fun c9 t9 I9 oI9 C9 oC9 D9 m9 ys9 h9 tk9 E9 hc9 hl9 hC9 hx9 F9 N9 off9 ne9 => ?_) (fun ys9 TL9 => ?_); (case H => assumption); (case hT => assumption); (case hn => rfl)); (have hq9 := (by assumption : ∀ c ∈ _, c = _ ∨ _) c9 hc9; have off8 := off9; (try simp only [LCg.Off3, and_true] at off8)))))
  k_with "CompSrc" => (k_here; (with_reducible show LCg.CompSrc _ _ _ _ _ _ _ (Expr.Compare _ _ _ _) _ _ _ _ _ _); k_dflt (((refine' LCg.CompSrc.ledger ?h1 ?h2 ?h3 ?h4 ?hsz ?_; (case h1 => rfl); (case h2 => k_asm); (case h3 => k_asm); (case h4 => k_mem); (case hsz => exact Mine.sz_app (by assumption) (by assumption) (by (simp only [List.length_map, List.length_cons]; omega)) (by (simp only [List.length_map, List.length_cons]; omega)))); intro g9; (refine' Mine.rest_int ?h1 ?h2 ?hl ?hn (fun c9 t9 I9 oI9 C9 oC9 D9 m9 ys9 h9 tk9 E9 hl9 hC9 hx9 F9 N9 off9 ne9 => ?_) (fun ys9 TL9 => ?_); (case h1 => assumption); (case h2 => assumption); (case hl => (rw [List.length_map, List.length_map])); (case hn => rfl)); (have off8 := off9; (try simp only [LCg.Off3, and_true] at off8)))))
  k_with "CompEnd" => (k_here; k_dflt ((refine' Mine.end_same ?F ?N ?sub ?off ?hS ?_; (case F => k_asm); (case N => k_asm); (case sub => lcg_sub); (case off => first | assumption | lcg_off); (case hS => lcg_src); (first | exact ⟨_, rfl⟩ | exact rfl))))
  k_with "FinA" => ((unfold LCg.FinA); intro D9 h9 tk9 F9 N9 o9; (try clear o9); (try simp only [List.nil_append, List.cons_append] at N9); (try dsimp only))
  k_with "FinE" => ((unfold LCg.FinE); intro D9 h9 tk9 F9 N9 o9; (try clear o9); (try simp only [List.nil_append, List.cons_append] at N9); (try dsimp only))
  k_with "call builtin:len" => (k_here; k_dflt (refine' Mine.len_L ?hl ?hz ?hn ?_; (case hl => is_list); (case hz => assumption); (case hn => assumption); k_whole; intro t9 k9; (try dsimp only)))
  k_with "binaryOp Add ref ref" => (k_here; k_dflt ((first | (refine' Mine.add_IL ?F ?N ?a ?b ?hx ?hy ?hz ?_; (case F => k_asm); (case N => k_asm); (case a => is_list); (case b => is_list); (case hx => assumption); (case hy => assumption); (case hz => (simp only [List.length_map, List.length_cons]; omega)); k_whole) | (refine' Mine.add_IL ?F ?N ?a ?b ?hx ?hy ?hz ?_; (case F => k_asm); (case N => k_asm); (case a => is_list); (case b => is_list); (case hx => exact .cons ⟨_, rfl⟩ .nil); (case hy => exact Mine.rep_I); (case hz => (simp only [List.length_replicate, List.length_cons, List.length_nil]; omega)); k_whole)); intro D9 h9 F9 N9 lt9; (try k_lt lt9); (try dsimp only)))
  k_with "binaryOp Mult ref int" => (k_here; k_dflt (refine' KMa.mul ?F ?N ?l ?lo ?hi ?z ?e ?_; (case F => k_asm); (case N => k_asm); (case l => is_list); (case lo => omega); (case hi => omega); (case z => (simp only [List.length_cons, List.length_nil]; omega)); (case e => exact rfl); k_whole); intro D9 h9 F9 N9 lt9; (try k_lt lt9); (try dsimp only))
  k_with "compareOp NotEq ref ref" => (k_here; k_dflt (refine' Mine.ne_BL ?hl ?hb ?hx ?hy ?hu ?_; (case hl => is_list); (case hb => is_list); (case hx => assumption); (case hy => exact Mine.rep_true (by simp)); (case hu => ktr_units); k_whole; (try dsimp only)))
  k_with "compareOp Eq ref ref" => (k_here; k_dflt (refine' Mine.eq_IL ?hl ?hb ?hx ?hy ?hu ?_; (case hl => is_list); (case hb => is_list); (case hx => assumption); (case hy => exact Mine.rep_all (by simp) (by assumption) (by assumption)); (case hu => ktr_units); k_whole; (try dsimp only)))
  k_with "eval ListComp" => (k_here; (with_reducible show wpAny _ _ (eval (Expr.ListComp (Expr.Compare _ _ _ _) _ _ _) _) _ _ _); k_dflt (refine LCg.ListComp_U (F₀ := by k_asm) (by with_unfolding_all rfl) (by decide) (by rfl) (by decide) (by rfl) ?_))
  trivial
theorem c_least (w : World) (g : List Nat) (cs : List (List Nat)) (l : Addr) (vs : List Value) (t : Tok) (hT : TL (List.toArray vs).toList (g :: cs)) (hlt : ∀ c ∈ cs, g < c) (hnl : ∀ c ∈ cs, ¬ c < g) (hcl : cs.length ≤ 20) : Tell w 177 4 60 [.str (T g) t, .ref l] (fun h => h.IsList l (List.toArray vs)) (fun v own => v = .bool true ∧ own = []) := by
  have hq : ∀ c ∈ g :: cs, c = g ∨ (g < c ∧ ¬ c < g) := fun c hc => by
    rcases List.mem_cons.mp hc with rfl | hc
    · exact .inl rfl
    · exact .inr ⟨hlt c hc, hnl c hc⟩
  have hsz : (List.toArray vs).size = cs.length + 1 := by have := hT.len; simpa using this
  have hsz1 : (List.toArray vs).size ≤ sizeLine := by rw [sizeLine_eq]; omega
  have hsz2 : (List.toArray vs).size ≤ 100000 := by omega
  have hnn : (((List.toArray vs).size : Nat) : Int) = ((cs.length + 1 : Nat) : Int) := by rw [hsz]
  have hT0 : fT g g = 0 := by unfold fT; rw [if_pos rfl]
  have hB0 : fB g g = 0 := by unfold fB; rw [if_pos rfl]
  have hT1 : ∀ c ∈ cs, fT g c = -1 := fun c hc => by unfold fT; rw [if_neg (fun e => lt_irr g (by have := hlt c hc; rw [e] at this; exact this))]
  have hB1 : ∀ c ∈ cs, fB g c = 1 := fun c hc => by unfold fB; rw [if_neg (fun e => lt_irr g (by have := hlt c hc; rw [e] at this; exact this))]
  have hE1 : EvF (fT g) (g :: cs) := .mk
  have hE2 : EvF (fB g) (g :: cs) := .mk
  refine Tell.of ?_
  k_fill
  intro p loose mean mg mb dp un gd cn cs a ccd cl outer A₀ base h₀ L m s Q E X B F T hk hd hu ht hn hret
  refine wpAny_call ?_
  k_dflt (refine' Mine.enterC ?k1 ?k2 ?k3 ?k5 ?kA ?kF ?kK ?k6 ?k7 ?k8 ?k9 ?kB ?kD ?_ ?c2 ?c3 ?c4; (case kA => exact rfl); (case kF => exact rfl); (case kK => assumption); (case k1 => k_asm); (case k2 => k_asm); (case k3 => k_asm); (case k5 => k_asm); (case k6 => k_is); (case k7 => k_is); (case k8 => ktr_room); (case k9 => exact BindsTo.of_eq rfl); (case kB => exact rfl); (case kD => decide +kernel); (case c2 => exact rfl); (case c3 => exact rfl); (case c4 => exact rfl); k_whole; intro L' h' tk' cells' F' N' Y' B' X' T'; k_cells Y'; (try simp only [List.cons_append, List.nil_append] at N'); (try dsimp only); (try k_fold))
  k_steps
  exact hret _ _ _ _ kF kS News.nil (fun q hq => absurd hq List.not_mem_nil) ⟨rfl, rfl⟩
end Mine
end
theorem Mine.walk_off_P25 : True := by
  w_top off
  k_with_none
  trivial
section
open PySem PySem.W PyProof.Rows PySem.Calls PySem.Spec
set_option Elab.async false
set_option maxRecDepth 100000
set_option maxHeartbeats 8000000
namespace Mine
/-- what stood stands, but that the frames F may have got their frame objects -/
structure UpF (F : List Addr) (h h' : Heap) : Prop where
  same : ∀ b o, b ∉ F → h.get? b = some o → h'.get? b = some o
  up : ∀ b o, h.get? b = some o → ∃ sl, h'.get? b = some { o with slots := sl }
theorem UpF.of {F : List Addr} {h h' : Heap} (k : ∀ b o, h.get? b = some o → h'.get? b = some o) : UpF F h h' := ⟨fun b o _ e => k b o e, fun b o e => ⟨o.slots, k b o e⟩⟩
theorem UpF.refl (F : List Addr) (h : Heap) : UpF F h h := .of fun _ _ e => e
theorem UpF.trans {F : List Addr} {a b c : Heap} (x : UpF F a b) (y : UpF F b c) : UpF F a c := by
  refine ⟨fun p o hp e => y.same p o hp (x.same p o hp e), fun p o e => ?_⟩
  obtain ⟨sl, e1⟩ := x.up p o e
  obtain ⟨sl2, e2⟩ := y.up p _ e1
  exact ⟨sl2, e2⟩
theorem UpF.mono {F G : List Addr} {a b : Heap} (x : UpF F a b) (h : ∀ q ∈ F, q ∈ G) : UpF G a b := ⟨fun p o hp e => x.same p o (fun q => hp (h p q)) e, x.up⟩
theorem UpF.ns {F : List Addr} {a b : Heap} (x : UpF F a b) {L : Addr} {m : Str → Option Value} (n : a.Ns L m) : b.Ns L m := by
  obtain ⟨o, es, ep, e, hd, r⟩ := n
  obtain ⟨sl, e'⟩ := x.up L o e
  exact ⟨_, es, ep, e', hd, r⟩
theorem UpF.frames {F : List Addr} {a b base : Heap} (x : UpF F a b) {l : List Env} (n : a.FunFrames base l) : b.FunFrames base l :=
  n.of_keeps fun p o e _ => by
    obtain ⟨sl, e'⟩ := x.up p o e
    exact ⟨_, e', rfl⟩
/-- a ground anew -/
theorem reground : ∀ (fr : List Addr) {h₀ h' : Heap}, (∀ b o, h₀.get? b = some o → ∃ sl, h'.get? b = some { o with slots := sl }) →
    ∃ h₁ : Heap, h₁.objs.size = h₀.objs.size ∧ (∀ b, b ∉ fr → h₁.get? b = h₀.get? b) ∧ (∀ b ∈ fr, ∀ o, h₁.get? b = some o → h'.get? b = some o) ∧ (∀ b, h₀.get? b = none → h₁.get? b = none) ∧ ∀ b o, h₀.get? b = some o → ∃ sl, h₁.get? b = some { o with slots := sl }
  | [], h₀, h', hup => ⟨h₀, rfl, fun _ _ => rfl, fun _ hb => (nomatch hb), fun _ e => e, fun b o e => ⟨o.slots, e⟩⟩
  | a :: fr, h₀, h', hup => by
    obtain ⟨h₁, s1, n1, f1, z1, u1⟩ := reground fr hup
    cases e0 : h₀.get? a with
    | none =>
      refine ⟨h₁, s1, fun b hb => n1 b fun q => hb (.tail _ q), fun b hb o e => ?_, z1, u1⟩
      rcases List.mem_cons.mp hb with rfl | hb
      · rw [z1 _ e0] at e; cases e
      · exact f1 b hb o e
    | some o =>
      obtain ⟨sl1, e1⟩ := u1 a o e0
      obtain ⟨sl2, e2⟩ := hup a o e0
      have hfr : Obj.isFreed { o with slots := sl2 } = false := (Heap.get?_some_iff.mp e2).2
      have es : (h₁.update a fun p => { p with slots := sl2 }).get? a = some { o with slots := sl2 } := Heap.get?_update_self (o := { o with slots := sl1 }) (fun p => { p with slots := sl2 }) e1 hfr
      have en : ∀ b, b ≠ a → (h₁.update a fun p => { p with slots := sl2 }).get? b = h₁.get? b := fun b hb => Heap.get?_update_other _ _ (Ne.symm hb)
      refine ⟨h₁.update a fun p => { p with slots := sl2 }, by rw [Heap.size_update, s1], fun b hb => ?_, fun b hb p e => ?_, fun b e => ?_, fun b p e => ?_⟩
      · rw [en b fun q => hb (q ▸ .head _), n1 b fun q => hb (.tail _ q)]
      · by_cases hba : b = a
        · subst hba
          rw [es] at e; cases e
          exact e2
        · rw [en b hba] at e
          exact f1 b ((List.mem_cons.mp hb).resolve_left hba) p e
      · have hba : b ≠ a := fun q => by rw [q, e0] at e; cases e
        rw [en b hba]; exact z1 b e
      · by_cases hba : b = a
        · subst hba
          rw [e0] at e; cases e
          exact ⟨sl2, es⟩
        · rw [en b hba]; exact u1 b p e
noncomputable def frs (L : Addr) (outer : List Env) : List Addr := L :: outer.filterMap (·.frame)
section
variable {A₀ : Around} {base h₀ h h' : Heap} {outer : List Env} {L : Addr} {m : Str → Option Value} {news : List (Addr × Obj)}
theorem Fr.none (F : Fr h₀ L h m) : h₀.get? L = none := by
  cases e : h₀.get? L with
  | none => rfl
  | some o =>
    have h1 : @LT.lt Nat _ L h₀.objs.size := Heap.lt_size e
    have h2 : @LE.le Nat _ h₀.objs.size L := F.above
    omega
theorem frame_at {l : List Env} (x : h₀.FunFrames base l) {b : Addr} (hb : b ∈ l.filterMap (·.frame)) : base.get? b = none ∧ ∃ o, h₀.get? b = some o := by
  obtain ⟨h1, o, h2, _⟩ := x.mem hb
  exact ⟨h1, o, h2⟩
/-- after a call that may have raised within: the ground anew -/
theorem anew (B : Below A₀ base outer h₀) (F : Fr h₀ L h m) (N : News h₀ L h news) (u : UpF (frs L outer) h h') :
    ∃ g : Heap, Below A₀ base outer g ∧ Fr g L h' m ∧ News g L h' news ∧ base.StaysIn g ∧ (∀ b, h₀.get? b = none → g.get? b = none) ∧ UpF (outer.filterMap (·.frame)) h₀ g := by
  obtain ⟨g, s1, n1, f1, z1, u1⟩ := reground (outer.filterMap (·.frame)) (h₀ := h₀) (h' := h') fun b o e => u.up b o (F.keep b o e)
  have hL := Fr.none F
  have up : UpF (outer.filterMap (·.frame)) h₀ g := ⟨fun b o hb e => by rw [n1 b hb]; exact e, u1⟩
  have st : base.StaysIn g := fun b o e => by
    rw [n1 b fun hb => ?_]
    · exact B.stays b o e
    · rw [(frame_at B.frames hb).1] at e; cases e
  refine ⟨g, ⟨B.stack, st, up.frames B.frames⟩, ⟨u.ns F.ns, fun b o e => ?_, by rw [s1]; exact F.above⟩, fun q hq => ⟨u.same _ _ (fun hm => ?_) (N q hq).1, (N q hq).2.1, z1 _ (N q hq).2.2⟩, st, z1, up⟩
  · by_cases hb : b ∈ outer.filterMap (·.frame)
    · exact f1 b hb o e
    · rw [n1 b hb] at e
      refine u.same b o (fun hm => ?_) (F.keep b o e)
      rcases List.mem_cons.mp hm with rfl | hm
      · rw [hL] at e; cases e
      · exact hb hm
  · rcases List.mem_cons.mp hm with e | hm
    · exact (N q hq).2.1 e
    · obtain ⟨_, o, e⟩ := frame_at B.frames hm
      rw [(N q hq).2.2] at e; cases e
end
end Mine
end
theorem Mine.walk_off_PU : True := by
  w_top off
  k_with_none
  trivial
section
open PySem PySem.W PyProof.Rows PySem.Calls PySem.Spec
set_option Elab.async false
set_option maxRecDepth 100000
set_option maxHeartbeats 8000000
namespace Mine
/-- a called def comes back, and the frames may have got their frame objects -/
noncomputable def LeaveU (F : List Addr) (g : Heap) (R : Result → Shared → Prop) (v : Value) (s' : Shared) : Prop :=
  ∃ g₂ L' m' news', UpF F g g₂ ∧ Fr g₂ L' s'.heap m' ∧ News g₂ L' s'.heap news' ∧ (UpF F g s'.heap → (∀ q ∈ news', s'.heap.get? q.1 = some q.2 ∧ g.get? q.1 = none) → R (.ok (.ret v)) s')
theorem leaveU_ {F : List Addr} {g g₂ : Heap} {R : Result → Shared → Prop} {v : Value} {s' : Shared} {L' : Addr} {m' : Str → Option Value} {news' : List (Addr × Obj)} (U : UpF F g g₂) (F' : Fr g₂ L' s'.heap m') (N' : News g₂ L' s'.heap news')
    (k : UpF F g s'.heap → (∀ q ∈ news', s'.heap.get? q.1 = some q.2 ∧ g.get? q.1 = none) → R (.ok (.ret v)) s') : LeaveU F g R v s' := ⟨g₂, L', m', news', U, F', N', k⟩
theorem leaveU_out {F : List Addr} {g : Heap} {R : Result → Shared → Prop} {v : Value} {s' : Shared} (h : LeaveU F g R v s') : R (.ok (.ret v)) s' := by
  obtain ⟨g₂, L', m', news', U, F', N', k⟩ := h
  refine k (U.trans (.of F'.keep)) fun q hq => ⟨(N' q hq).1, ?_⟩
  cases e : g.get? q.1 with
  | none => rfl
  | some o =>
    obtain ⟨sl, e2⟩ := U.up _ o e
    rw [(N' q hq).2.2] at e2; cases e2
noncomputable def frsO (outer : List Env) : List Addr := outer.filterMap (·.frame)
section
variable {prog : Program} {w : World} {A A₀ : Around} {s : Shared} {K : Frag} {L : Addr} {h₀ base : Heap} {m mg mb : Str → Option Value} {p : Program} {loose : List Str} {mean : ExcName → Option Value}
  {env : Env} {outer : List Env} {R : Result → Shared → Prop} {name qual : Str} {params : Arguments} {body : List Stmt} {scope : Scope} {dV kV doc pm cdv ct oc : Value} {an od : Option Addr} {osl : Array (Option Value)} {f : Addr} {args : Args} {binds : List (Str × Value)} {ps : Array Value}
theorem enterU (B : Below A₀ base outer h₀) (F : Fr h₀ L s.heap m) (X₀ : K.In h₀) (T : Top p loose mean mg mb h₀) (hA : A.frames = some (env :: outer)) (hf : env.frame = some L) (hke : env.scope.kind = .function)
    (ho : K.lookup f = some ⟨oc, od, .func (fnOf name qual params body scope dV kV doc pm an cdv ct), osl⟩) (hcd : codeIn K cdv qual = true) (hroom : A.depth < recursionLimit)
    (hbind : BindsTo s (fnOf name qual params body scope dV kV doc pm an cdv ct) args binds) (hloc : ∀ y ∈ binds, scope.names.lookup y.1 = some .local)
    (h : ∀ L' h₁, Fr s.heap L' h₁ (fun y => binds.reverse.lookup y) → News s.heap L' h₁ [] → Below A base (env :: outer) s.heap → K.In s.heap → Top p loose mean mg mb s.heap → UpF (frsO (env :: outer)) s.heap s.heap →
      wpAny (model prog w) (A.deeper (envOf qual scope L' f cdv)) (execs body (envOf qual scope L' f cdv))
        (fun fl s' => LeaveU (frsO (env :: outer)) s.heap R (match fl with | .ret v => v | _ => .none) s')
        (fun e s' => wpAny (model prog w) (A.deeper (envOf qual scope L' f cdv)) (leaving (envOf qual scope L' f cdv) e) (fun _ s'' => R (.error e) s'') (fun e' s'' => R (.error e') s'') s')
        { s with heap := h₁, toks := s.toks + binds.length })
    (hco : scope.isCoroutine = false) (hgen : scope.isGenerator = false) (hk : scope.kind = .function)
    (hcell : ∀ x ∈ scope.names, x.2 ≠ .cell) : codeAny (model prog w) A (.call (.ref f) args) R s := by
  have B₁ := pushX B F hf hke
  refine codeAny_call_def (fd := fnOf name qual params body scope dV kV doc pm an cdv ct) (body := body) (binds := binds) hroom ((X₀.keeps F.keep) _ _ ho) rfl (T.nolimit.keeps F.keep) (codeRec_of (X₀.keeps F.keep) hcd) rfl hbind hcell hloc (fun h₁ hns hk₁ => ?_) hco hgen hk
  exact wpAny_mono (h s.heap.objs.size h₁ ⟨hns, hk₁, Nat.le_refl _⟩ News.nil ⟨hA, B₁.stays, B₁.frames⟩ (X₀.keeps F.keep) (T.keeps F.keep) (.refl _ _)) (fun fl s' hl => leaveU_out hl) fun _ _ y => y
theorem enterUC (h0 : 0 < s.toks) (B : Below A₀ base outer h₀) (F : Fr h₀ L s.heap m) (X₀ : K.In h₀) (T : Top p loose mean mg mb h₀) (hA : A.frames = some (env :: outer)) (hf : env.frame = some L) (hke : env.scope.kind = .function)
    (ho : K.lookup f = some ⟨oc, od, .func (fnOf name qual params body scope dV kV doc pm an cdv ct), osl⟩) (hcd : codeIn K cdv qual = true) (hroom : A.depth < recursionLimit)
    (hbind : BindsTo s (fnOf name qual params body scope dV kV doc pm an cdv ct) args binds) (hkind : (binds.all fun y => scope.names.lookup y.1 == some .local || scope.names.lookup y.1 == some .cell) = true)
    (hnd : ((cellsFrom 0 scope.names []).map (·.1)).Nodup)
    (h : ∀ L' h₁ tk cells, Fr s.heap L' h₁ (bindL (envOfC qual scope L' f cdv).kindOf binds fun _ => none) → News s.heap L' h₁ cells →
      CellsAre (bindC (envOfC qual scope L' f cdv).kindOf binds fun _ => none) (cellsFrom (L' + 1) scope.names []) cells → Below A base (env :: outer) s.heap → K.In s.heap → Top p loose mean mg mb s.heap → UpF (frsO (env :: outer)) s.heap s.heap → 0 < tk →
      wpAny (model prog w) (A.deeper (envOfC qual scope L' f cdv)) (execs body (envOfC qual scope L' f cdv))
        (fun fl s' => LeaveU (frsO (env :: outer)) s.heap R (match fl with | .ret v => v | _ => .none) s')
        (fun e s' => wpAny (model prog w) (A.deeper (envOfC qual scope L' f cdv)) (leaving (envOfC qual scope L' f cdv) e) (fun _ s'' => R (.error e) s'') (fun e' s'' => R (.error e') s'') s')
        { s with heap := h₁, toks := tk })
    (hco : scope.isCoroutine = false) (hgen : scope.isGenerator = false) (hk : scope.kind = .function) : codeAny (model prog w) A (.call (.ref f) args) R s := by
  have B₁ := pushX B F hf hke
  have hlim := T.nolimit
  refine codeAny_call_function hroom ((X₀.keeps F.keep) _ _ ho) rfl hco hgen rfl (codeRec_of (X₀.keeps F.keep) hcd) (hbind _ _ _ _ ?_)
  refine with_pos h0 (wpAny_newFunctionEnv_cells hk (kindsX hkind _) fun env' he s' x hpos => ?_)
  subst he
  refine ⟨(hlim.keeps F.keep).keeps x.toInCall.keep, codeAny_func ?_⟩
  obtain ⟨h₁, tk, rfl, _⟩ := x.done
  have hk₁ := x.toInCall.keep
  obtain ⟨cells, NC, Y⟩ := Cl.news (h₀ := s.heap) (Nat.le_refl _) fun n c hm => ⟨x.cell n c (lookup_of_mem_nodup (cellsFrom_names scope.names 0 (s.heap.objs.size + 1) [] [] rfl ▸ hnd) hm), x.above n c hm⟩
  exact wpAny_mono (h s.heap.objs.size h₁ tk cells ⟨x.toInCall.ns, hk₁, Nat.le_refl _⟩ NC Y ⟨hA, B₁.stays, B₁.frames⟩ (X₀.keeps F.keep) (T.keeps F.keep) (.refl _ _) hpos) (fun fl s' hl => leaveU_out hl) fun _ _ y => y
/-- entering a def with cells, the table laid aside, and the frames may get their frame objects -/
theorem enterRC (h0 : 0 < s.toks) (B : Below A₀ base outer h₀) (F : Fr h₀ L s.heap m) (X₀ : K.In h₀) (T : Top p loose mean mg mb h₀) (C : CodeHd h₀ 103 99) (N : News h₀ L s.heap [(99, tabObj ps)]) (hA : A.frames = some (env :: outer)) (hf : env.frame = some L) (hke : env.scope.kind = .function)
    (ho : K.lookup f = some ⟨oc, od, .func (fnOf name qual params body scope dV kV doc pm an cdv ct), osl⟩) (hcd : codeIn K cdv qual = true) (hroom : A.depth < recursionLimit)
    (hbind : BindsTo s (fnOf name qual params body scope dV kV doc pm an cdv ct) args binds) (hkind : (binds.all fun y => scope.names.lookup y.1 == some .local || scope.names.lookup y.1 == some .cell) = true)
    (hnd : ((cellsFrom 0 scope.names []).map (·.1)).Nodup)
    (h : ∀ g L' h₁ tk cells, g = hideAll s.heap [99] → Fr g L' h₁ (bindL (envOfC qual scope L' f cdv).kindOf binds fun _ => none) → News g L' h₁ (cells ++ [(99, tabObj ps)]) →
      CellsAre (bindC (envOfC qual scope L' f cdv).kindOf binds fun _ => none) (cellsFrom (L' + 1) scope.names []) cells → Below A base (env :: outer) g → K.In g → Top p loose mean mg mb g → CodeHd g 103 99 → @LT.lt Nat _ 99 L' → UpF (frsO (env :: outer)) g g → 0 < tk →
      wpAny (model prog w) (A.deeper (envOfC qual scope L' f cdv)) (execs body (envOfC qual scope L' f cdv))
        (fun fl s' => LeaveU (frsO (env :: outer)) g R (match fl with | .ret v => v | _ => .none) s')
        (fun e s' => wpAny (model prog w) (A.deeper (envOfC qual scope L' f cdv)) (leaving (envOfC qual scope L' f cdv) e) (fun _ s'' => R (.error e) s'') (fun e' s'' => R (.error e') s'') s')
        { s with heap := h₁, toks := tk })
    (hco : scope.isCoroutine = false) (hgen : scope.isGenerator = false) (hk : scope.kind = .function) : codeAny (model prog w) A (.call (.ref f) args) R s := by
  obtain ⟨FG, BG, st, _⟩ := groundX (R := R) B F N hA hf hke
  have hN := N _ (.head _)
  have hlim := T.nolimit
  refine codeAny_call_function hroom ((X₀.keeps F.keep) _ _ ho) rfl hco hgen rfl (codeRec_of (X₀.keeps F.keep) hcd) (hbind _ _ _ _ ?_)
  refine with_pos h0 (wpAny_newFunctionEnv_cells hk (kindsX hkind _) fun env' he s' x hpos => ?_)
  subst he
  refine ⟨(hlim.keeps F.keep).keeps x.toInCall.keep, codeAny_func ?_⟩
  obtain ⟨h₁, tk, rfl, _⟩ := x.done
  have hk₁ := x.toInCall.keep
  obtain ⟨cells, NC, Y⟩ := Cl.news (h₀ := s.heap) (Nat.le_refl _) fun n c hm => ⟨x.cell n c (lookup_of_mem_nodup (cellsFrom_names scope.names 0 (s.heap.objs.size + 1) [] [] rfl ▸ hnd) hm), x.above n c hm⟩
  refine wpAny_mono (h _ s.heap.objs.size h₁ tk cells rfl ⟨x.toInCall.ns, fun b o e => hk₁ b o (of_hideAll _ e), Nat.le_of_eq (hideAll_size _ _)⟩ (fun q hq => ?_) Y BG (X₀.keeps st) (T.keeps st) (C.keeps st) (Heap.lt_size hN.1) (.refl _ _) hpos) (fun fl s' hl => leaveU_out hl) fun _ _ y => y
  rcases List.mem_append.mp hq with hq | hq
  · refine ⟨(NC q hq).1, (NC q hq).2.1, ?_⟩
    cases e : (hideAll s.heap [99]).get? q.1 with
    | none => rfl
    | some o => have := (NC q hq).2.2; rw [of_hideAll _ e] at this; cases this
  · rw [List.mem_singleton] at hq
    subst hq
    exact ⟨hk₁ _ _ hN.1, Nat.ne_of_lt (Heap.lt_size hN.1), hideAll_none _ (by simp)⟩
end

/-- the contract of a def within which something may be raised and caught -/
noncomputable def TellU (w : World) (f : Addr) (k u : Nat) (args : List Value) (need : Heap → Prop) (R : Value → List (Addr × Obj) → Prop) : Prop :=
  ∀ (p : Program) (loose : List Str) (mean : ExcName → Option Value) (mg mb : Str → Option Value) (dp un : Nat) (gd : Option (List PySem.Code)) (cn : Str) (cs : Scope) (a : Addr) (ccd : Value) (cl : List (Str × Addr)) (outer : List Env) (A₀ : Around) (base h₀ : Heap) (L : Addr) (m : Str → Option Value) (s : Shared) (Q E : Value → Shared → Prop),
    (Mine.heap w.params).In h₀ → Below A₀ base outer h₀ → Fr h₀ L s.heap m → Top p loose mean mg mb h₀ → (Mine.heap w.params).In base → Top p loose mean mg mb base → cs.kind = .function → dp + k < recursionLimit → un + u < cLine → 0 < s.toks → need s.heap →
    (∀ v own h' tk', UpF (frs L outer) s.heap h' → (∀ q ∈ own, h'.get? q.1 = some q.2 ∧ s.heap.get? q.1 = none) → 0 < tk' → R v own → Q v { s with heap := h', toks := tk' }) →
    wpAny (model PySem.Challenge.rw_in0282_01.row.prog w) (ktrTop dp un gd cn cs L a ccd cl outer) (call (.ref f) args) Q E s
theorem TellU.of {w : World} {f : Addr} {k u : Nat} {args : List Value} {need : Heap → Prop} {R : Value → List (Addr × Obj) → Prop}
    (h : ∀ (p : Program) (loose : List Str) (mean : ExcName → Option Value) (mg mb : Str → Option Value) (dp un : Nat) (gd : Option (List PySem.Code)) (cn : Str) (cs : Scope) (a : Addr) (ccd : Value) (cl : List (Str × Addr)) (outer : List Env) (A₀ : Around) (base h₀ : Heap) (L : Addr) (m : Str → Option Value) (s : Shared) (Q E : Value → Shared → Prop),
      (Mine.heap w.params).In h₀ → Below A₀ base outer h₀ → Fr h₀ L s.heap m → Top p loose mean mg mb h₀ → (Mine.heap w.params).In base → Top p loose mean mg mb base → cs.kind = .function → dp + k < recursionLimit → un + u < cLine → 0 < s.toks → need s.heap →
      (∀ v own h' tk', UpF (frs L outer) s.heap h' → (∀ q ∈ own, h'.get? q.1 = some q.2 ∧ s.heap.get? q.1 = none) → R v own → Q v { s with heap := h', toks := tk' }) →
      wpAny (model PySem.Challenge.rw_in0282_01.row.prog w) (ktrTop dp un gd cn cs L a ccd cl outer) (call (.ref f) args) Q E s) : TellU w f k u args need R := by
  intro p loose mean mg mb dp un gd cn cs a ccd cl outer A₀ base h₀ L m s Q E X B F T Xb Tb hk hd hu ht hn hret
  refine wpAny_mono (wpAny_toks_of (n := 1) ht (h p loose mean mg mb dp un gd cn cs a ccd cl outer A₀ base h₀ L m s (fun v s' => 1 ≤ s'.toks → Q v s') E X B F T Xb Tb hk hd hu ht hn fun v own h' tk' st N' r ht' => hret v own h' tk' st N' ht' r)) (fun v s' q => q.2 q.1) fun _ _ q => q.2
theorem TellU.use {w : World} {f : Addr} {k u : Nat} {args : List Value} {need : Heap → Prop} {R : Value → List (Addr × Obj) → Prop} (Ct : TellU w f k u args need R)
    {p : Program} {loose : List Str} {mean : ExcName → Option Value} {mg mb : Str → Option Value} {dp un : Nat} {gd : Option (List PySem.Code)} {cn : Str} {cs : Scope} {a : Addr} {ccd : Value} {cl : List (Str × Addr)} {outer : List Env} {A₀ : Around} {base h₀ g₀ : Heap} {L : Addr} {m : Str → Option Value} {news : List (Addr × Obj)} {s : Shared} {Q E : Value → Shared → Prop}
    (X : (Mine.heap w.params).In h₀) (B : Below A₀ base outer h₀) (F : Fr h₀ L s.heap m) (N : News h₀ L s.heap news) (T : Top p loose mean mg mb h₀) (Xb : (Mine.heap w.params).In base) (Tb : Top p loose mean mg mb base) (U : UpF (frsO outer) g₀ h₀) (hk : cs.kind = .function) (hd : dp + k < recursionLimit) (hu : un + u < cLine) (ht : 0 < s.toks) (hn : need s.heap)
    (hret : ∀ v own g h' tk', Below A₀ base outer g → (Mine.heap w.params).In g → Top p loose mean mg mb g → base.StaysIn g → UpF (frsO outer) g₀ g → Fr g L h' m → News g L h' (own ++ news) → (∀ q ∈ own, ∀ q' ∈ news, q'.1 ≠ q.1) → UpF (frsO outer) h₀ g → 0 < tk' → R v own → Q v { s with heap := h', toks := tk' }) :
    wpAny (model PySem.Challenge.rw_in0282_01.row.prog w) (ktrTop dp un gd cn cs L a ccd cl outer) (call (.ref f) args) Q E s := by
  refine Ct p loose mean mg mb dp un gd cn cs a ccd cl outer A₀ base h₀ L m s Q E X B F T Xb Tb hk hd hu ht hn fun v own h' tk' up ow ht' r => ?_
  obtain ⟨g, B', F', N', st, z, u'⟩ := anew B F N up
  refine hret v own g h' tk' B' (Xb.keeps st) (Tb.keeps st) st (U.trans u') F' (fun q hq => ?_) (fun q hq q' hq' e => ?_) u' ht' r
  · rcases List.mem_append.mp hq with hq | hq
    · refine ⟨(ow q hq).1, fun e => ?_, z _ ?_⟩
      · obtain ⟨o, es, ep, eL, _⟩ := F.ns
        have := (ow q hq).2
        rw [e, eL] at this; cases this
      · cases e : h₀.get? q.1 with
        | none => rfl
        | some o => have := (ow q hq).2; rw [F.keep _ _ e] at this; cases this
    · exact N' q hq
  · have := (N q' hq').1
    rw [e, (ow q hq).2] at this
    cases this
end Mine
end
theorem Mine.walk_off_PV : True := by
  w_top off
  k_with_none
  trivial
section
open PySem PySem.W PyProof.Rows PySem.Calls PySem.Spec
set_option Elab.async false
set_option maxRecDepth 100000
set_option maxHeartbeats 8000000
namespace Mine
theorem UpF.isList {F : List Addr} {g g' : Heap} (u : UpF F g g') {l : Addr} {its : Array Value} (h : g.IsList l its) : g'.IsList l its := by
  obtain ⟨o, ho, hc, ne, hd⟩ := h
  obtain ⟨sl, e⟩ := u.up _ _ ho
  exact ⟨_, e, hc, ne, hd⟩
theorem Fr.isList {g h : Heap} {L : Addr} {m : Str → Option Value} (F : Fr g L h m) {l : Addr} {its : Array Value} (x : g.IsList l its) : h.IsList l its := by
  obtain ⟨o, ho, hc, ne, hd⟩ := x
  exact ⟨o, F.keep _ _ ho, hc, ne, hd⟩
/-- an IndexError just made -/
structure NewE (h h' : Heap) (e : Addr) (c : Value) : Prop where
  keeps : ∀ b o, h.get? b = some o → h'.get? b = some o
  new : h.get? e = none
  there : ∃ ob t, h'.get? e = some ob ∧ ob.cls = .type "IndexError" ∧ ob.data = .fields #[t, .none, c, .none, .bool false, .none]
/-- what is being handled: nothing, or an exception without a context -/
noncomputable def Handles (A : Around) (h : Heap) (c : Value) : Prop := (A.handled = none ∧ c = .none) ∨ ∃ x o vs, A.handled = some (.ref x) ∧ c = .ref x ∧ h.get? x = some o ∧ o.data = .fields vs ∧ vs[2]? = some .none
section
variable {prog : Program} {w : World} {A : Around} {E : Value → Shared → Prop} {s : Shared} {c : Value}
theorem entry_unchain : entryFor table "proto.unchain" = some Builtin.«proto.unchain» := entryFor_of_fast (by kernel_rfl)
theorem raise_index {α : Type} {msg : String} {Q : α → Shared → Prop} (hh : Handles A s.heap c) (h : ∀ h' tk e, NewE s.heap h' e c → E (.ref e) { s with heap := h', toks := tk }) :
    wpAny (model prog w) A (raiseErrorWords "IndexError" msg : Sem α) Q E s := by
  unfold raiseErrorWords
  refine wpAny_bind (wpAny_mkText (wpAny_bind ?_))
  unfold newExc newTuple
  refine wpAny_bind (wpAny_newObj_type ?_)
  refine wpAny_bind (m := firstArgMember _ _) (wpAny_of_eq (a := Value.none) (by simp only [firstArgMember, plainExc_IndexError.first]; rfl) ?_)
  rw [plainExc_IndexError.own]
  refine wpAny_newObj_type ?_
  unfold raiseNew
  refine wpAny_bind (wpAny_handled ?_)
  rcases hh with ⟨hh, rfl⟩ | ⟨x, o, vs, hh, rfl, ho, hd, h2⟩
  · rw [hh]
    first
      | refine wpAny_throw ?_
      | refine wpAny_bind (wpAny_pure (wpAny_throw ?_))
    exact h _ _ _ ⟨fun b o hb => Heap.get?_push_of_some _ (Heap.get?_push_of_some _ hb), Heap.get?_none_of_le (by simp), _, .ref s.heap.objs.size, Heap.get?_push_size _ rfl, rfl, by simp⟩
  · rw [hh]
    simp only []
    generalize hp : (s.heap.push { cls := Value.type "tuple", data := Data.seq #[Value.str (Str.ofString msg) s.toks] }) = h1
    have k1 : ∀ b o, s.heap.get? b = some o → h1.get? b = some o := fun b o hb => hp ▸ Heap.get?_push_of_some _ hb
    have hx1 : @LT.lt Nat _ x h1.objs.size := Heap.lt_size (k1 _ _ ho)
    have hne : x ≠ h1.objs.size := Nat.ne_of_lt hx1
    rw [if_pos (by simp [hne])]
    have hn : s.heap.get? h1.objs.size = none := by
      cases e : s.heap.get? h1.objs.size with
      | none => rfl
      | some o' => exact absurd (Heap.lt_size (k1 _ _ e)) (Nat.lt_irrefl _)
    have hnew := Heap.get?_push_size h1 (o := { cls := .type "IndexError", data := .fields (#[Value.ref s.heap.objs.size, .none, .none, .none, .bool false, .none] ++ #[]) }) rfl
    refine wpAny_bind (wpAny_holding (wpAny_runValue (codeAny_builtin entry_unchain ?_)))
    show wpAny _ _ (do
      let context ← field (.ref x) 2
      if context == .none then return ← ret .none
      _) _ _ _
    refine wpAny_bind (wpAny_field (Heap.get?_push_of_some _ (k1 _ _ ho)) hd h2 ?_)
    rw [if_pos (by decide)]
    refine wpAny_bind (show wpAny _ _ (ret .none) _ _ _ from wpAny_pure (wpAny_pure ?_))
    refine wpAny_bind (wpAny_setField (a := h1.objs.size) hnew rfl (by simp) (wpAny_throw (h _ _ _ ⟨fun b o hb => ?_, hn, ?_⟩)))
    · rw [Heap.get?_update_other _ _ (fun q => by rw [← q, hn] at hb; cases hb)]
      exact Heap.get?_push_of_some _ (k1 _ _ hb)
    · exact ⟨_, _, Heap.get?_update_self _ hnew rfl, rfl, rfl⟩
theorem getItem_out {l : Addr} {items : Array Value} {k : Int} {t : Tok} {Q : Value → Shared → Prop} (hh : Handles A s.heap c) (hl : s.heap.IsList l items) (hout : (items.size : Int) ≤ k) (hhi : k < 2 ^ 63)
    (hE : ∀ h' tk e, NewE s.heap h' e c → E (.ref e) { s with heap := h', toks := tk }) : wpAny (model prog w) A (getItem (.ref l) (.int k t)) Q E s := by
  obtain ⟨o, ho, hc, ne, hd⟩ := id hl
  unfold getItem
  try with_reducible refine wpAny_holding ?_
  first | refine wpAny_bind (wpAny_pure ?_) | skip
  refine wpAny_bind (wpAny_sequenceKey hl.typeIs (by decide) ?_)
  refine wpAny_bind (wpAny_callSpecial?_slot (name := Str.ofString "__getitem__") hl.typeIs slot_list_getitem
    (wpAny_call_entry slot_list_getitem hl.typeIs entry_list_getitem ?_ (args_list_getitem _ _)))
  show wpAny _ _ (Builtin.List.listSubscript? (.int k t) >>= _) _ _ s
  refine wpAny_bind (wpAny_listSubscript_int (fitsIndex_both (by omega) hhi) ?_)
  clear hhi
  cases k with
  | negSucc j => exact absurd hout (by have := Int.negSucc_lt_zero j; omega)
  | ofNat j =>
    have hx : items[j]? = none := Array.getElem?_eq_none (by have : (items.size : Int) ≤ (j : Int) := hout; omega)
    show wpAny _ _ ((seqItemAt l j >>= fun r => pure (r.map (j, ·))) >>= _) _ _ s
    refine wpAny_bind (wpAny_bind (wpAny_seqItemAt ho hd (wpAny_pure ?_)))
    rw [hx]
    first
      | exact wpAny_bind (wpAny_rule (raise_index hh hE))
      | exact wpAny_bind (wpAny_rule (wpAny_bind (raise_index hh hE)))
      | exact wpAny_bind (wpAny_bind (wpAny_rule (raise_index hh hE)))
      | exact wpAny_rule (raise_index hh hE)
/-- a list at a number: there, or an IndexError -/
theorem item_or {value slice : Expr} {l : Addr} {items : Array Value} {k : Int} {t : Tok} {Q : Value → Shared → Prop} (hh : Handles A s.heap c) (hl : s.heap.IsList l items) (h0 : 0 ≤ k) (hsz : items.size ≤ 1000000)
    (hin : ∀ x, items[k.toNat]? = some x → Q x s) (hout : items.size ≤ k.toNat → k < 2 ^ 63 → ∀ h' tk e, NewE s.heap h' e c → E (.ref e) { s with heap := h', toks := tk }) (hhi : k < 2 ^ 63)
    (hs : subscripted slice false (.ref l) (.int k t) = operate [.ref l, .int k t] (getItem (.ref l) (.int k t)) := by with_unfolding_all rfl) (hg : ∀ r, letTemporaryGo value (.ref l) r = pure () := by intro _; with_unfolding_all rfl) :
    wpAny (model prog w) A (subscriptTail value slice (.ref l) (.int k t)) Q E s := by
  by_cases hlt : k.toNat < items.size
  · exact item_L hl (Array.getElem?_eq_getElem hlt) h0 (by omega) (hin _ (Array.getElem?_eq_getElem hlt)) hs hg
  · exact subscriptTail_builtin hl.typeIs slot_list_getitem.lookup (getItem_out hh hl (by omega) hhi (hout (by omega) hhi)) hs hg
end
/-- an exception and its traceback -/
structure ExcF (oe : Obj) (T : Addr) (oT : Obj) (c fl : Value) : Prop where
  cls : oe.cls = .type "IndexError"
  fields : ∃ vs, oe.data = .fields vs ∧ vs[1]? = some (.ref T) ∧ vs[2]? = some c
  trace : ∃ ts, oT.data = .fields ts ∧ ts[3]? = some fl
structure Apart (e T : Addr) (news : List (Addr × Obj)) : Prop where
  ne : T ≠ e
  far : ∀ q ∈ news, q.1 ≠ e ∧ q.1 ≠ T
section
variable {prog : Program} {w : World} {A A₀ : Around} {E : Value → Shared → Prop} {s : Shared} {c : Value} {base g₀ g h : Heap} {outer : List Env} {L a e T : Addr} {oe oT : Obj} {m : Str → Option Value} {news : List (Addr × Obj)} {name : Str} {scope : Scope} {cd : Value}
theorem noteE {Q : Unit → Shared → Prop} (B : Below A₀ base outer g₀) (F : Fr g₀ L h m) (N : News g₀ L h news) (hx : NewE h s.heap e c)
    (k : ∀ g h' T oe oT, Below A₀ base outer g → base.StaysIn g → UpF (frsO outer) g₀ g → Fr g L h' m → News g L h' ((e, oe) :: (T, oT) :: news) → ExcF oe T oT c (rawInt L) → Apart e T news → Q () { s with heap := h' }) (hk : scope.kind = .function := by rfl) :
    wpAny (model prog w) (A₀.deeper (envOf name scope L a cd)) (noteFrame (.ref e) (envOf name scope L a cd)) Q E s := by
  have B₁ : Below (A₀.deeper (envOf name scope L a cd)) base (envOf name scope L a cd :: outer) h := B.push F hk
  have hl : s.heap.FunFrames base (envOf name scope L a cd :: outer) := B₁.frames.of_keeps fun b o ho _ => ⟨o, hx.keeps _ _ ho, rfl⟩
  obtain ⟨ob, t, he, hcl, hd⟩ := hx.there
  have hene : e ∉ (envOf name scope L a cd :: outer).filterMap (·.frame) := fun hm => by
    obtain ⟨_, o, ho, hnf⟩ := hl.mem hm
    rw [he] at ho; injection ho with ho; subst ho; exact hnf _ hd
  have hLe : e ≠ L := fun q => hene (by rw [q]; exact List.mem_filterMap.mpr ⟨_, .head _, rfl⟩)
  unfold noteFrame
  simp only [show (envOf name scope L a cd).frame = some L from rfl]
  refine wpAny_bind (wpAny_field he hd (x := .none) rfl ?_)
  rw [if_neg (by decide)]
  refine wpAny_bind (wpAny_frameOf_fun B₁.stack hl rfl fun h₁ hs₁ => ?_)
  refine wpAny_bind (wpAny_entryPlaceOf fun pl hpl => ?_)
  unfold EntryCells.newEntry newFields
  refine wpAny_bind (wpAny_newObj_type ?_ (hpl.sizeOk5 _ _ _ _ _))
  have he₁ : h₁.get? e = some ob := (hs₁.2.1 e hene).trans he
  generalize hoT : ({ cls := .type "traceback", dict := none, data := .fields ([Value.none, .ref L, .none, rawInt L, .none] ++ (if pl.isEmpty then List.replicate 6 Value.none else pl)).toArray } : Obj) = oT
  have hTd : ∃ ts, oT.data = .fields ts ∧ ts[3]? = some (rawInt L) := ⟨_, by rw [← hoT], by simp⟩
  have hTfr : oT.isFreed = false := by obtain ⟨ts, e1, _⟩ := hTd; exact Obj.isFreed_of_fields e1
  clear hoT
  have he₂ := Heap.get?_push_of_some (h := h₁) oT he₁
  have hTe : h₁.objs.size ≠ e := Nat.ne_of_gt (Heap.lt_size he₁)
  have hd₃ := Obj.data_mapFields hd (·.setIfInBounds 1 (Value.ref h₁.objs.size))
  refine wpAny_setField he₂ hd (by simp) ?_
  have he₃ := Heap.get?_update_self (Obj.mapFields (·.setIfInBounds 1 (Value.ref h₁.objs.size))) he₂ (Obj.isFreed_of_fields hd₃)
  have hT₃ := (Heap.get?_update_other (h₁.push oT) (Obj.mapFields (·.setIfInBounds 1 (Value.ref h₁.objs.size))) (Ne.symm hTe)).trans (Heap.get?_push_size h₁ hTfr)
  have keep : ∀ b o, b ≠ e → h₁.get? b = some o → ((h₁.push oT).update e (Obj.mapFields (·.setIfInBounds 1 (Value.ref h₁.objs.size)))).get? b = some o := fun b o hbe hb => by
    rw [Heap.get?_update_other _ _ (Ne.symm hbe)]
    exact Heap.get?_push_of_some _ hb
  generalize (h₁.push oT).update e (Obj.mapFields (·.setIfInBounds 1 (Value.ref h₁.objs.size))) = h₃ at he₃ hT₃ keep ⊢
  have nE : ∀ b o, h.get? b = some o → b ≠ e := fun b o hb q => by rw [q, hx.new] at hb; cases hb
  have hTn : h.get? h₁.objs.size = none := by
    cases q : h.get? h₁.objs.size with
    | none => rfl
    | some o =>
      obtain ⟨sl, q2⟩ := hs₁.2.2 _ _ (hx.keeps _ _ q)
      exact absurd (Heap.lt_size q2) (Nat.lt_irrefl _)
  have hTL : h₁.objs.size ≠ L := fun q => by
    obtain ⟨o, es, ep, eL, _⟩ := F.ns
    rw [← q, hTn] at eL; cases eL
  have U : UpF (frs L outer) h h₃ := ⟨fun b o hb ho => keep b o (nE b o ho) ((hs₁.2.1 b hb).trans (hx.keeps _ _ ho)), fun b o ho => by
    obtain ⟨sl, q2⟩ := hs₁.2.2 _ _ (hx.keeps _ _ ho)
    exact ⟨sl, keep b _ (nE b o ho) q2⟩⟩
  obtain ⟨g, B', F', N', st, z, u'⟩ := anew B F N U
  have zz : ∀ b, h.get? b = none → g.get? b = none := fun b hb => z b (by
    cases q : g₀.get? b with
    | none => rfl
    | some o => rw [F.keep _ _ q] at hb; cases hb)
  refine k g h₃ _ _ oT B' st u' F' (fun q hq => ?_) ⟨?_, ⟨_, hd₃, by simp, by simp⟩, hTd⟩ ⟨hTe, fun q hq => ⟨nE _ _ (N q hq).1, fun e1 => ?_⟩⟩
  · rcases List.mem_cons.mp hq with rfl | hq
    · exact ⟨he₃, hLe, zz _ hx.new⟩
    · rcases List.mem_cons.mp hq with rfl | hq
      · exact ⟨hT₃, hTL, zz _ hTn⟩
      · exact N' q hq
  · rw [Obj.cls_mapFields]; exact hcl
  · have := (N q hq).1
    rw [e1, hTn] at this; cases this
theorem ExcF.held {fl : Value} (F : Fr g L h m) (N : News g L h ((e, oe) :: (T, oT) :: news)) (x : ExcF oe T oT c fl) (ap : Apart e T news) : TT.HeldNA g L h m e "IndexError" news fl := by
  obtain ⟨hc, ⟨vs, hd, h1, h2⟩, ts, hdt, h3⟩ := x
  have nE1 := N (e, oe) (.head _)
  have NT := N (T, oT) (.tail _ (.head _))
  refine ⟨⟨F, ⟨oe, vs, T, oT, ts, nE1.1, hc, hd, h1, NT.1, hdt, h3, NT.2.1, ap.ne, NT.2.2⟩, nE1.2.2⟩, fun q hq => N q (.tail _ (.tail _ hq)), fun ob vs' tb e1 e2 e3 p hp => ?_⟩
  rw [nE1.1] at e1; cases e1
  rw [hd] at e2; cases e2
  rw [h1] at e3; cases e3
  exact (ap.far p hp).2
theorem landE {fl : Value} {Q : Unit → Shared → Prop} (F : Fr g L s.heap m) (N : News g L s.heap ((e, oe) :: (T, oT) :: news)) (x : ExcF oe T oT c fl) (ap : Apart e T news)
    (k : ∀ h' oT', Fr g L h' m → News g L h' ((e, oe) :: (T, oT') :: news) → ExcF oe T oT' c .none → Q () { s with heap := h' }) :
    wpAny (model prog w) A (setFlight (.ref e) none) Q E s := by
  obtain ⟨hc, ⟨vs, hd, h1, h2⟩, ts, hdt, h3⟩ := x
  have nE1 := N (e, oe) (.head _)
  have NT := N (T, oT) (.tail _ (.head _))
  have hsz : 3 < ts.size := (Array.getElem?_eq_some_iff.mp h3).1
  obtain ⟨oL, esL, epL, hL, hLd, hLk, hLf⟩ := F.ns
  refine wpAny_setFlight_none nE1.1 hd h1 NT.1 hdt hsz (k _ (oT.mapFields (·.setIfInBounds 3 Value.none)) ⟨⟨oL, esL, epL, (Heap.get?_update_ne _ _ _ _ (Ne.symm NT.2.1)).trans hL, hLd, hLk, hLf⟩, fun b o hb => ?_, F.above⟩ (fun p hp => ?_) ⟨hc, ⟨vs, hd, h1, h2⟩, _, Obj.data_mapFields hdt _, by simp [hsz]⟩)
  · exact (Heap.get?_update_ne _ _ _ _ (fun q => by rw [q, NT.2.2] at hb; cases hb)).trans (F.keep b o hb)
  · rcases List.mem_cons.mp hp with rfl | hp
    · exact ⟨(Heap.get?_update_ne _ _ _ _ (Ne.symm ap.ne)).trans nE1.1, nE1.2⟩
    · rcases List.mem_cons.mp hp with rfl | hp
      · exact ⟨Heap.get?_update_self _ NT.1 (Obj.isFreed_of_fields (Obj.data_mapFields hdt _)), NT.2⟩
      · have Nq := N p (.tail _ (.tail _ hp))
        exact ⟨(Heap.get?_update_ne _ _ _ _ (ap.far p hp).2).trans Nq.1, Nq.2⟩
theorem relook {Q : Unit → Shared → Prop} (N : News g L s.heap ((e, oe) :: (T, oT) :: news)) (x : ExcF oe T oT c (rawInt L)) (k : Q () s) :
    wpAny (model prog w) A (noteFrame (.ref e) (envOf name scope L a cd)) Q E s := by
  obtain ⟨hc, ⟨vs, hd, h1, h2⟩, ts, hdt, h3⟩ := x
  unfold noteFrame
  simp only [show (envOf name scope L a cd).frame = some L from rfl]
  refine wpAny_bind (wpAny_field (N (e, oe) (.head _)).1 hd h1 ?_)
  rw [if_pos (show (Value.ref T != Value.none) = true from by simp)]
  refine wpAny_bind (wpAny_field (N (T, oT) (.tail _ (.head _))).1 hdt h3 ?_)
  rw [if_pos (by simp)]
  exact wpAny_pure k
theorem passE {α : Type} {fl : Value} {what : String} {Q : α → Shared → Prop} (F : Fr g L s.heap m) (N : News g L s.heap ((e, oe) :: (T, oT) :: news)) (x : ExcF oe T oT c fl) (ap : Apart e T news)
    (k : ∀ h' oT', Fr g L h' m → News g L h' ((e, oe) :: (T, oT') :: news) → ExcF oe T oT' c (rawInt L) → E (.ref e) { s with heap := h' }) :
    wpAny (model prog w) A (PySem.passOn what (.ref e) (envOf name scope L a cd) : Sem α) Q E s := by
  obtain ⟨hc, ⟨vs, hd, h1, h2⟩, ts, hdt, h3⟩ := x
  have nE1 := N (e, oe) (.head _)
  have NT := N (T, oT) (.tail _ (.head _))
  have hsz : 3 < ts.size := (Array.getElem?_eq_some_iff.mp h3).1
  obtain ⟨oL, esL, epL, hL, hLd, hLk, hLf⟩ := F.ns
  unfold PySem.passOn
  refine wpAny_bind (wpAny_field nE1.1 hd h1 ?_)
  rw [if_neg (by simp)]
  unfold setFlight
  refine wpAny_bind (wpAny_bind (wpAny_field nE1.1 hd h1 ?_))
  rw [if_pos (show (Value.ref T != Value.none) = true from by simp)]
  refine wpAny_setField NT.1 hdt hsz (wpAny_throw (k _ (oT.mapFields (·.setIfInBounds 3 (rawInt L))) ⟨⟨oL, esL, epL, (Heap.get?_update_ne _ _ _ _ (Ne.symm NT.2.1)).trans hL, hLd, hLk, hLf⟩, fun b o hb => ?_, F.above⟩ (fun p hp => ?_) ⟨hc, ⟨vs, hd, h1, h2⟩, _, Obj.data_mapFields hdt _, by simp [hsz]⟩))
  · exact (Heap.get?_update_ne _ _ _ _ (fun q => by rw [q, NT.2.2] at hb; cases hb)).trans (F.keep b o hb)
  · rcases List.mem_cons.mp hp with rfl | hp
    · exact ⟨(Heap.get?_update_ne _ _ _ _ (Ne.symm ap.ne)).trans nE1.1, nE1.2⟩
    · rcases List.mem_cons.mp hp with rfl | hp
      · exact ⟨Heap.get?_update_self _ NT.1 (Obj.isFreed_of_fields (Obj.data_mapFields hdt _)), NT.2⟩
      · have Nq := N p (.tail _ (.tail _ hp))
        exact ⟨(Heap.get?_update_ne _ _ _ _ (ap.far p hp).2).trans Nq.1, Nq.2⟩
/-- an IndexError on its way: just made, or noted here already -/
noncomputable def OnWay (A₀ : Around) (base g₀ : Heap) (outer : List Env) (L e : Addr) (m : Str → Option Value) (news : List (Addr × Obj)) (c : Value) (h' : Heap) : Prop :=
  ∃ g, Below A₀ base outer g ∧ UpF (frsO outer) g₀ g ∧ ((∃ h, Fr g L h m ∧ News g L h news ∧ NewE h h' e c) ∨ ∃ oe T oT, Fr g L h' m ∧ News g L h' ((e, oe) :: (T, oT) :: news) ∧ ExcF oe T oT c (rawInt L) ∧ Apart e T news)
theorem noteOn {Q : Unit → Shared → Prop} (W : OnWay A₀ base g₀ outer L e m news c s.heap)
    (k : ∀ g h' T oe oT, Below A₀ base outer g → UpF (frsO outer) g₀ g → Fr g L h' m → News g L h' ((e, oe) :: (T, oT) :: news) → ExcF oe T oT c (rawInt L) → Apart e T news → Q () { s with heap := h' }) (hk : scope.kind = .function := by rfl) :
    wpAny (model prog w) (A₀.deeper (envOf name scope L a cd)) (noteFrame (.ref e) (envOf name scope L a cd)) Q E s := by
  obtain ⟨g, B, U, ⟨h, F, N, hx⟩ | ⟨oe, T, oT, F, N, x, ap⟩⟩ := W
  · exact noteE B F N hx (fun g2 h2 T oe oT B2 _ U2 F2 N2 x2 ap2 => k g2 h2 T oe oT B2 (U.trans U2) F2 N2 x2 ap2) hk
  · exact relook N x (k g s.heap T oe oT B U F N x ap)
theorem catchE {Q : Flow → Shared → Prop} {x : Str} {np pos : Pos} {b₀ : Stmt} {suite : List Stmt} {rest : List ExceptHandler} (W : OnWay A₀ base g₀ outer L e m news c s.heap)
    (k : ∀ g h2, Below A₀ base outer g → UpF (frsO outer) g₀ g → Fr g L h2 m → News g L h2 news →
      wpAny (model prog w) ((A₀.deeper (envOf name scope L a cd)).mark (some (.ref e))) (eval (.Name x np) (envOf name scope L a cd)) (fun c s1 => c = .type "IndexError" ∧ s1 = { s with heap := h2 } ∧ ∀ h3, Fr g L h3 m → News g L h3 news →
        wpAny (model prog w) ((A₀.deeper (envOf name scope L a cd)).mark (some (.ref e))) (execs (b₀ :: suite) (envOf name scope L a cd)) Q E { s with heap := h3 }) E { s with heap := h2 })
    (hE : PassesOwnAt (model prog w) ((A₀.deeper (envOf name scope L a cd)).mark (some (.ref e))) (A₀.deeper (envOf name scope L a cd)) (envOf name scope L a cd) E) (hk : scope.kind = .function := by rfl) :
    wpAny (model prog w) (A₀.deeper (envOf name scope L a cd)) (noteFrame (.ref e) (envOf name scope L a cd)) (fun _ s₂ => wpAny (model prog w) (A₀.deeper (envOf name scope L a cd)) (setFlight (.ref e) none) (fun _ s₃ =>
      wpAny (model prog w) (A₀.deeper (envOf name scope L a cd)) (handleBy (.ref e) (envOf name scope L a cd) (.ExceptHandler (some (.Name x np)) none (b₀ :: suite) pos :: rest)) Q E s₃) E s₂) E s := by
  refine noteOn W (fun g h' T oe oT B U F N x1 ap => ?_) hk
  refine landE F N x1 ap fun h2 oT' F2 N2 x2 => ?_
  refine wpAny_handleBy_builtin (X := "IndexError") (T := "IndexError") (b := true) (isSubtype_of_subB (by decide +kernel)) (isSubtype_of_subB (by decide +kernel)) (isSubtype_of_subB (by decide +kernel)) (wpAny_passesOwnAt hE (wpAny_mono (k g h2 B U F2 fun q hq => N2 q (.tail _ (.tail _ hq))) (fun c s1 q => ?_) fun _ _ q => q))
  obtain ⟨rfl, rfl, q⟩ := q
  have H := ExcF.held F2 N2 x2 ap
  refine ⟨rfl, TT.HeldNA.isA (s' := { s with heap := h2 }) H, ?_⟩
  rw [if_pos rfl]
  exact TT.HeldNA.lands (s' := { s with heap := h2 }) H fun h3 F3 N3 => wpAny_passesOwnAt hE (q h3 F3 N3)
/-- a try with a finally: what is raised within goes through the suite -/
theorem finallyE {Q : Flow → Shared → Prop} {f₀ : Stmt} {fs : List Stmt} (W : OnWay A₀ base g₀ outer L e m news c s.heap)
    (k : ∀ g h2 T oe oT, Below A₀ base outer g → UpF (frsO outer) g₀ g → Fr g L h2 m → News g L h2 ((e, oe) :: (T, oT) :: news) → ExcF oe T oT c .none → Apart e T news →
      wpAny (model prog w) ((A₀.deeper (envOf name scope L a cd)).mark (some (.ref e))) (execs (f₀ :: fs) (envOf name scope L a cd))
        (fun r s₂ => match r with | .next => wpAny (model prog w) (A₀.deeper (envOf name scope L a cd)) (PySem.passOn "try.finally" (.ref e) (envOf name scope L a cd)) Q E s₂ | r => wpAny (model prog w) (A₀.deeper (envOf name scope L a cd)) (setFlight (.ref e) none) (fun _ s₃ => Q r s₃) E s₂) E { s with heap := h2 })
    (hE : PassesOwnAt (model prog w) ((A₀.deeper (envOf name scope L a cd)).mark (some (.ref e))) (A₀.deeper (envOf name scope L a cd)) (envOf name scope L a cd) E) (hk : scope.kind = .function := by rfl) :
    wpAny (model prog w) (A₀.deeper (envOf name scope L a cd)) (noteFrame (.ref e) (envOf name scope L a cd)) (fun _ s₂ => FinallyRaised prog w (A₀.deeper (envOf name scope L a cd)) E (envOf name scope L a cd) (f₀ :: fs) Q (.ref e) s₂) (FinallyRaised prog w (A₀.deeper (envOf name scope L a cd)) E (envOf name scope L a cd) (f₀ :: fs) Q) s := by
  refine noteOn W (fun g h' T oe oT B U F N x1 ap => ⟨ref_ne_byPass e, ?_⟩) hk
  refine relook (s := { s with heap := h' }) N x1 ?_
  refine landE (s := { s with heap := h' }) F N x1 ap fun h2 oT' F2 N2 x2 => ?_
  exact wpAny_mono (k g h2 T oe oT' B U F2 N2 x2 ap) (fun _ _ q => q) hE
end
end Mine
end
theorem Mine.walk_off_PE : True := by
  w_top off
  k_with_none
  trivial
section
namespace Mine
/-- how far two growing lists have been told apart -/
structure St (xs ys : List (List Nat)) (i j : Nat) (A B : List (List Nat)) : Prop where
  a : A = offC (xs.take i) ys
  b : B = offC (ys.take j) xs
  lo : ∀ x ∈ xs.take i, ∀ y ∈ ys.drop j, x < y
  hi : ∀ y ∈ ys.take j, ∀ x ∈ xs.drop i, y < x
theorem St.symm {xs ys : List (List Nat)} {i j : Nat} {A B : List (List Nat)} (h : St xs ys i j A B) : St ys xs j i B A := ⟨h.b, h.a, h.hi, h.lo⟩
theorem St.zero (xs ys : List (List Nat)) : St xs ys 0 0 [] [] := ⟨rfl, rfl, fun x hx => by simp at hx, fun x hx => by simp at hx⟩
theorem take_more {xs : List (List Nat)} {i : Nat} {e : List Nat} (h : xs[i]? = some e) : xs.take (i + 1) = xs.take i ++ [e] := by
  rw [List.take_add_one, h]; rfl
theorem drop_more {xs : List (List Nat)} {i : Nat} {e : List Nat} (h : xs[i]? = some e) : xs.drop i = e :: xs.drop (i + 1) := by
  obtain ⟨hi, rfl⟩ := List.getElem?_eq_some_iff.mp h
  exact List.drop_eq_getElem_cons hi
theorem pw_drop {xs : List (List Nat)} {i : Nat} {e : List Nat} (hp : xs.Pairwise (· < ·)) (h : xs[i]? = some e) : ∀ x ∈ xs.drop (i + 1), e < x := by
  have := hp.sublist (List.drop_sublist i xs)
  rw [drop_more h] at this
  exact (List.pairwise_cons.mp this).1
theorem next_ne {xs : List (List Nat)} {i : Nat} {e e' : List Nat} (hp : xs.Pairwise (· < ·)) (h : xs[i]? = some e) (h' : xs[i + 1]? = some e') : e' ≠ e := fun q => by
  have h1 := pw_drop hp h e' (by rw [drop_more h']; exact .head _)
  rw [q] at h1
  exact List.lt_irrefl _ h1
theorem offC_app (A B C : List (List Nat)) : offC (A ++ B) C = offC A C ++ offC B C := by unfold offC; exact List.filter_append ..
theorem St.less {xs ys : List (List Nat)} {i j : Nat} {A B : List (List Nat)} {e f : List Nat} (h : St xs ys i j A B) (hp : xs.Pairwise (· < ·)) (hq : ys.Pairwise (· < ·)) (he : xs[i]? = some e) (hf : ys[j]? = some f) (hl : e < f) : St xs ys (i + 1) j (A ++ [e]) B := by
  have hd := drop_more he
  have hdy := drop_more hf
  have hef : ∀ y ∈ ys.drop j, e < y := fun y hy => by
    rw [hdy] at hy
    rcases List.mem_cons.mp hy with rfl | hy
    · exact hl
    · exact List.lt_trans hl (pw_drop hq hf y hy)
  have hn : e ∉ ys := fun hm => by
    rw [← List.take_append_drop j ys] at hm
    rcases List.mem_append.mp hm with hm | hm
    · exact List.lt_irrefl _ (h.hi e hm e (by rw [hd]; exact .head _))
    · exact List.lt_irrefl _ (hef e hm)
  refine ⟨?_, h.b, fun x hx y hy => ?_, fun y hy x hx => h.hi y hy x (by rw [hd]; exact .tail _ hx)⟩
  · rw [take_more he, offC_app, ← h.a]
    congr 1
    unfold offC
    simp [hn]
  · rw [take_more he] at hx
    rcases List.mem_append.mp hx with hx | hx
    · exact h.lo x hx y hy
    · rw [List.mem_singleton] at hx; subst hx; exact hef y hy
theorem St.same {xs ys : List (List Nat)} {i j : Nat} {A B : List (List Nat)} {e : List Nat} (h : St xs ys i j A B) (hp : xs.Pairwise (· < ·)) (hq : ys.Pairwise (· < ·)) (he : xs[i]? = some e) (hf : ys[j]? = some e) : St xs ys (i + 1) (j + 1) A B := by
  have hdx := drop_more he
  have hdy := drop_more hf
  have hex : e ∈ xs := List.mem_of_getElem? he
  have hey : e ∈ ys := List.mem_of_getElem? hf
  refine ⟨?_, ?_, fun x hx y hy => ?_, fun y hy x hx => ?_⟩
  · rw [take_more he, offC_app, ← h.a]; unfold offC; simp [hey]
  · rw [take_more hf, offC_app, ← h.b]; unfold offC; simp [hex]
  · rw [take_more he] at hx
    rcases List.mem_append.mp hx with hx | hx
    · exact h.lo x hx y (by rw [hdy]; exact .tail _ hy)
    · rw [List.mem_singleton] at hx; subst hx; exact pw_drop hq hf y hy
  · rw [take_more hf] at hy
    rcases List.mem_append.mp hy with hy | hy
    · exact h.hi y hy x (by rw [hdx]; exact .tail _ hx)
    · rw [List.mem_singleton] at hy; subst hy; exact pw_drop hp he x hx
theorem St.done {xs ys : List (List Nat)} {i j : Nat} {A B : List (List Nat)} (h : St xs ys i j A B) (he : xs.length ≤ i ∨ ys.length ≤ j) : A ++ xs.drop i = offC xs ys := by
  conv => rhs; rw [← List.take_append_drop i xs]
  rw [offC_app, ← h.a]
  congr 1
  rcases he with he | he
  · rw [List.drop_eq_nil_of_le he]; rfl
  · unfold offC
    symm
    rw [List.filter_eq_self]
    intro x hx
    have : x ∉ ys := fun hm => by
      rw [← List.take_of_length_le he] at hm
      exact List.lt_irrefl _ (h.hi x hm x hx)
    simp [this]
end Mine
end
theorem Mine.walk_off_PD0 : True := by
  w_top off
  k_with_none
  trivial
section
open PySem PySem.W PyProof.Rows PySem.Calls PySem.Spec
set_option Elab.async false
set_option maxRecDepth 100000
set_option maxHeartbeats 8000000
namespace Mine

noncomputable def RPair (xs ys : List (List Nat)) (v : Value) (own : List (Addr × Obj)) : Prop :=
  ∃ D a b va vb n1 n2, v = .ref D ∧ own = [(D, { cls := .type "tuple", data := .seq #[.ref a, .ref b] }), (b, PySem.W.listOf (List.toArray vb) n2), (a, PySem.W.listOf (List.toArray va) n1)] ∧ TL va xs ∧ TL vb ys
structure DLook (l1 l2 a b : Addr) (i j : Nat) (m : Str → Option Value) : Prop where
  ex : m (Str.ofString "expected") = some (.ref l1)
  ac : m (Str.ofString "actual") = some (.ref l2)
  mi : m (Str.ofString "missing") = some (.ref a)
  un : m (Str.ofString "unexpected") = some (.ref b)
  i : ∃ t, m (Str.ofString "i") = some (.int (i : Int) t)
  j : ∃ t, m (Str.ofString "j") = some (.int (j : Int) t)
/-- between two turns of the outer loop -/
noncomputable def DI (A₀ : Around) (base : Heap) (outer : List Env) (g₀ : Heap) (L l1 l2 a b : Addr) (xs ys : List (List Nat)) (s : Shared) (n : Nat) (s' : Shared) : Prop :=
  ∃ g h tk m i j A B va vb n1 n2, s' = { s with heap := h, toks := tk } ∧ Below A₀ base outer g ∧ UpF (frsO outer) g₀ g ∧ Fr g L h m ∧ News g L h [(b, PySem.W.listOf (List.toArray vb) n2), (a, PySem.W.listOf (List.toArray va) n1)] ∧
    DLook l1 l2 a b i j m ∧ TL va A ∧ TL vb B ∧ St xs ys i j A B ∧ i ≤ xs.length ∧ j ≤ ys.length ∧ (xs.length - i) + (ys.length - j) = n
/-- where an IndexError is raised, or passes -/
noncomputable def DE (A₀ : Around) (base : Heap) (outer : List Env) (g₀ : Heap) (L l1 l2 a b : Addr) (xs ys : List (List Nat)) (s : Shared) (e : Value) (s' : Shared) : Prop :=
  ∃ x h tk m i j A B va vb n1 n2 news c, e = .ref x ∧ s' = { s with heap := h, toks := tk } ∧ OnWay A₀ base g₀ outer L x m news c h ∧ (b, PySem.W.listOf (List.toArray vb) n2) ∈ news ∧ (a, PySem.W.listOf (List.toArray va) n1) ∈ news ∧
    DLook l1 l2 a b i j m ∧ TL va A ∧ TL vb B ∧ St xs ys i j A B ∧ i ≤ xs.length ∧ j ≤ ys.length ∧ (xs.length ≤ i ∨ ys.length ≤ j)
theorem DI.elim {A₀ : Around} {base : Heap} {outer : List Env} {g₀ : Heap} {L l1 l2 a b : Addr} {xs ys : List (List Nat)} {s : Shared} {n : Nat} {s' : Shared} {G : Shared → Prop} (hI : DI A₀ base outer g₀ L l1 l2 a b xs ys s n s')
    (h : ∀ g h2 tk m i j A B va vb n1 n2, Below A₀ base outer g → UpF (frsO outer) g₀ g → Fr g L h2 m → News g L h2 [(b, PySem.W.listOf (List.toArray vb) n2), (a, PySem.W.listOf (List.toArray va) n1)] →
      DLook l1 l2 a b i j m → TL va A → TL vb B → St xs ys i j A B → i ≤ xs.length → j ≤ ys.length → (xs.length - i) + (ys.length - j) = n → G { s with heap := h2, toks := tk }) : G s' := by
  obtain ⟨g, h2, tk, m, i, j, A, B, va, vb, n1, n2, rfl, hB, hU, F, N, hl, hva, hvb, hS, hi, hj, hn⟩ := hI
  exact h _ _ _ _ _ _ _ _ _ _ _ _ hB hU F N hl hva hvb hS hi hj hn
theorem DE.elim {A₀ : Around} {base : Heap} {outer : List Env} {g₀ : Heap} {L l1 l2 a b : Addr} {xs ys : List (List Nat)} {s : Shared} {e : Value} {s' : Shared} {G : Value → Shared → Prop} (hI : DE A₀ base outer g₀ L l1 l2 a b xs ys s e s')
    (h : ∀ x h2 tk m i j A B va vb n1 n2 news c, OnWay A₀ base g₀ outer L x m news c h2 → (b, PySem.W.listOf (List.toArray vb) n2) ∈ news → (a, PySem.W.listOf (List.toArray va) n1) ∈ news →
      DLook l1 l2 a b i j m → TL va A → TL vb B → St xs ys i j A B → i ≤ xs.length → j ≤ ys.length → (xs.length ≤ i ∨ ys.length ≤ j) → G (.ref x) { s with heap := h2, toks := tk }) : G e s' := by
  obtain ⟨x, h2, tk, m, i, j, A, B, va, vb, n1, n2, news, c, rfl, rfl, W, hb, ha, hl, hva, hvb, hS, hi, hj, ho⟩ := hI
  exact h _ _ _ _ _ _ _ _ _ _ _ _ _ _ W hb ha hl hva hvb hS hi hj ho
/-- behind the loop -/
noncomputable def DF (A₀ : Around) (base : Heap) (outer : List Env) (g₀ : Heap) (L a b : Addr) (xs ys : List (List Nat)) (s s' : Shared) : Prop :=
  ∃ g h tk m va vb n1 n2, s' = { s with heap := h, toks := tk } ∧ Below A₀ base outer g ∧ UpF (frsO outer) g₀ g ∧ Fr g L h m ∧ News g L h [(b, PySem.W.listOf (List.toArray vb) n2), (a, PySem.W.listOf (List.toArray va) n1)] ∧
    m (Str.ofString "missing") = some (.ref a) ∧ m (Str.ofString "unexpected") = some (.ref b) ∧ TL va (offC xs ys) ∧ TL vb (offC ys xs)
theorem TL.dropT {vs : List Value} {xs : List (List Nat)} (h : TL vs xs) (k : Nat) : TL (vs.drop k) (xs.drop k) := by
  rw [TL, List.map_drop]
  exact StrsAre.drop' h k
theorem tri (a b : List Nat) : a < b ∨ a = b ∨ b < a := by
  by_cases h : a < b
  · exact .inl h
  · by_cases h2 : b < a
    · exact .inr (.inr h2)
    · exact .inr (.inl (List.le_antisymm (List.not_lt.mp h2) (List.not_lt.mp h)))
theorem no_lt {a b : List Nat} (h : a < b) : ¬ b < a := fun q => List.lt_irrefl a (List.lt_trans h q)
theorem toNat1 (n : Nat) : ((n : Int) + 1).toNat = n + 1 := by omega
section
variable {prog : Program} {w : World} {A : Around} {E : Value → Shared → Prop} {s : Shared} {h₀ : Heap} {L l a b D : Addr} {m : Str → Option Value} {news : List (Addr × Obj)} {c : Value}
theorem with_key {α : Type} {t : Sem α} {Q : α → Shared → Prop} {s : Shared} (R : Value → Shared → Prop) (hk : ∀ e s1, R e s1 → E e s1) (h : (∀ e s1, R e s1 → E e s1) → wpAny (model prog w) A t Q E s) : wpAny (model prog w) A t Q E s := h hk
theorem eqT_ne {a b : List Nat} {t u : Tok} {Q : Value → Shared → Prop} (hd : a ≠ b) (h : Q (.bool false) s) : wpAny (model prog w) A (compareOp .Eq (.str (T a) t) (.str (T b) u)) Q E s := by
  have := SeqAt.RcAt.str_str (A := A) (s := s) (T a) t (T b) u prog w E Q
  refine this ?_
  rw [T_beq, decide_eq_false hd]
  exact h
theorem dwhile {test : Expr} {body : List Stmt} {pos : Pos} {env : Env} {Q : Flow → Shared → Prop} (hE : PassesOwn (model prog w) A env E) (h : wpAny (model prog w) A (isTrue test env (eval test env)) (fun b s₂ => b = false ∧ Q .next s₂) E s) :
    wpAny (model prog w) A (exec (.While test body [] pos) env) Q E s := by
  refine wpAny_While (codeAny_whileLoop (fun _ s' => s' = s) (fun n s' hI => ?_) 0 rfl)
  subst hI
  refine wpAny_mono h (fun b s₂ q => ?_) hE
  obtain ⟨rfl, q⟩ := q
  exact wpAny_execs_nil q
theorem item_orT {value slice : Expr} {vs : List Value} {xs : List (List Nat)} {k : Int} {t : Tok} {Q : Value → Shared → Prop} (hh : Handles A s.heap c) (hl : s.heap.IsList l (List.toArray vs)) (hT : TL vs xs) (h0 : 0 ≤ k) (hk : k ≤ 1000) (hz : xs.length ≤ 300)
    (hin : ∀ e t, xs[k.toNat]? = some e → Q (.str (T e) t) s) (hout : xs.length ≤ k.toNat → ∀ h' tk e, NewE s.heap h' e c → E (.ref e) { s with heap := h', toks := tk })
    (hs : subscripted slice false (.ref l) (.int k t) = operate [.ref l, .int k t] (getItem (.ref l) (.int k t)) := by with_unfolding_all rfl) (hg : ∀ r, letTemporaryGo value (.ref l) r = pure () := by intro _; with_unfolding_all rfl) :
    wpAny (model prog w) A (subscriptTail value slice (.ref l) (.int k t)) Q E s := by
  have hz2 : (List.toArray vs).size = xs.length := by rw [List.size_toArray]; exact hT.len
  refine item_or hh hl h0 (by omega) (fun x hx => ?_) (fun h1 _ => hout (by rw [← hz2]; exact h1)) (by omega) hs hg
  obtain ⟨e, t, rfl, he⟩ := hT.item (i := k.toNat) (by simpa using hx)
  exact hin e t he
theorem app_L {x : Value} {vs : List Value} {n : Nat} {news' : List (Addr × Obj)} {Q : Value → Shared → Prop} (F : Fr h₀ L s.heap m) (N : News h₀ L s.heap news) (U : Upd D (PySem.W.listOf (List.toArray vs) n) (PySem.W.listOf (List.toArray (vs ++ [x])) (n + 1)) news news') (hz : vs.length ≤ 1000)
    (h : ∀ h', Fr h₀ L h' m → News h₀ L h' news' → Q .none { s with heap := h' }) : wpAny (model prog w) A (call (.builtin "list.append") [.ref D, x]) Q E s := by
  obtain ⟨pre, post, rfl, rfl, a, c⟩ := U.split
  have z := N (D, PySem.W.listOf (List.toArray vs) n) (List.mem_append.mpr (.inr (.head _)))
  refine call_meets PySem.F.slot_list_append ⟨_, z.1, rfl⟩ PySem.F.entry_list_append (PySem.F.args_list_append_2 _ _) (PySem.AutoListH.list_append_list_val_0 D (List.toArray vs) n x (by rw [List.size_toArray, sizeLine_eq]; omega)) ⟨z.1, h _ (F.change (Heap.SameBut.update ..) z.2.1 z.2.2) (kl_turn (its' := List.toArray (vs ++ [x])) (·.push x) N a c ?_ (by simp))⟩
  simp
theorem ext_L {vs ws : List Value} {n n2 : Nat} {news' : Nat → List (Addr × Obj)} {Q : Value → Shared → Prop} (F : Fr h₀ L s.heap m) (N : News h₀ L s.heap news) (hb : (b, PySem.W.listOf (List.toArray ws) n2) ∈ news)
    (U : ∀ k, Upd D (PySem.W.listOf (List.toArray vs) n) (PySem.W.listOf (List.toArray (vs ++ ws)) k) news (news' k)) (hz : vs.length ≤ 1000) (hz2 : ws.length ≤ 1000)
    (h : ∀ h' k, Fr h₀ L h' m → News h₀ L h' (news' k) → Q .none { s with heap := h' }) : wpAny (model prog w) A (call (.builtin "list.extend") [.ref D, .ref b]) Q E s := by
  have hd : ¬(!(List.toArray vs).isEmpty && Builtin.List.listTooLong ((List.toArray vs).size + (List.toArray ws).size)) = true := by
    unfold Builtin.List.listTooLong
    rw [sizeLine_eq, List.size_toArray, List.size_toArray]
    simp only [Bool.and_eq_true, decide_eq_true_eq, not_and]
    intro _
    omega
  have hs1 : (List.toArray vs).toList.length ≤ sizeLine := by rw [sizeLine_eq]; simpa using (by omega : vs.length ≤ _)
  have hs2 : (List.toArray vs).size + (List.toArray ws).size ≤ sizeLine + 1 := by rw [sizeLine_eq, List.size_toArray, List.size_toArray]; omega
  by_cases h0 : ws = []
  · subst h0
    refine kxn_extend F N hb rfl (its := List.toArray vs) (n := n) (news' := news' n) ?_ hd hs1 hs2 fun h' F' N' => h h' n F' N'
    have := U n
    rw [List.append_nil] at this
    exact this
  · exact kl_extend F N hb (l := vs ++ ws) rfl (fun q => h0 (List.length_eq_zero_iff.mp (by simpa using q))) (U (n + 1)) hd hs1 hs2 fun h' F' N' => h h' _ F' N'
theorem from_L {value slice : Expr} {vs : List Value} {k : Int} {t : Tok} {Q : Value → Shared → Prop} (F : Fr h₀ L s.heap m) (N : News h₀ L s.heap news) (hl : s.heap.IsList l (List.toArray vs)) (h0 : 0 ≤ k) (hz : vs.length ≤ 1000)
    (h : ∀ D h', Fr h₀ L h' m → News h₀ L h' ((D, PySem.W.listOf (List.toArray (vs.drop k.toNat)) 0) :: news) → (∀ p ∈ news, p.1 < D) → Q (.ref D) { s with heap := h' })
    (hs : subscripted slice false (.ref l) (.ref s.heap.objs.size) = operate [.ref s.heap.objs.size, .ref l] (getItem (.ref l) (.ref s.heap.objs.size)) := by with_unfolding_all rfl) (ht : ∀ r, letTemporaryGo value (.ref l) r = pure () := by intro _; with_unfolding_all rfl) :
    wpAny (model prog w) A (subscriptTail value slice (.ref l) (.ref s.heap.objs.size)) Q E { s with heap := s.heap.push { cls := .type "slice", data := .fields #[.int k t, .none, .none] } } := by
  refine kmk_slice F N hl (.int k t) .none (fun D h' F' N' lt => h D h' F' ?_ lt) hs ht (by rw [List.size_toArray, sizeLine_eq]; omega)
  have e : k = (k.toNat : Int) := by omega
  rw [e, slicePick_from'] at N'
  exact N'
end
end Mine
end
theorem Mine.walk_off_PD1 : True := by
  w_top off
  k_with_none
  trivial
section
open PySem PySem.W PyProof.Rows PySem.Calls PySem.Spec
set_option Elab.async false
set_option maxRecDepth 100000
set_option maxHeartbeats 8000000
namespace Mine
theorem newsS {g h : Heap} {L : Addr} {l all : List (Addr × Obj)} (N : News g L h all) (hl : ∀ q ∈ l, q ∈ all) : News g L h l := fun q hq => N q (hl q hq)
theorem two_mem {α : Type} {x y : α} {l : List α} (h1 : x ∈ l) (h2 : y ∈ l) : ∀ q ∈ [x, y], q ∈ l := fun q hq => by
  rcases List.mem_cons.mp hq with rfl | hq
  · exact h1
  · rw [List.mem_singleton] at hq; subst hq; exact h2
section
variable {prog : Program} {w : World} {A A₀ : Around} {E : Value → Shared → Prop} {s s₀ : Shared} {base g₀ g : Heap} {outer : List Env} {L l1 l2 a b : Addr} {m : Str → Option Value} {xs ys : List (List Nat)} {env : Env}
theorem d_cut {test : Expr} {body rest : List Stmt} {pos : Pos} {Q : Flow → Shared → Prop} (B : Below A₀ base outer g) (U : UpF (frsO outer) g g) (F : Fr g L s.heap m) (N : News g L s.heap [(b, PySem.W.listOf (List.toArray []) 0), (a, PySem.W.listOf (List.toArray []) 0)]) (hl : DLook l1 l2 a b 0 0 m)
    (turn : ∀ n s', DI A₀ base outer g L l1 l2 a b xs ys s n s' → wpAny (model prog w) A (isTrue test env (eval test env)) (fun b' s₂ => if b' = true then wpAny (model prog w) A (execs body env) (fun f s₃ => match f with
        | .next | .cont => ∃ k, k < n ∧ DI A₀ base outer g L l1 l2 a b xs ys s k s₃ | .brk => DF A₀ base outer g L a b xs ys s s₃ | .ret _ => False) (fun _ _ => False) s₂ else False) (fun _ _ => False) s')
    (fin : ∀ s', DF A₀ base outer g L a b xs ys s s' → wpAny (model prog w) A (execs rest env) Q E s') :
    wpAny (model prog w) A (execs (.While test body [] pos :: rest) env) Q E s := by
  refine cut_execs1 (DF A₀ base outer g L a b xs ys s) (while_inv (DI A₀ base outer g L l1 l2 a b xs ys s) (xs.length + ys.length) ⟨g, s.heap, s.toks, m, 0, 0, [], [], [], [], 0, 0, rfl, B, U, F, N, hl, TL.nil, TL.nil, St.zero xs ys, Nat.zero_le _, Nat.zero_le _, rfl⟩ fun n s' hI => ?_) fin
  refine wpAny_mono (turn n s' hI) (fun b' s₂ q => ?_) fun _ _ q => q
  cases b' with
  | false => simp at q
  | true =>
    simp only [if_true] at q ⊢
    refine wpAny_mono q (fun f s₃ r => ?_) fun _ _ q => q
    cases f with
    | next => exact r
    | cont => exact r
    | brk => exact ⟨rfl, r⟩
    | ret v => exact r.elim
theorem OnWay.sub {e : Addr} {news l : List (Addr × Obj)} {c : Value} {h' : Heap} (W : OnWay A₀ base g₀ outer L e m news c h') (hl : ∀ q ∈ l, q ∈ news) : OnWay A₀ base g₀ outer L e m l c h' := by
  obtain ⟨g, B, U, ⟨h, F, N, hx⟩ | ⟨oe, T, oT, F, N, x, ap⟩⟩ := W
  · exact ⟨g, B, U, .inl ⟨h, F, newsS N hl, hx⟩⟩
  · refine ⟨g, B, U, .inr ⟨oe, T, oT, F, newsS N fun q hq => ?_, x, ⟨ap.ne, fun q hq => ap.far q (hl q hq)⟩⟩⟩
    rcases List.mem_cons.mp hq with rfl | hq
    · exact .head _
    · rcases List.mem_cons.mp hq with rfl | hq
      · exact .tail _ (.head _)
      · exact .tail _ (.tail _ (hl q hq))
theorem DE.new {e : Addr} {news : List (Addr × Obj)} {c : Value} {h h' : Heap} {i j tk : Nat} {C D : List (List Nat)} {va vb : List Value} {n1 n2 : Nat} {s : Shared} (B : Below A₀ base outer g) (U : UpF (frsO outer) g₀ g) (F : Fr g L h m) (N : News g L h news) (hx : NewE h h' e c)
    (hS : St xs ys i j C D) (hor : xs.length ≤ i ∨ ys.length ≤ j) (hi : i ≤ xs.length) (hj : j ≤ ys.length) (hb : (b, PySem.W.listOf (List.toArray vb) n2) ∈ news) (ha : (a, PySem.W.listOf (List.toArray va) n1) ∈ news) (hva : TL va C) (hvb : TL vb D) (hl : DLook l1 l2 a b i j m) :
    DE A₀ base outer g₀ L l1 l2 a b xs ys s (.ref e) { s with heap := h', toks := tk } :=
  ⟨e, h', tk, m, i, j, C, D, va, vb, n1, n2, news, c, rfl, rfl, ⟨g, B, U, .inl ⟨h, F, N, hx⟩⟩, hb, ha, hl, hva, hvb, hS, hi, hj, hor⟩
theorem DE.on {e T : Addr} {oe oT : Obj} {news : List (Addr × Obj)} {c : Value} {h : Heap} {i j tk : Nat} {C D : List (List Nat)} {va vb : List Value} {n1 n2 : Nat} {s : Shared} (B : Below A₀ base outer g) (U : UpF (frsO outer) g₀ g) (F : Fr g L h m) (N : News g L h ((e, oe) :: (T, oT) :: news)) (hx : ExcF oe T oT c (rawInt L)) (ap : Apart e T news)
    (hS : St xs ys i j C D) (hor : xs.length ≤ i ∨ ys.length ≤ j) (hi : i ≤ xs.length) (hj : j ≤ ys.length) (hb : (b, PySem.W.listOf (List.toArray vb) n2) ∈ news) (ha : (a, PySem.W.listOf (List.toArray va) n1) ∈ news) (hva : TL va C) (hvb : TL vb D) (hl : DLook l1 l2 a b i j m) :
    DE A₀ base outer g₀ L l1 l2 a b xs ys s (.ref e) { s with heap := h, toks := tk } :=
  ⟨e, h, tk, m, i, j, C, D, va, vb, n1, n2, news, c, rfl, rfl, ⟨g, B, U, .inr ⟨oe, T, oT, F, N, hx, ap⟩⟩, hb, ha, hl, hva, hvb, hS, hi, hj, hor⟩
theorem DI.mk' {h : Heap} {i j tk : Nat} {C D : List (List Nat)} {va vb : List Value} {n1 n2 : Nat} {s : Shared} (B : Below A₀ base outer g) (U : UpF (frsO outer) g₀ g) (F : Fr g L h m) (N : News g L h [(b, PySem.W.listOf (List.toArray vb) n2), (a, PySem.W.listOf (List.toArray va) n1)])
    (hS : St xs ys i j C D) (hi : i ≤ xs.length) (hj : j ≤ ys.length) (hva : TL va C) (hvb : TL vb D) (hl : DLook l1 l2 a b i j m) :
    DI A₀ base outer g₀ L l1 l2 a b xs ys s ((xs.length - i) + (ys.length - j)) { s with heap := h, toks := tk } :=
  ⟨g, h, tk, m, i, j, C, D, va, vb, n1, n2, rfl, B, U, F, N, hl, hva, hvb, hS, hi, hj, rfl⟩
theorem d_key {α : Type} {t : Sem α} {Q : α → Shared → Prop} (_B : Below A₀ base outer g) (_U : UpF (frsO outer) g₀ g) {h : Heap} (_F : Fr g L h m) (_a : m (Str.ofString "missing") = some (.ref a)) (_b : m (Str.ofString "unexpected") = some (.ref b)) (l1 l2 : Addr) (xs ys : List (List Nat)) (s₀ : Shared) (hk : ∀ x h2 tk m i j A B va vb n1 n2 news c, OnWay A₀ base g₀ outer L x m news c h2 → (b, PySem.W.listOf (List.toArray vb) n2) ∈ news → (a, PySem.W.listOf (List.toArray va) n1) ∈ news → DLook l1 l2 a b i j m → TL va A → TL vb B → St xs ys i j A B → i ≤ xs.length → j ≤ ys.length → (xs.length ≤ i ∨ ys.length ≤ j) → E (.ref x) { s₀ with heap := h2, toks := tk })
    (h : (∀ e s1, DE A₀ base outer g₀ L l1 l2 a b xs ys s₀ e s1 → E e s1) → wpAny (model prog w) A t Q E s) : wpAny (model prog w) A t Q E s := h fun e s1 hI => DE.elim (G := E) hI hk
end
theorem tri' {xs ys : List (List Nat)} {i j : Nat} {a b : List Nat} (_h : xs[i]? = some a) (_h2 : ys[j]? = some b) : a < b ∨ a = b ∨ b < a := tri a b
theorem eq_no {ys : List (List Nat)} {j : Nat} {a b : List Nat} (h : a = b) (hf : ys[j]? = some b) : ¬ a < b ∧ ¬ b < a ∧ ys[j]? = some a := by
  subst h
  exact ⟨List.lt_irrefl _, List.lt_irrefl _, hf⟩
theorem handI {g h : Heap} {L x : Addr} {news : List (Addr × Obj)} {oe : Obj} {A : Around} (N : News g L h ((x, oe) :: news)) (h1 : A.handled = some (.ref x)) (hd : ∃ vs, oe.data = .fields vs ∧ vs[2]? = some .none) : Handles A h (.ref x) := by
  obtain ⟨vs, h2, h3⟩ := hd
  exact .inr ⟨x, oe, vs, h1, rfl, (N _ (.head _)).1, h2, h3⟩
theorem rows_PD_1 : True := by
  k_with_none
  k_with "ne" => (refine neN ?_; (try dsimp only); first | exact Nat.ne_of_lt (by assumption) | exact Nat.ne_of_gt (by assumption) | exact Mine.la0 (by assumption) | exact Mine.ga0 (by assumption) | exact Mine.la1 (by assumption) | exact Mine.ga1 (by assumption) | exact Mine.le1 (by assumption) | exact Mine.ge1 (by assumption) | exact Mine.la2 (by assumption) | exact Mine.ga2 (by assumption) | exact Mine.le2 (by assumption) | exact Mine.ge2 (by assumption) | exact Mine.la3 (by assumption) | exact Mine.ga3 (by assumption) | exact Mine.le3 (by assumption) | exact Mine.ge3 (by assumption) | exact Mine.la4 (by assumption) | exact Mine.ga4 (by assumption) | exact Mine.le4 (by assumption) | exact Mine.ge4 (by assumption) | exact Mine.la5 (by assumption) | exact Mine.ga5 (by assumption) | exact Mine.le5 (by assumption) | exact Mine.ge5 (by assumption) | exact Mine.la6 (by assumption) | exact Mine.ga6 (by assumption) | exact Mine.le6 (by assumption) | exact Mine.ge6 (by assumption) | exact Mine.la7 (by assumption) | exact Mine.ga7 (by assumption) | exact Mine.le7 (by assumption) | exact Mine.ge7 (by assumption) | exact Mine.la8 (by assumption) | exact Mine.ga8 (by assumption) | exact Mine.le8 (by assumption) | exact Mine.ge8 (by assumption))
  k_with "room" => (first | exact Mine.room0 (by assumption) | exact Mine.room1 (by assumption) (by decide) | exact Mine.room2 (by assumption) (by decide))
  k_with "units" => (first | exact Mine.room0 (by assumption) | exact Mine.room1 (by assumption) (by decide) | exact Mine.room2 (by assumption) (by decide))
  k_with "size" => (first | exact Nat.zero_le _ | with_reducible exact Mine.szT (by assumption) | with_reducible exact Mine.szT1 (by assumption) | with_reducible exact Mine.szK (by assumption) | with_reducible exact Mine.szK1 (by assumption))
  k_with "Kont" => ((try dsimp only); first | (refine' Mine.kont0_next ?L_k ?_; (case L_k => assumption)) | (refine' Mine.kont0_ret ?L_k ?_; (case L_k => assumption)) | (refine' Mine.kont0_brk ?L_k ?_; (case L_k => assumption)) | (refine' Mine.kont0_cont ?L_k ?_; (case L_k => assumption)))
  k_with "execs cons" => (k_here; first | refine Mine.execs_one ?_ | (refine Mine.execs_kont0 ?_; intro K9 hK9))
  k_with "LeaveU" => (k_dflt (refine' Mine.leaveU_ ?U ?k1 ?k2 ?_; (case k1 => k_asm); (case k2 => k_asm); (case U => assumption); k_whole); intro kU kN; (try dsimp only))
  k_with "execs cons" => ((with_reducible show wpAny _ _ (execs (Stmt.While _ _ _ _ :: _ :: _) _) _ _ _); refine Mine.hold ?_)
  k_with "exec Try" => ((with_reducible show wpAny _ _ (exec (Stmt.Try _ (_ :: _) _ [] _) _) _ _ _); refine Mine.hold ?_)
  k_with "exec While Compare" => (k_here; k_dflt (refine' Mine.dwhile ?hE ?_; (case hE => first | exact PySem.PassesOwn.looking | exact PySem.PassesOwnAt.lookingOf (PySem.SameStack.refl _) | exact PySem.PassesOwnAt.lookingOf (PySem.SameStack.mark _ _))); (try dsimp only))
  k_with "subscriptTail Name Name ref int" => (k_here; k_dflt (refine' Mine.item_orT ?hh ?hl ?hT ?h0 ?hk ?hz (fun e9 t9 he9 => ?_) (fun hlt9 h9 tk9 x9 hx9 => Mine.hold ?_) ?hs ?hg; (case hh => first | exact .inl ⟨rfl, rfl⟩ | assumption | exact Mine.handI (by k_asm) rfl (by assumption)); (case hl => exact Mine.Fr.isList (by k_asm) (Mine.UpF.isList (by assumption) (by assumption))); (case hT => assumption); (case h0 => first | exact Mine.nn0 | exact Mine.nn1 | exact Mine.nn2 | exact Mine.nn3 | omega); (case hk => omega); (case hz => assumption); (case hs => with_unfolding_all rfl); (case hg => (intro _; with_unfolding_all rfl)); (all_goals ((try simp only [Int.toNat_natCast, Mine.toNat1] at he9); (try simp only [Int.toNat_natCast, Mine.toNat1] at hlt9); (try dsimp only)))))
  k_with "compareOp Lt str str" => (k_here; refine Mine.hold ?_)
  k_with "compareOp Lt str str" => (k_here; k_dflt ((first | (refine' Mine.ltT_yes ?hx ?_; (case hx => assumption); k_whole) | (refine' Mine.ltT_no ?hx ?_; (case hx => assumption); k_whole)); (try dsimp only)))
  k_with "compareOp Gt str str" => (k_here; k_dflt ((first | (refine' Mine.gtT_yes ?hx ?_; (case hx => assumption); k_whole) | (refine' Mine.gtT_no ?hx ?_; (case hx => assumption); k_whole)); (try dsimp only)))
  k_with "compareOp Eq str str" => (k_here; k_dflt ((refine' Mine.eqT_ne ?hx ?_; (case hx => (refine' Mine.next_ne ?p9 ?h9 ?k9; (case k9 => assumption); (case h9 => assumption); (case p9 => assumption))); k_whole); (try dsimp only)))
  k_with "And" => ((with_reducible show false = false ∧ _); refine ⟨rfl, ?_⟩; (try dsimp only))
  k_with "eval Name" => (k_here; k_dflt (refine' nameX_L ?nF ?nv ?_ ?na ?nb ?nc; (case nF => k_asm); (case nv => first | exact rfl | assumption); (case na => rfl); (case nb => rfl); (case nc => decide); k_whole))
  k_with "loadName" => (k_here; k_dflt (refine' Mine.loadX_L ?nF ?nv ?_ ?na ?nb; (case nF => k_asm); (case nv => first | exact rfl | assumption); (case na => rfl); (case nb => rfl); k_whole))
  k_with "call builtin:list.append" => (k_here; k_dflt (refine' Mine.app_L ?F ?N ?U ?hz ?_; (case F => k_asm); (case N => k_asm); (case U => k_upd); (case hz => assumption); k_whole; intro h9 F9 N9; (try dsimp only)))
  k_with "call builtin:list.extend" => (k_here; k_dflt (refine' Mine.ext_L ?F ?N ?hb ?U ?hz ?hz2 ?_; (case F => k_asm); (case N => k_asm); (case hb => k_mem); (case U => (intro k9; k_upd)); (case hz => assumption); (case hz2 => exact Nat.le_trans (List.drop_sublist _ _).length_le (by assumption)); k_whole; intro h9 k9 F9 N9; (try dsimp only)))
  k_with "subscriptTail Name Slice ref ref" => (k_here; k_dflt (refine' Mine.from_L ?F ?N ?hl ?h0 ?hz ?_ ?hs ?ht; (case F => k_asm); (case N => k_asm); (case hl => exact Mine.Fr.isList (by k_asm) (Mine.UpF.isList (by assumption) (by assumption))); (case h0 => first | exact Mine.nn0 | exact Mine.nn1 | exact Mine.nn2 | exact Mine.nn3 | omega); (case hz => assumption); (case hs => with_unfolding_all rfl); (case ht => (intro _; with_unfolding_all rfl)); k_whole; intro D9 h9 F9 N9 lt9; (try k_lt lt9); (try dsimp only)))
  trivial
theorem c_diff (w : World) (xs ys : List (List Nat)) (l1 l2 : Addr) (vs us : List Value) (hx : TL vs xs) (hy : TL us ys) (hpx : xs.Pairwise (· < ·)) (hpy : ys.Pairwise (· < ·)) (hlx : xs.length ≤ 300) (hly : ys.length ≤ 300) :
    TellU w 118 2 40 [.ref l1, .ref l2] (fun h => h.IsList l1 (List.toArray vs) ∧ h.IsList l2 (List.toArray us)) (RPair (offC xs ys) (offC ys xs)) := by
  refine TellU.of ?_
  k_fill
  intro p loose mean mg mb dp un gd cn cs a ccd cl outer A₀ base h₀ L m s Q E X B F T Xb Tb hk hd hu ht hn hret
  refine wpAny_call ?_
  obtain ⟨hn1, hn2⟩ := hn
  have hvs : vs.length ≤ 1000 := by rw [hx.len]; omega
  have hus : us.length ≤ 1000 := by rw [hy.len]; omega
  k_dflt (refine' Mine.enterU ?k1 ?k2 ?k3 ?k5 ?kA ?kF ?kK ?k6 ?k7 ?k8 ?k9 ?kB ?_ ?c2 ?c3 ?c4 ?c5; (case kA => exact rfl); (case kF => exact rfl); (case kK => assumption); (case k1 => k_asm); (case k2 => k_asm); (case k3 => k_asm); (case k5 => k_asm); (case k6 => k_is); (case k7 => k_is); (case k8 => ktr_room); (case k9 => exact BindsTo.of_eq rfl); (case c5 => decide); (case kB => exact locs rfl); (case c2 => exact rfl); (case c3 => exact rfl); (case c4 => exact rfl); k_whole; intro L' h' F' N' B' X' T' U'; (try dsimp only); (try k_fold))
  k_steps
  unfold Hold
  (rename Fr _ _ _ _ => FX); (rename News _ _ _ _ => NX)
  refine d_cut (l1 := l1) (l2 := l2) (xs := xs) (ys := ys) B' U' FX NX ⟨rfl, rfl, rfl, rfl, ⟨_, rfl⟩, ⟨_, rfl⟩⟩ ?_ ?_
  · intro n s' hI
    refine DI.elim hI ?_
    clear hI
    intro g h2 tk2 m2 i j A B va vb n1 n2 B2 U2 F2 N2 hl hva hvb hS hi hj hnn
    obtain ⟨le, la, lm, lu, ⟨ti, li⟩, ⟨tj, lj⟩⟩ := hl
    clear FX NX
    k_steps
    unfold Hold
    refine wpAny_Try_except ?_
    refine d_key B2 U2 F2 lm lu l1 l2 xs ys s ?_ fun hkey => ?_
    · clear le la lm lu li lj F2 N2 hS hva hvb hi hj B2 U2 B' X' T' U'
      intro x h3 tk3 m3 i3 j3 A3 B3 va3 vb3 n13 n23 news3 c3 W hb3 ha3 hl3 hva3 hvb3 hS3 hi3 hj3 hor
      obtain ⟨le3, la3, lm3, lu3, ⟨ti3, li3⟩, ⟨tj3, lj3⟩⟩ := hl3
      refine catchE (s := ⟨_, _, _, _, _⟩) (W.sub (two_mem hb3 ha3)) ?_ PassesOwnAt.never
      intro g4 h4 B4 U4 F4 N4
      have X4 := Xb.keeps B4.stays
      have T4 := Tb.keeps B4.stays
      have hz1 : va3.length ≤ 1000 := by
        rw [hva3.len, hS3.a]
        exact Nat.le_trans (List.length_filter_le _ _) (by rw [List.length_take]; omega)
      have hz2 : vb3.length ≤ 1000 := by
        rw [hvb3.len, hS3.b]
        exact Nat.le_trans (List.length_filter_le _ _) (by rw [List.length_take]; omega)
      k_steps
      refine ⟨g4, _, _, m3, _, _, _, _, rfl, B4, U4, ‹_›, newsS ‹_› (two_mem (.tail _ (.tail _ (.head _))) (.tail _ (.tail _ (.tail _ (.head _))))), lm3, lu3, ?_, ?_⟩
      · have q := hva3.app (hx.dropT i3)
        rw [hS3.done hor] at q
        exact q
      · have q := hvb3.app (hy.dropT j3)
        rw [hS3.symm.done hor.symm] at q
        exact q
    · k_steps
      · rename (xs[i]? = some _) => he
        rename (ys[j]? = some _) => hf
        have hi1 : i + 1 ≤ xs.length := (List.getElem?_eq_some_iff.mp he).1
        have hj1 : j + 1 ≤ ys.length := (List.getElem?_eq_some_iff.mp hf).1
        have hza : va.length ≤ 1000 := by
          rw [hva.len, hS.a]
          exact Nat.le_trans (List.length_filter_le _ _) (by rw [List.length_take]; omega)
        have hzb : vb.length ≤ 1000 := by
          rw [hvb.len, hS.b]
          exact Nat.le_trans (List.length_filter_le _ _) (by rw [List.length_take]; omega)
        unfold Hold
        rcases tri' he hf with hlt | heq | hgt
        · have hno := no_lt hlt
          have hS2 := hS.less hpx hpy he hf hlt
          clear hS
          k_steps
          rotate_left
          · exact DI.mk' (i := i + 1) (j := j) B2 U2 (by assumption) (by assumption) hS2 hi1 hj (hva.app (TL.one _ _)) hvb (by exact ⟨le, la, lm, lu, ⟨_, rfl⟩, ⟨_, lj⟩⟩)
          · unfold Hold
            exact hkey _ _ (DE.new (i := i + 1) (j := j) B2 U2 (by assumption) (by assumption) (by assumption) hS2 (.inl (by assumption)) hi1 hj (.head _) (.tail _ (.head _)) (hva.app (TL.one _ _)) hvb (by exact ⟨le, la, lm, lu, ⟨_, rfl⟩, ⟨_, lj⟩⟩))
          · omega
        · obtain ⟨hn1', hn2', hf'⟩ := eq_no heq hf
          have hS2 := hS.same hpx hpy he hf'
          clear hS hf'
          k_steps
          rotate_left
          · exact DI.mk' (i := i + 1) (j := j + 1) B2 U2 (by assumption) (by assumption) hS2 hi1 hj1 hva hvb (by exact ⟨le, la, lm, lu, ⟨_, rfl⟩, ⟨_, rfl⟩⟩)
          · unfold Hold
            exact PassesOwn.looking _ _ (hkey _ _ (DE.new (i := i + 1) (j := j + 1) B2 U2 (by assumption) (by assumption) (by assumption) hS2 (.inr (by assumption)) hi1 hj1 (.head _) (.tail _ (.head _)) hva hvb (by exact ⟨le, la, lm, lu, ⟨_, rfl⟩, ⟨_, rfl⟩⟩)))
          · unfold Hold
            refine finallyE (s := ⟨_, _, _, _, _⟩) ⟨g, B2, U2, .inl ⟨_, by assumption, by assumption, by assumption⟩⟩ ?_ (PassesOwnAt.lookingOf (SameStack.mark _ _))
            intro g4 h4 T4 oe4 oT4 B4 U4 F4 N4 x4 ap4
            have hh4 : ∃ vs, oe4.data = .fields vs ∧ vs[2]? = some .none := by
              obtain ⟨vs4, hd4, _, h24⟩ := x4.fields
              exact ⟨vs4, hd4, h24⟩
            k_steps
            · (try dsimp only)
              refine passE (s := ⟨_, _, _, _, _⟩) (by assumption) (by assumption) x4 ap4 fun h5 oT5 F5 N5 x5 => ?_
              exact hkey _ _ (DE.on (i := i + 1) (j := j + 1) B4 U4 F5 N5 x5 ⟨ap4.ne, ap4.far⟩ hS2 (.inl (by assumption)) hi1 hj1 (.head _) (.tail _ (.head _)) hva hvb (by exact ⟨le, la, lm, lu, ⟨_, rfl⟩, ⟨_, rfl⟩⟩))
            · unfold Hold
              exact hkey _ _ (DE.new (i := i + 1) (j := j + 1) B4 U4 (by assumption) (by assumption) (by assumption) hS2 (.inr (by assumption)) hi1 hj1 (.tail _ (.tail _ (.head _))) (.tail _ (.tail _ (.tail _ (.head _)))) hva hvb (by exact ⟨le, la, lm, lu, ⟨_, rfl⟩, ⟨_, rfl⟩⟩))
          · omega
        · have hno := no_lt hgt
          have hS2 := (hS.symm.less hpy hpx hf he hgt).symm
          clear hS
          k_steps
          rotate_left
          · exact DI.mk' (i := i) (j := j + 1) B2 U2 (by assumption) (by assumption) hS2 hi hj1 hva (hvb.app (TL.one _ _)) (by exact ⟨le, la, lm, lu, ⟨_, li⟩, ⟨_, rfl⟩⟩)
          · unfold Hold
            exact hkey _ _ (DE.new (i := i) (j := j + 1) B2 U2 (by assumption) (by assumption) (by assumption) hS2 (.inr (by assumption)) hi hj1 (.head _) (.tail _ (.head _)) hva (hvb.app (TL.one _ _)) (by exact ⟨le, la, lm, lu, ⟨_, li⟩, ⟨_, rfl⟩⟩))
          · omega
      · unfold Hold
        exact hkey _ _ (DE.new B2 U2 (by assumption) (by assumption) (by assumption) hS (.inr (by assumption)) hi hj (.head _) (.tail _ (.head _)) hva hvb (by exact ⟨le, la, lm, lu, ⟨_, li⟩, ⟨_, lj⟩⟩))
      · unfold Hold
        exact hkey _ _ (DE.new B2 U2 (by assumption) (by assumption) (by assumption) hS (.inl (by assumption)) hi hj (.head _) (.tail _ (.head _)) hva hvb (by exact ⟨le, la, lm, lu, ⟨_, li⟩, ⟨_, lj⟩⟩))
  · rintro s' ⟨g, h2, tk2, m2, va, vb, n1, n2, rfl, B2, U2, F2, N2, lm, lu, hva, hvb⟩
    clear FX NX
    k_steps
    exact hret _ _ _ _ kU kN ⟨_, _, _, _, _, _, _, rfl, rfl, hva, hvb⟩

end Mine
end
theorem Mine.walk_off_PD : True := by
  w_top off
  k_with_none
  trivial
section
open PySem PySem.W PyProof.Rows PySem.Calls PySem.Spec
set_option Elab.async false
set_option maxRecDepth 100000
set_option maxHeartbeats 8000000
namespace Mine
theorem mem_len : ∀ {ys xs : List (List Nat)}, ys.Nodup → (∀ y ∈ ys, y ∈ xs) → ys.length ≤ xs.length
  | [], _, _, _ => Nat.zero_le _
  | y :: ys, xs, hn, h => by
    have hy := h y (.head _)
    have hn' := List.nodup_cons.mp hn
    have := mem_len (ys := ys) (xs := xs.erase y) hn'.2 fun z hz => (List.mem_erase_of_ne (fun e => hn'.1 (by rw [← e]; exact hz))).mpr (h z (.tail _ hz))
    rw [List.length_erase_of_mem hy] at this
    have hp : 0 < xs.length := List.length_pos_of_mem hy
    rw [List.length_cons]; omega
theorem sub_len {ys xs : List (List Nat)} (hp : ys.Pairwise (· < ·)) (h : ∀ y ∈ ys, y ∈ xs) : ys.length ≤ xs.length :=
  mem_len (List.Pairwise.imp (R := (· < ·)) (fun {a b} (q : a < b) (e : a = b) => List.lt_irrefl b (by rw [e] at q; exact q)) hp) h
theorem offC_none {xs ys : List (List Nat)} (h : ∀ y ∈ ys, y ∈ xs) : offC ys xs = [] := by
  unfold offC
  rw [List.filter_eq_nil_iff]
  intro y hy
  simp [h y hy]
theorem mem0 {α : Type} {q : α} {own l : List α} (h : q ∈ l) : q ∈ own ++ l := List.mem_append_right _ h
theorem mem2 {α : Type} {q x y : α} {own l : List α} (h : q ∈ l) : q ∈ x :: y :: (own ++ l) := .tail _ (.tail _ (mem0 h))
theorem mem3 {α : Type} {q x y z : α} {own l : List α} (h : q ∈ l) : q ∈ x :: y :: z :: (own ++ l) := .tail _ (.tail _ (.tail _ (mem0 h)))
theorem isLL {g h : Heap} {L l : Addr} {all : List (Addr × Obj)} {a : Array Value} {n : Nat} (N : News g L h all) (hm : (l, PySem.W.listOf a n) ∈ all) : h.IsList l a := ⟨_, (N _ hm).1, rfl, _, rfl⟩
theorem isTT {g h : Heap} {L l : Addr} {all : List (Addr × Obj)} {a : Array Value} (N : News g L h all) (hm : (l, ({ cls := .type "tuple", data := .seq a } : Obj)) ∈ all) : h.IsTuple l a := ⟨_, (N _ hm).1, rfl, _, rfl⟩
theorem news_drop2 {g h : Heap} {L : Addr} {x y : Addr × Obj} {l : List (Addr × Obj)} (N : News g L h (x :: y :: l)) : News g L h l := fun q hq => N q (.tail _ (.tail _ hq))
theorem end_S {h₀ : Heap} {L I C D : Addr} {m : Str → Option Value} {s₁ : Shared} {oI oC oD : Obj} {S : List (Addr × Obj) → Prop} {rest : Value → List (Addr × Obj) → Prop} {y : Value} {h' : Heap} {tk : Nat} {news : List (Addr × Obj)}
    (F : Fr h₀ L h' m) (N : News h₀ L h' ((I, oI) :: (C, oC) :: (D, oD) :: news)) (off : LCg.Off3 I C D news) (hS : S news) (r : rest y news) :
    LCg.CompEnd h₀ L m s₁ I oI C oC D oD S rest y { s₁ with heap := h', toks := tk } := LCg.CompEnd.intro F N news (fun _ h => h) off hS r
inductive EvC (C : List (List Nat)) : Prop
  | mk
noncomputable def keepC {C : List (List Nat)} (_ : EvC C) : List Nat → Bool := fun c => !C.contains c
theorem keep_yes {C : List (List Nat)} {a : List Nat} (e : EvC C) (h : C.contains a = false) : keepC e a = true := by show (!C.contains a) = true; rw [h]; rfl
theorem keep_no {C : List (List Nat)} {a : List Nat} (e : EvC C) (h : C.contains a = true) : keepC e a = false := by show (!C.contains a) = false; rw [h]; rfl
section
variable {prog : Program} {w : World} {A : Around} {E : Value → Shared → Prop} {s : Shared} {h₀ : Heap} {L : Addr} {m : Str → Option Value} {env : Env} {news : List (Addr × Obj)} {xs ys : List (List Nat)}
theorem type_list9 {x : Addr} {its : Array Value} {n : Nat} {Q : Value → Shared → Prop} (N : News h₀ L s.heap news) (hm : (x, PySem.W.listOf its n) ∈ news) (hq : Q (.type "list") s) : wpAny (model prog w) A (call (.type "type") [.ref x]) Q E s := by
  have ho := (N _ hm).1
  obtain ⟨hh, g, d, t, os⟩ := s
  exact call_type_obj ho (by rfl) hq
theorem notin_TL {l : Addr} {its : Array Value} {a : List Nat} {t : Tok} {Q : Value → Shared → Prop} (hl : s.heap.IsList l its) (hT : TL its.toList ys) (h1 : ys.contains a = false → Q (.bool true) s) (h2 : ys.contains a = true → Q (.bool false) s) :
    wpAny (model prog w) A (compareOp .NotIn (.str (T a) t) (.ref l)) Q E s := by
  refine SeqAt.notIn_listAt (isStrOf (T a)) hl (fun y hy => (eq_isStrOf (T a) t hT y (by simpa using hy)).at _ _) ?_
  have e : its.any (isStrOf (T a)) = ys.contains a := by
    rw [← Array.any_toList]
    clear hl h1 h2
    generalize its.toList = vs at hT
    induction ys generalizing vs with
    | nil => rw [hT.nil_inv]; rfl
    | cons y ys ih =>
      obtain ⟨u, vs', rfl, h⟩ := hT.cons_inv
      rw [List.any_cons, List.contains_cons, ih vs' h]
      congr 1
      show (T y == T a) = (a == y)
      rw [T_beq]
      by_cases q : a = y
      · subst q; simp
      · rw [decide_eq_false (Ne.symm q)]; symm; simpa using q
  rw [e]
  cases hc : ys.contains a with
  | true => exact h2 hc
  | false => exact h1 hc
theorem eqAt_TL {l b : Addr} {its its2 : Array Value} (hl : s.heap.IsList l its) (hb : s.heap.IsList b its2) (hx : TL its.toList xs) (hy : TL its2.toList xs) (hu : A.units < cLine) : SeqAt.EqAt A s (.ref l) (.ref b) true := by
  by_cases q : l = b
  · subst q; exact SeqAt.EqAt.same _
  · obtain ⟨e, he⟩ := eqs_TL (A := A) (s := s) hx hy
    have := SeqAt.RcAt.lists hl hb e hu he
    rw [show ((List.range its.size).all fun _ => true) = true from List.all_eq_true.mpr fun _ _ => rfl] at this
    exact SeqAt.EqAt.of_refs q this
theorem eq_pair {D D' a b c d : Addr} {va vb vc vd : List Value} {Q : Value → Shared → Prop} (hD : s.heap.IsTuple D #[.ref a, .ref b]) (hD' : s.heap.IsTuple D' #[.ref c, .ref d]) (ha : s.heap.IsList a (List.toArray va)) (hc : s.heap.IsList c (List.toArray vc)) (hb : s.heap.IsList b (List.toArray vb)) (hd : s.heap.IsList d (List.toArray vd))
    (hx : TL va xs) (hx' : TL vc xs) (hy : TL vb ys) (hy' : TL vd ys) (hu : A.units < cLine) (hu2 : A.in1.units < cLine) (h : Q (.bool true) s) : wpAny (model prog w) A (compareOp .Eq (.ref D) (.ref D')) Q E s := by
  refine SeqAt.eq_tupleAt (e := fun _ => true) hD hD' hu (fun j h1 h2 => ?_) h
  match j, h1, h2 with
  | 0, _, _ => exact eqAt_TL (A := A.in1) ha hc hx hx' hu2
  | 1, _, _ => exact eqAt_TL (A := A.in1) hb hd hy hy' hu2
  | j + 2, h1, _ => exact absurd h1 (by simp)
noncomputable def SrcTup (prog : Program) (w : World) (A : Around) (h₀ : Heap) (L : Addr) (m : Str → Option Value) (env : Env) (elt : Expr) (x : Str) (scope : Scope) (cl : List (Str × Addr)) (Fin : Shared → List Value → List (Addr × Obj) → Prop) (xv : Value) (s₁ : Shared) : Prop :=
  ∃ ax its news, xv = .ref ax ∧ A.handled = none ∧ Fr h₀ L s₁.heap m ∧ News h₀ L s₁.heap news ∧ (ax, ({ cls := .type "tuple", data := .seq its } : Obj)) ∈ news ∧ its.size ≤ sizeLine ∧
    ∀ s₂ : Shared, (∃ h, s₂ = { s₁ with heap := h }) → LCg.CompRest prog w A h₀ L m env elt x scope cl s₂ (fun nw => (ax, ({ cls := .type "tuple", data := .seq its } : Obj)) ∈ nw) (fun i v => its[i]? = some v) (Fin s₂) its.size 0 [] news
theorem SrcTup.intro {elt : Expr} {x : Str} {scope : Scope} {cl : List (Str × Addr)} {Fin : Shared → List Value → List (Addr × Obj) → Prop} {ax a b : Addr} {s₁ : Shared} (hh : A.handled = none) (F : Fr h₀ L s₁.heap m) (N : News h₀ L s₁.heap news) (hm : (ax, ({ cls := .type "tuple", data := .seq #[.ref a, .ref b] } : Obj)) ∈ news)
    (turn : ∀ l I oI C oC D m₂ ys h tk (E' : Value → Shared → Prop), l = a ∨ l = b → ys.length ≤ 2 → LCg.NsObj oC m₂ → m₂ x = some (.ref l) → Fr h₀ L h m → News h₀ L h ((I, oI) :: (C, oC) :: (D, LCg.lst ys) :: news) → LCg.Off3 I C D news → ((@Ne Nat I C) ∧ (@Ne Nat I D) ∧ (@Ne Nat C D)) →
      wpAny (model prog w) A (eval elt (compEnvC scope cl C env)) (LCg.CompEnd h₀ L m { s₁ with heap := h, toks := tk } I oI C oC D (LCg.lst ys) (fun nw => (ax, ({ cls := .type "tuple", data := .seq #[.ref a, .ref b] } : Obj)) ∈ nw) (fun y news' => news' = news ∧ isB true y)) E' { s₁ with heap := h, toks := tk })
    (fin : ∀ g ys, All2 isB [true, true] ys → Fin { s₁ with heap := g } ys news) : SrcTup prog w A h₀ L m env elt x scope cl Fin (.ref ax) s₁ := by
  refine ⟨ax, _, news, rfl, hh, F, N, hm, by rw [sizeLine_eq]; simp, ?_⟩
  rintro s₂ ⟨g, rfl⟩
  refine rest_all (xs := [a, b]) (fun l v => v = .ref l) (fun _ y => isB true y) rfl (fun i v e => ?_) (fun l v I oI C oC D m₂ ys h tk E' ha hv hl hC hx F N off ne => ?_) fun ys h => fin g ys ?_
  · match i, e with
    | 0, e => exact ⟨a, rfl, by simpa using e.symm⟩
    | 1, e => exact ⟨b, rfl, by simpa using e.symm⟩
    | i + 2, e => simp at e
  · subst hv
    exact turn l I oI C oC D m₂ ys h tk E' (by simpa using ha) hl hC hx F N off ne
  · exact h.map (f := fun _ => true)
theorem SrcTup.intro2 {elt : Expr} {x : Str} {scope : Scope} {cl : List (Str × Addr)} {Fin : Shared → List Value → List (Addr × Obj) → Prop} {ax a b : Addr} {s₁ : Shared} (hh : A.handled = none) (F : Fr h₀ L s₁.heap m) (N : News h₀ L s₁.heap news) (hm : (ax, ({ cls := .type "tuple", data := .seq #[.ref a, .ref b] } : Obj)) ∈ news)
    (turn : ∀ I oI C oC D m₂ ys h tk (E' : Value → Shared → Prop), ys.length ≤ 2 → LCg.NsObj oC m₂ → m₂ x = some (.ref a) → Fr h₀ L h m → News h₀ L h ((I, oI) :: (C, oC) :: (D, LCg.lst ys) :: news) → LCg.Off3 I C D news → ((@Ne Nat I C) ∧ (@Ne Nat I D) ∧ (@Ne Nat C D)) →
      wpAny (model prog w) A (eval elt (compEnvC scope cl C env)) (LCg.CompEnd h₀ L m { s₁ with heap := h, toks := tk } I oI C oC D (LCg.lst ys) (fun nw => (ax, ({ cls := .type "tuple", data := .seq #[.ref a, .ref b] } : Obj)) ∈ nw) (fun y news' => news' = news ∧ isB true y)) E' { s₁ with heap := h, toks := tk })
    (turn2 : ∀ I oI C oC D m₂ ys h tk (E' : Value → Shared → Prop), ys.length ≤ 2 → LCg.NsObj oC m₂ → m₂ x = some (.ref b) → Fr h₀ L h m → News h₀ L h ((I, oI) :: (C, oC) :: (D, LCg.lst ys) :: news) → LCg.Off3 I C D news → ((@Ne Nat I C) ∧ (@Ne Nat I D) ∧ (@Ne Nat C D)) →
      wpAny (model prog w) A (eval elt (compEnvC scope cl C env)) (LCg.CompEnd h₀ L m { s₁ with heap := h, toks := tk } I oI C oC D (LCg.lst ys) (fun nw => (ax, ({ cls := .type "tuple", data := .seq #[.ref a, .ref b] } : Obj)) ∈ nw) (fun y news' => news' = news ∧ isB true y)) E' { s₁ with heap := h, toks := tk })
    (fin : ∀ g ys, All2 isB [true, true] ys → Fin { s₁ with heap := g } ys news) : SrcTup prog w A h₀ L m env elt x scope cl Fin (.ref ax) s₁ := by
  refine SrcTup.intro hh F N hm (fun l I oI C oC D m₂ ys h tk E' hl => ?_) fin
  rcases hl with rfl | rfl
  · exact turn I oI C oC D m₂ ys h tk E'
  · exact turn2 I oI C oC D m₂ ys h tk E'
theorem ListComp_2 {elt iter : Expr} {x : Str} {px : Pos} {scope : Scope} {cl : List (Str × Addr)} {pos : Pos} {Q : Value → Shared → Prop} (_F₀ : Fr h₀ L s.heap m)
    (hclos : closureFor scope env = pure cl) (hcell : ∀ y ∈ scope.names, y.2 ≠ .cell) (hkind : scope.kind = .function)
    (hnames : ∀ y ∈ scope.names, y.2 = .local → scope.names.lookup y.1 = some .local) (hx : scope.names.lookup x = some .local)
    (h : wpAny (model prog w) A (eval iter env) (SrcTup prog w A h₀ L m env elt x scope cl (fun s₂ => LCg.FinE h₀ L m s₂ Q)) E s)
    (hs : ∀ x, foldedSetIterable iter env x = pure x := by intro _; rfl) :
    wpAny (model prog w) A (eval (.ListComp elt [⟨.Name x px, iter, [], 0⟩] scope pos) env) Q E s := by
  rw [eval_ListComp]
  refine wpAny_comprehension_free (use := none) rfl hs hclos hkind hnames (wpAny_mono h (fun xv s₁ h₁ => ?_) fun _ _ e => e)
  obtain ⟨ax, its, news, rfl, hh, F, N, hm, hsz, R⟩ := h₁
  have hl : s₁.heap.IsTuple ax its := isTT N hm
  have hlt : ax < s₁.heap.objs.size := Heap.lt_size (N _ hm).1
  refine wpAny_pyIter_tuple hl ?_
  have up : ∀ b o, s₁.heap.get? b = some o → (s₁.heap.push { cls := .type "tuple_iterator", data := .fields #[.ref ax, .int 0 0] }).get? b = some o := fun b o e => Heap.get?_push_of_some _ e
  refine LCg.block_U (Walks.tuple hh s₁.heap.objs.size ax (Nat.ne_of_lt hlt) its) hsz (fun i h st => by obtain ⟨o, e, _⟩ := st.1; exact ⟨o, e⟩) (fun i h h' o nw st e e' k N' S => ⟨by obtain ⟨o', q, r⟩ := st.1; rw [e] at q; cases q; exact ⟨o, e', r⟩, isTT N' S⟩) hcell hkind hx ⟨⟨_, Heap.get?_push_size _ rfl, rfl, rfl⟩, isTT (N.grown up) hm⟩ (fun b hb => ?_)
    (F.keeps up) (N.grown up) (Nat.ne_of_lt F.ns.lt) (next_is_new F) (fun p hp => Nat.ne_of_lt (Heap.lt_size (N p hp).1)) hm (R _ ⟨_, rfl⟩) ?_
  · show b < (s₁.heap.push _).objs.size
    rw [Heap.size_push]
    rcases List.mem_cons.mp hb with rfl | hb
    · exact Nat.lt_succ_self _
    · rw [List.mem_singleton.mp hb]; exact Nat.lt_succ_of_lt hlt
  · intro D C h tk m' ys news' F' N' o1 hn hC₀ hD₀ hCL hDL hCD offC fin
    refine ⟨m', hn, fun h'' hs'' => fin D h'' tk (F'.change hs'' hCL hC₀) (fun p hp => ?_) o1⟩
    refine ⟨hs''.extBut _ _ ?_ (N' p hp).1, (N' p hp).2⟩
    rcases List.mem_cons.mp hp with rfl | hp
    · exact Ne.symm hCD
    · exact offC p hp
end
end Mine
end
theorem Mine.walk_off_PL0 : True := by
  w_top off
  k_with_none
  trivial
section
open PySem PySem.W PyProof.Rows PySem.Calls PySem.Spec
set_option Elab.async false
set_option maxRecDepth 100000
set_option maxHeartbeats 8000000
namespace Mine
theorem rows_PL_1 : True := by
  k_with_none
  k_with "ne" => (refine neN ?_; (try dsimp only); first | exact Nat.ne_of_lt (by assumption) | exact Nat.ne_of_gt (by assumption) | exact Mine.la0 (by assumption) | exact Mine.ga0 (by assumption) | exact Mine.la1 (by assumption) | exact Mine.ga1 (by assumption) | exact Mine.le1 (by assumption) | exact Mine.ge1 (by assumption) | exact Mine.la2 (by assumption) | exact Mine.ga2 (by assumption) | exact Mine.le2 (by assumption) | exact Mine.ge2 (by assumption) | exact Mine.la3 (by assumption) | exact Mine.ga3 (by assumption) | exact Mine.le3 (by assumption) | exact Mine.ge3 (by assumption) | exact Mine.la4 (by assumption) | exact Mine.ga4 (by assumption) | exact Mine.le4 (by assumption) | exact Mine.ge4 (by assumption) | exact Mine.la5 (by assumption) | exact Mine.ga5 (by assumption) | exact Mine.le5 (by assumption) | exact Mine.ge5 (by assumption) | exact Mine.la6 (by assumption) | exact Mine.ga6 (by assumption) | exact Mine.le6 (by assumption) | exact Mine.ge6 (by assumption) | exact Mine.la7 (by assumption) | exact Mine.ga7 (by assumption) | exact Mine.le7 (by assumption) | exact Mine.ge7 (by assumption) | exact Mine.la8 (by assumption) | exact Mine.ga8 (by assumption) | exact Mine.le8 (by assumption) | exact Mine.ge8 (by assumption))
  k_with "room" => (first | exact Mine.room0 (by assumption) | exact Mine.room1 (by assumption) (by decide) | exact Mine.room2 (by assumption) (by decide))
  k_with "units" => (first | exact Mine.room0 (by assumption) | exact Mine.room1 (by assumption) (by decide) | exact Mine.room2 (by assumption) (by decide))
  k_with "size" => (first | exact Nat.zero_le _ | with_reducible exact Mine.szT (by assumption) | with_reducible exact Mine.szT1 (by assumption) | with_reducible exact Mine.szK (by assumption) | with_reducible exact Mine.szK1 (by assumption))
  k_with "LeaveU" => (k_dflt (refine' Mine.leaveU_ ?U ?k1 ?k2 ?_; (case k1 => k_asm); (case k2 => k_asm); (case U => assumption); k_whole); intro kU kN; (try dsimp only))
  k_with "Kont" => ((try dsimp only); first | (refine' Mine.kont_next ?L_k ?_; (case L_k => assumption); intro tkp htkp) | (refine' Mine.kont_ret ?L_k ?_; (case L_k => assumption)) | (refine' Mine.kont_brk ?L_k ?_; (case L_k => assumption)) | (refine' Mine.kont_cont ?L_k ?_; (case L_k => assumption)))
  k_with "execs cons" => (k_here; first | refine Mine.execs_one ?_ | ((first | (refine' Mine.execs_kont ?kp_k ?_; (case kp_k => assumption)) | (refine Mine.gen_pos ?kp_k ?_; (case kp_k => first | assumption | exact Nat.succ_pos _ | omega); intro tkp htkp; refine Mine.execs_kont htkp ?_)); intro K9 hK9))
  k_with "call type:list" => (k_here; k_dflt (refine' PySem.W.list_copyK ?F ?N ?hl ?_ ?hz; (case F => k_asm); (case N => k_asm); (case hl => exact Mine.Fr.isList (by k_asm) (by assumption)); (case hz => assumption); k_whole; intro D9 c9 h9 F9 N9 lt9; (try k_lt lt9); (try dsimp only)))
  k_with "call ref" => (k_here; (with_reducible show wpAny _ _ (call (Value.ref 118) _) _ _ _); refine Mine.hold ?_)
  k_with "eval ListComp" => (k_here; (with_reducible show wpAny _ _ (eval (Expr.ListComp (Expr.Compare _ _ _ _) _ _ _) _) _ _ _); k_dflt (refine Mine.ListComp_2 (_F₀ := by k_asm) (by with_unfolding_all rfl) (by decide) (by rfl) (by decide) (by rfl) ?_))
  k_with "eval ListComp" => (k_here; (with_reducible show wpAny _ _ (eval (Expr.ListComp (Expr.Name _ _) _ _ _) _) _ _ _); k_dflt (refine LCt.ListComp_T (F₀ := by k_asm) (by with_unfolding_all rfl) (by decide) (by rfl) (by decide) (by rfl) ?_))
  k_with "SrcTup" => (k_here; k_dflt ((refine' Mine.SrcTup.intro2 ?hh ?F ?N ?hm (fun I9 oI9 C9 oC9 D9 m9 ys9 h9 tk9 E9 hl9 hC9 hx9 F9 N9 off9 ne9 => ?_) (fun I9 oI9 C9 oC9 D9 m9 ys9 h9 tk9 E9 hl9 hC9 hx9 F9 N9 off9 ne9 => ?_) (fun g9 ys9 TL9 => ?_); (case hh => rfl); (case F => k_asm); (case N => k_asm); (case hm => k_mem)); (all_goals (try (have off8 := off9; (try simp only [LCg.Off3, and_true] at off8))))))
  k_with "CompSrcT" => (k_here; k_dflt (((refine LCt.CompSrcT.base (by rfl) (by k_asm) (by k_asm) (by assumption) (by assumption) ?_); intro g9; (refine' Mine.restT_all (fun a v => ∃ t, v = .str (Mine.T a) t) (Mine.keepC (by assumption)) (fun a v => ∃ t, v = .str (Mine.T a) t) ?hn ?hsrc (fun c9 v9 I9 oI9 C9 oC9 D9 m9 ys9 h9 tk9 E9 hc9 hv9 hl9 hC9 hx9 F9 N9 off9 ne9 => ?_) (fun ys9 TL9 => ?_); (case hsrc => exact Mine.src_list (by assumption)); (case hn => first | assumption | (symm; assumption))); (try (obtain ⟨t9, e9⟩ := hv9; subst e9; have off8 := off9; (try simp only [LCg.Off3, and_true] at off8))))))
  k_with "CompEnd" => (k_here; k_dflt ((refine' Mine.end_S ?F ?N ?off ?hS ?r; (case F => k_asm); (case N => k_asm); (case off => first | assumption | lcg_off); (case hS => first | exact Mine.mem0 (by k_mem) | lcg_src | k_mem); (case r => first | exact ⟨rfl, rfl⟩ | exact ⟨rfl, Mine.keep_yes _ (by assumption), _, rfl⟩ | exact ⟨rfl, Mine.keep_no _ (by assumption)⟩))))
  k_with "FinA" => ((unfold LCg.FinA); intro D9 h9 tk9 F9 N9 o9; (try clear o9); (try simp only [List.nil_append, List.cons_append] at N9); (try dsimp only))
  k_with "FinE" => ((unfold LCg.FinE); intro D9 h9 tk9 F9 N9 o9; (try clear o9); (try simp only [List.nil_append, List.cons_append] at N9); (try dsimp only))
  k_with "compareOp NotEq ref ref" => (k_here; k_dflt (refine' Mine.ne_BL ?hl ?hb ?hx ?hy ?hu ?_; (case hl => exact Mine.isLL (by k_asm) (by k_mem)); (case hb => exact Mine.isLL (by k_asm) (by k_mem)); (case hx => assumption); (case hy => exact .cons rfl (.cons rfl .nil)); (case hu => ktr_units); k_whole; (try dsimp only)))
  k_with "compareOp NotIn str ref" => (k_here; k_dflt (refine' Mine.notin_TL ?hl ?hT (fun k9 => ?_) (fun k9 => ?_); (case hl => exact Mine.Fr.isList (by k_asm) (by assumption)); (case hT => assumption)); (all_goals (try dsimp only)))
  k_with "compareOp Eq ref ref" => (k_here; k_dflt (refine' Mine.eq_pair ?hD ?hE ?ha ?hc ?hb ?hd ?hx ?hp ?hy ?hq ?hu ?hv ?_; (case hD => exact Mine.isTT (by k_asm) (by first | k_mem | exact Mine.mem0 (by k_mem))); (case hE => exact Mine.isTT (by k_asm) (by first | k_mem | exact Mine.mem0 (by k_mem))); (case ha => first | exact Mine.isLL (by k_asm) (by first | k_mem | exact Mine.mem0 (by k_mem)) | exact Mine.Fr.isList (by k_asm) (by assumption)); (case hc => first | exact Mine.isLL (by k_asm) (by first | k_mem | exact Mine.mem0 (by k_mem)) | exact Mine.Fr.isList (by k_asm) (by assumption)); (case hb => first | exact Mine.isLL (by k_asm) (by first | k_mem | exact Mine.mem0 (by k_mem)) | exact Mine.Fr.isList (by k_asm) (by assumption)); (case hd => first | exact Mine.isLL (by k_asm) (by first | k_mem | exact Mine.mem0 (by k_mem)) | exact Mine.Fr.isList (by k_asm) (by assumption)); (case hx => first | assumption | exact Mine.TL.nil | exact Mine.Picks.toTL (by assumption)); (case hp => first | assumption | exact Mine.TL.nil | exact Mine.Picks.toTL (by assumption)); (case hy => first | assumption | exact Mine.TL.nil | exact Mine.Picks.toTL (by assumption)); (case hq => first | assumption | exact Mine.TL.nil | exact Mine.Picks.toTL (by assumption)); (case hu => ktr_units); (case hv => ktr_units); k_whole; (try dsimp only)))
  k_with "LoopStep3" => (with_unfolding_all refine LoopStep3.next (LoopStep2.intro (by k_asm) (Mine.news_drop2 (by k_asm)) (by rfl) ?_))
  k_with "call type:type" => (k_here; k_dflt (refine' Mine.type_list9 ?N ?hm ?_; (case N => k_asm); (case hm => first | exact Mine.mem3 (by k_mem) | exact Mine.mem2 (by k_mem) | exact Mine.mem0 (by k_mem) | k_mem); k_whole; (try dsimp only)))
  k_with "exec For Name Tuple cons nil" => ((fail_if_success (with_reducible show wpAny _ _ _ _ (fun _ _ => False) _)); refine PySem.wpAny_noRaise ?_)
  trivial
theorem c_left (w : World) (xs ys : List (List Nat)) (l1 l2 : Addr) (vs us : List Value) (n1 n2 : Nat) (hx : TL (List.toArray vs).toList xs) (hy : TL (List.toArray us).toList ys) (hpx : xs.Pairwise (· < ·)) (hpy : ys.Pairwise (· < ·)) (hsub : ∀ y ∈ ys, y ∈ xs) (hlen : xs.length ≤ 300) :
    TellU w 172 6 120 [.ref l1, .ref l2] (fun h => h.get? l1 = some (W.listOf (List.toArray vs) n1) ∧ h.get? l2 = some (W.listOf (List.toArray us) n2)) (RList (offC xs ys)) := by
  have hleny : ys.length ≤ 300 := Nat.le_trans (sub_len hpy hsub) hlen
  have hz1 : (List.toArray vs).size ≤ sizeLine := by have := hx.len; rw [sizeLine_eq]; simp at this ⊢; omega
  have hz2 : (List.toArray us).size ≤ sizeLine := by have := hy.len; rw [sizeLine_eq]; simp at this ⊢; omega
  replace hx : TL vs xs := hx
  replace hy : TL us ys := hy
  refine TellU.of ?_
  k_fill
  intro p loose mean mg mb dp un gd cn cs a ccd cl outer A₀ base h₀ L m s Q E X B F T Xb Tb hk hd hu ht hn hret
  refine wpAny_call ?_
  have hn1 : s.heap.IsList l1 (List.toArray vs) := ⟨_, hn.1, rfl, _, rfl⟩
  have hn2 : s.heap.IsList l2 (List.toArray us) := ⟨_, hn.2, rfl, _, rfl⟩
  clear hn
  k_dflt (refine' Mine.enterUC ?k0 ?k1 ?k2 ?k3 ?k5 ?kA ?kF ?kK ?k6 ?k7 ?k8 ?k9 ?kB ?kD ?_ ?c2 ?c3 ?c4; (case kA => exact rfl); (case kF => exact rfl); (case kK => assumption); (case k0 => assumption); (case k1 => k_asm); (case k2 => k_asm); (case k3 => k_asm); (case k5 => k_asm); (case k6 => k_is); (case k7 => k_is); (case k8 => ktr_room); (case k9 => exact BindsTo.of_eq rfl); (case kB => exact rfl); (case kD => decide +kernel); (case c2 => exact rfl); (case c3 => exact rfl); (case c4 => exact rfl); k_whole; intro L' h' tk' cells' F' N' Y' B' X' T' U' p9'; k_cells Y'; (try simp only [List.cons_append, List.nil_append] at N'); (try dsimp only); (try k_fold))
  have hEC : EvC ys := .mk
  have hlx : xs.length = (List.toArray vs).size := by rw [List.size_toArray]; exact hx.len.symm
  k_steps
  unfold Hold
  (rename Fr _ _ _ _ => FX); (rename News _ _ _ _ => NX)
  refine TellU.use (c_diff w xs ys l1 l2 vs us hx hy hpx hpy hlen hleny) X' B' FX NX T' Xb Tb U' (by first | exact rfl | assumption) (by ktr_room) (by ktr_units) (by assumption) ⟨Mine.Fr.isList FX hn1, Mine.Fr.isList FX hn2⟩ ?_
  intro v3 own3 g3 h3 tk3 B3 X3 T3 st3 U3 F3 N3 ne3 u3 p3 R3
  obtain ⟨D3, a3, b3, va3, vb3, m3, k3, rfl, rfl, hva3, hvb3⟩ := R3
  rw [offC_none hsub] at hvb3
  obtain rfl := hvb3.nil_inv
  clear FX NX X' B' T' U' u3 hvb3 ne3
  simp only [List.cons_append, List.nil_append] at N3
  have hm1 := U3.isList hn1
  have hm2 := U3.isList hn2
  k_steps
  unfold Hold
  (rename Fr _ _ _ _ => FX); (rename News _ _ _ _ => NX)
  refine TellU.use (c_diff w ys xs l2 l1 us vs hy hx hpy hpx hleny hlen) X3 B3 FX NX T3 Xb Tb U3 (by first | exact rfl | assumption) (by ktr_room) (by ktr_units) (by assumption) ⟨Mine.Fr.isList FX hm2, Mine.Fr.isList FX hm1⟩ ?_
  intro v4 own4 g4 h4 tk4 B4 X4 T4 st4 U4 F4 N4 ne4 u4 p4 R4
  obtain ⟨D4, a4, b4, va4, vb4, m4, k4, rfl, rfl, hva4, hvb4⟩ := R4
  rw [offC_none hsub] at hva4
  obtain rfl := hva4.nil_inv
  clear FX NX X3 B3 T3 U3 u4 hva4 hm1 hm2 st3
  simp only [List.cons_append, List.nil_append] at N4
  have hm1 := U4.isList hn1
  have hm2 := U4.isList hn2
  k_steps
  refine hret _ [(_, LCg.lst _)] _ _ kU ?_ ⟨_, _, _, rfl, rfl, Picks.toTL (by assumption)⟩
  intro q hq
  rw [List.mem_singleton] at hq
  subst hq
  exact kN _ (.tail _ (.tail _ (.tail _ (.tail _ (.tail _ (.head _))))))

end Mine
end
theorem Mine.walk_off_PL : True := by
  w_top off
  k_with_none
  trivial
section
open PySem PySem.W PyProof.Rows PySem.Calls PySem.Spec
set_option Elab.async false
set_option maxRecDepth 100000
set_option maxHeartbeats 8000000
namespace Mine
theorem put_led (t : SetTable) (j : Nat) : (t.put j).1.led = t.led := rfl
theorem standIn_led (t : SetTable) (n : Nat) : (t.standIn n).led = t.led := rfl
theorem orStandIn_led (t : SetTable) (n : Nat) : (t.orStandIn n).led = t.led := by
  unfold SetTable.orStandIn
  split
  · rfl
  · rfl
theorem orStandIn_plain (t : SetTable) (n : Nat) (h : t.plain = false) : (t.orStandIn n).plain = false := by
  unfold SetTable.orStandIn
  split
  · exact h
  · rfl
theorem layNew_led (t : SetTable) (es : Array (Int × Value)) (h : Int) (x : Value) : (layNew t es h x).2.1.led = t.led := by
  unfold layNew
  split
  · exact (orStandIn_led _ _).trans (put_led _ _)
  · rfl
theorem relaid_led (t t' : SetTable) (hs : Array Int) (n : Nat) (o : Array Nat) (h : t.relaid hs n = some (t', o)) : t'.led = t.led ∧ t'.plain = t.plain := by
  unfold SetTable.relaid SetTable.laid at h
  cases q : SetTable.layClean (SetTable.sizeAbove n - 1) hs with
  | none => rw [q] at h; cases h
  | some ow =>
    rw [q] at h
    have h' := Option.some.inj h
    have e := congrArg Prod.fst h'
    simp only at e
    rw [← e]
    exact ⟨rfl, rfl⟩
theorem relayAll_led (t : SetTable) (es : Array (Int × Value)) (n : Nat) : (relayAll t es n).2.1.led = t.led ∧ (t.plain = false → (relayAll t es n).2.1.plain = false) := by
  unfold relayAll
  split
  · rename_i t' o q
    obtain ⟨h1, h2⟩ := relaid_led _ _ _ _ _ q
    dsimp only
    split
    · exact ⟨h1, fun e => h2.trans e⟩
    · exact ⟨rfl, fun _ => rfl⟩
  · exact ⟨rfl, fun _ => rfl⟩
/-- a text's signs -/
noncomputable def txt : Value → List Nat
  | .str s _ => s.cps.toList
  | _ => []
theorem txt_T (x : List Nat) (t : Tok) : txt (.str (T x) t) = x := T_cps x
/-- an element that is a text -/
noncomputable def IsTe (w : World) (e : Int × Value) : Prop := ∃ x t, e = (hashStr w (T x), .str (T x) t)
structure TextTab (w : World) (es : Array (Int × Value)) (t : SetTable) (xs : List (List Nat)) : Prop where
  all : ∀ e ∈ es.toList, IsTe w e
  eq : xs = es.toList.map (fun e => txt e.2)
  nd : xs.Nodup
  fit : t.fits es.size = true
  led : t.led = !w.params.followText "set-order"
  plain : es.size = 0 ∨ t.plain = false
/-- a set made of these texts -/
noncomputable def TextSet (w : World) (o : Obj) (xs : List (List Nat)) : Prop := ∃ es ep t, o = { cls := .type "set", data := .set es ep t } ∧ TextTab w es t xs
theorem TextTab.len {w : World} {es : Array (Int × Value)} {t : SetTable} {xs : List (List Nat)} (h : TextTab w es t xs) : es.size = xs.length := by
  rw [h.eq, List.length_map, Array.length_toList]
theorem TextTab.elems {w : World} {es : Array (Int × Value)} {t : SetTable} {xs : List (List Nat)} (h : TextTab w es t xs) (prog : Program) : ElemsOf (strKind prog w) es.toList := by
  intro e he
  obtain ⟨x, u, rfl⟩ := h.all e he
  exact ⟨⟨T x, by show Value.isStrOf (T x) (.str (T x) u) = true; simp [Value.isStrOf], rfl⟩, rfl⟩
theorem TextTab.mem {w : World} {es : Array (Int × Value)} {t : SetTable} {xs : List (List Nat)} (h : TextTab w es t xs) (x : List Nat) : (∃ e ∈ es.toList, Value.isStrOf (T x) e.2 = true) ↔ x ∈ xs := by
  rw [h.eq, List.mem_map]
  constructor
  · rintro ⟨e, he, hq⟩
    obtain ⟨y, u, rfl⟩ := h.all e he
    refine ⟨_, he, ?_⟩
    obtain ⟨_, hq'⟩ := Value.isStrOf_shape hq
    have : T y = T x := by injection hq'
    show txt (.str (T y) u) = x
    rw [txt_T]
    exact T_inj this
  · rintro ⟨e, he, hq⟩
    obtain ⟨y, u, rfl⟩ := h.all e he
    refine ⟨_, he, ?_⟩
    have : y = x := by rw [← hq]; exact (txt_T y u).symm
    subst this
    simp [Value.isStrOf]
theorem TextTab.perm {w : World} {es es' : Array (Int × Value)} {t t' : SetTable} {xs : List (List Nat)} (h : TextTab w es t xs) (p : List.Perm es'.toList es.toList) (hf : t'.fits es'.size = true) (hl : t'.led = t.led) (hp : t'.plain = false) :
    ∃ xs', TextTab w es' t' xs' ∧ xs'.Perm xs := by
  have pm : (es'.toList.map (fun e => txt e.2)).Perm xs := by rw [h.eq]; exact p.map _
  exact ⟨_, ⟨fun e he => h.all e (p.mem_iff.mp he), rfl, (pm.nodup_iff).mpr h.nd, hf, hl.trans h.led, .inr hp⟩, pm⟩
/-- one text more -/
theorem TextTab.more {w : World} {es es' : Array (Int × Value)} {t t' : SetTable} {xs : List (List Nat)} {x : List Nat} {u : Tok} (h : TextTab w es t xs) (hx : x ∉ xs) (p : List.Perm es'.toList (es.push (hashStr w (T x), .str (T x) u)).toList) (hf : t'.fits es'.size = true) (hl : t'.led = t.led) (hp : t'.plain = false) :
    ∃ xs', TextTab w es' t' xs' ∧ xs'.Perm (xs ++ [x]) := by
  rw [Array.toList_push] at p
  have pm : (es'.toList.map (fun e => txt e.2)).Perm (xs ++ [x]) := by
    rw [h.eq]
    have := p.map (fun e : Int × Value => txt e.2)
    rw [List.map_append, List.map_cons, List.map_nil, txt_T] at this
    exact this
  refine ⟨_, ⟨fun e he => ?_, rfl, (pm.nodup_iff).mpr ?_, hf, hl.trans h.led, .inr hp⟩, pm⟩
  · rcases List.mem_append.mp (p.mem_iff.mp he) with he | he
    · exact h.all e he
    · rw [List.mem_singleton] at he; subst he; exact ⟨x, u, rfl⟩
  · rw [List.nodup_append]
    exact ⟨h.nd, by simp, fun a ha b hb => by rw [List.mem_singleton] at hb; subst hb; exact fun e => hx (e ▸ ha)⟩
end Mine
end
theorem Mine.walk_off_ST0 : True := by
  w_top off
  k_with_none
  trivial
section
open PySem PySem.W PyProof.Rows PySem.Calls PySem.Spec
set_option Elab.async false
set_option maxRecDepth 100000
set_option maxHeartbeats 8000000
namespace Mine
section
variable {prog : Program} {w : World} {A : Around} {E : Value → Shared → Prop} {s : Shared}
theorem new_T {Q : Value → Shared → Prop} (h : ∀ o, TextSet w o [] → o.isFreed = false → Q (.ref s.heap.objs.size) { s with heap := s.heap.push o }) : wpAny (model prog w) A (newSet (.type "set")) Q E s := by
  unfold newSet setsByText
  refine wpAny_bind (wpAny_bind (wpAny_askSetting (wpAny_pure ?_)))
  dsimp only
  simp only [newObj]
  exact wpAny_bind (wpAny_alloc (wpAny_pure (h _ ⟨#[], 0, _, rfl, ⟨fun e he => by simp at he, rfl, List.nodup_nil, by rfl, rfl, .inl rfl⟩⟩ rfl)))
theorem put_T {h : Heap} {a : Addr} {es es' : Array (Int × Value)} {ep : Nat} {t t' : SetTable} (ho : h.get? a = some { cls := .type "set", data := .set es ep t }) : (h.update a (Obj.putSet es' t')).get? a = some { cls := .type "set", data := .set es' (ep + 1) t' } := by
  have := Heap.get?_update_self (Obj.putSet es' t') ho (by rw [putSet_of es' t' rfl]; rfl)
  rw [putSet_of es' t' rfl] at this
  exact this
theorem store_T {a : Addr} {es es' : Array (Int × Value)} {ep : Nat} {t t' : SetTable} {Q : Unit → Shared → Prop} (ho : s.heap.get? a = some { cls := .type "set", data := .set es ep t }) (hz : es'.size ≤ 1000)
    (h : ∀ h', Heap.SameBut a s.heap h' → h'.get? a = some { cls := .type "set", data := .set es' (ep + 1) t' } → Q () { s with heap := h' }) : wpAny (model prog w) A (storeSet a es' t') Q E s :=
  wpAny_storeSet_of ho rfl (h _ (Heap.SameBut.update ..) (put_T ho)) (by rw [sizeLine_eq]; omega)
theorem gave_T {b : Bool} {Q : Unit → Shared → Prop} (h : Q () s) : wpAny (model prog w) A (match b with | true => rule "set.scan.the-table-gave-way" | false => pure ()) Q E s := by
  cases b
  · exact wpAny_pure h
  · exact wpAny_rule h
theorem addS_T {a : Addr} {es : Array (Int × Value)} {ep : Nat} {t : SetTable} {xs : List (List Nat)} {x : List Nat} {u : Tok} {Q : Bool → Shared → Prop} (ho : s.heap.get? a = some { cls := .type "set", data := .set es ep t }) (hs : TextTab w es t xs) (hz : xs.length ≤ 100)
    (h : ∀ h' o' xs' b, Heap.SameBut a s.heap h' → h'.get? a = some o' → TextSet w o' xs' → (∀ y, y ∈ xs' ↔ y ∈ xs ∨ y = x) → xs'.length ≤ xs.length + 1 → Q b { s with heap := h' }) :
    wpAny (model prog w) A (setAddHashed a (.str (T x) u) (hashStr w (T x))) Q E s := by
  have hlen := hs.len
  have hkey : (strKind prog w).is (T x) (.str (T x) u) = true := by show Value.isStrOf (T x) (.str (T x) u) = true; simp [Value.isStrOf]
  have hb : es.size < scanBound := by rw [show scanBound = 4096 from rfl]; omega
  have hel := hs.elems prog
  unfold setAddHashed setAddHashedIn
  refine wpAny_holding (wpAny_bind (wpAny_setState_of ho rfl hs.fit ?_))
  dsimp only
  rw [byScan_of (knd := strKind prog w) rfl hb hel]
  simp only [↓reduceIte]
  unfold setAddByScan
  refine wpAny_bind (wpAny_bind (wpAny_rule (wpAny_bind (wpAny_setScan_of hkey ho rfl hs.fit hel ?_))))
  cases hr : List.findIdx? (fun e => (strKind prog w).is (T x) e.2) es.toList with
  | some j =>
    obtain ⟨hj, hpj, _⟩ := List.findIdx?_eq_some_iff_getElem.mp hr
    have hx : x ∈ xs := (hs.mem x).mp ⟨es.toList[j], List.getElem_mem hj, hpj⟩
    refine wpAny_pure (wpAny_pure ?_)
    exact h s.heap _ xs false (Heap.SameBut.refl ..) ho ⟨es, ep, t, rfl, hs⟩ (fun y => ⟨.inl, fun q => q.elim id fun e => e ▸ hx⟩) (Nat.le_succ _)
  | none =>
    have hx : x ∉ xs := fun q => by
      obtain ⟨e, he, hq⟩ := (hs.mem x).mpr q
      have := List.findIdx?_eq_none_iff.mp hr e he
      have hq' : (strKind prog w).is (T x) e.2 = true := hq
      rw [hq'] at this; cases this
    have hperm := layNew_perm t es (hashStr w (T x)) (.str (T x) u)
    have hfits := layNew_fits t es (hashStr w (T x)) (.str (T x) u)
    have hled := layNew_led t es (hashStr w (T x)) (.str (T x) u)
    dsimp only
    generalize layNew t es (hashStr w (T x)) (.str (T x) u) = Ly at hperm hfits hled ⊢
    obtain ⟨es1, t1, wd, gave⟩ := Ly
    dsimp only at hperm hfits hled ⊢
    refine wpAny_bind (gave_T ?_)
    have tail : ∀ t2 : SetTable, t2.fits es1.size = true → t2.led = t.led → t2.plain = false →
        wpAny (model prog w) A (do
          storeSet a es1 t2
          if (!wd && t2.tooFull) = true then do
            (match (relayAll t2 es1 (SetTable.grown es1.size)).2.2 with | true => rule "set.scan.the-table-gave-way" | false => pure ())
            storeSet a (relayAll t2 es1 (SetTable.grown es1.size)).1 (relayAll t2 es1 (SetTable.grown es1.size)).2.1
            pure (some true)
          else pure (some true)) (fun r s' => r = some true ∧ Q true s') E s := by
      intro t2 hf2 hl2 hp2
      obtain ⟨xs1, H1, P1⟩ := hs.more hx hperm hf2 hl2 hp2
      have hz1 : es1.size ≤ 1000 := by rw [H1.len, P1.length_eq, List.length_append, List.length_singleton]; omega
      have hm1 : ∀ y, y ∈ xs1 ↔ y ∈ xs ∨ y = x := fun y => by rw [P1.mem_iff, List.mem_append, List.mem_singleton]
      have hn1 : xs1.length ≤ xs.length + 1 := by rw [P1.length_eq, List.length_append, List.length_singleton]; omega
      refine wpAny_bind (store_T ho hz1 fun h' sb ho' => ?_)
      split
      · refine wpAny_bind (gave_T ?_)
        have hp := relayAll_perm t2 es1 (SetTable.grown es1.size)
        have hfr := relayAll_fits t2 es1 (SetTable.grown es1.size)
        obtain ⟨hl, hpl⟩ := relayAll_led t2 es1 (SetTable.grown es1.size)
        obtain ⟨xs2, H2, P2⟩ := H1.perm hp hfr hl (hpl hp2)
        have hz2 : (relayAll t2 es1 (SetTable.grown es1.size)).1.size ≤ 1000 := by rw [H2.len, P2.length_eq, ← H1.len]; exact hz1
        refine wpAny_bind (store_T (s := { s with heap := h' }) ho' hz2 fun h'' sb' ho'' => wpAny_pure ⟨rfl, ?_⟩)
        exact h h'' _ xs2 true (sb.trans sb') ho'' ⟨_, _, _, rfl, H2⟩ (fun y => by rw [P2.mem_iff]; exact hm1 y) (by rw [P2.length_eq]; exact hn1)
      · exact wpAny_pure ⟨rfl, h h' _ xs1 true sb ho' ⟨_, _, _, rfl, H1⟩ hm1 hn1⟩
    split
    · rename_i hpl
      refine wpAny_bind ?_
      rw [hashByValue_scannable 8 (by rfl)]
      refine wpAny_pure ?_
      refine wpAny_mono (tail { t1 with plain := false } (SetTable.fits_plain_off hfits) hled rfl) (fun r s' q => ?_) fun _ _ q => q
      obtain ⟨rfl, q⟩ := q
      exact wpAny_pure q
    · rename_i hpl
      refine wpAny_bind (wpAny_pure ?_)
      simp only [↓reduceIte]
      refine wpAny_mono (tail t1 hfits hled (by simpa using hpl)) (fun r s' q => ?_) fun _ _ q => q
      obtain ⟨rfl, q⟩ := q
      exact wpAny_pure q
theorem add_T {D : Addr} {o : Obj} {xs : List (List Nat)} {x : List Nat} {t : Tok} {Q : Value → Shared → Prop} (ho : s.heap.get? D = some o) (hs : TextSet w o xs) (hz : xs.length ≤ 100)
    (h : ∀ h' o' xs' tk, Heap.SameBut D s.heap h' → h'.get? D = some o' → TextSet w o' xs' → (∀ y, y ∈ xs' ↔ y ∈ xs ∨ y = x) → xs'.length ≤ xs.length + 1 → Q .none { s with heap := h', toks := tk }) :
    wpAny (model prog w) A (call (.builtin "set.add") [.ref D, .str (T x) t]) Q E s := by
  obtain ⟨es, ep, tb, rfl, H⟩ := hs
  have hkey : (strKind prog w).is (T x) (.str (T x) t) = true := by show Value.isStrOf (T x) (.str (T x) t) = true; simp [Value.isStrOf]
  refine wpAny_call_entry F.slot_set_add ⟨_, ho, rfl⟩ F.entry_set_add ?_ (F.args_set_add_2 _ _)
  unfold Builtin.«set.add» Builtin.Frozenset.oneOther
  simp only [List.isEmpty_nil, bind_assoc]
  unfold Builtin.Frozenset.addrOf setAdd
  refine wpAny_bind (wpAny_pure ?_)
  try dsimp only
  refine wpAny_bind (wpAny_pure ?_)
  try dsimp only
  refine wpAny_bind (wpAny_holding (wpAny_bind ((strKind prog w).pyHash hkey ?_)))
  refine addS_T (s := { s with toks := s.toks + 1 }) ho H hz fun h' o' xs' b sb ho' hs' hm hl => ?_
  show wpAny _ _ (ret Value.none) _ _ _
  exact wpAny_pure ⟨_, rfl, h h' o' xs' _ sb ho' hs' hm hl⟩
end
end Mine
end
theorem Mine.walk_off_ST1 : True := by
  w_top off
  k_with_none
  trivial
section
open PySem PySem.W PyProof.Rows PySem.Calls PySem.Spec
open PyProof.Rows.LCg
set_option Elab.async false
set_option maxRecDepth 100000
set_option maxHeartbeats 8000000
namespace Mine
theorem TextSet.nd {w : World} {o : Obj} {xs : List (List Nat)} (h : TextSet w o xs) : xs.Nodup := by
  obtain ⟨_, _, _, _, H⟩ := h
  exact H.nd
theorem eval_SetCompR (elt gens scope pos) (env : Env) : eval (.SetComp elt gens scope pos) env =
    comprehension (.SetComp elt gens scope pos) scope env (firstIterPos gens pos) (newSet (.type "set")) (firstAsync gens) (firstIter gens env) := rfl
theorem setTurn (elt target iter : Expr) (scope : Scope) (pos : Pos) (it acc : Value) (env : Env) :
    compTurn (.SetComp elt [⟨target, iter, [], 0⟩] scope pos) 0 it acc env = (standAt iter.pos >>= fun _ => pyNext it >>= fun r => match r with
      | none => pure (.done .next)
      | some v => letOwnedTupleGo target it v >>= fun _ => assign target env v >>= fun _ =>
        (eval elt env >>= fun x => standAt elt.pos >>= fun _ => call (.builtin "set.add") [acc, x] >>= fun _ => pure ()) >>= fun _ =>
          again (.compLoop (.SetComp elt [⟨target, iter, [], 0⟩] scope pos) 0 it acc env)) := by rfl
section
variable {prog : Program} {w : World} {A : Around} {E : Value → Shared → Prop} {R : Result → Shared → Prop} {s : Shared} {h₀ : Heap} {L : Addr} {m : Str → Option Value} {env : Env} {news : List (Addr × Obj)}
theorem setStart {elt target iter : Expr} {scope : Scope} {pos : Pos} {it acc : Value}
    (h0 : codeAny (model prog w) A (.compLoop (.SetComp elt [⟨target, iter, [], 0⟩] scope pos) 0 it acc env) R s)
    (h : wpAny (model prog w) A (pyIter it) (fun it' s' => codeAny (model prog w) A (.compLoop (.SetComp elt [⟨target, iter, [], 0⟩] scope pos) 0 it' acc env) R s') (notedBy (model prog w) A env fun x s' => R (.error x) s') s) :
    codeAny (model prog w) A (.compStart (.SetComp elt [⟨target, iter, [], 0⟩] scope pos) 0 it acc env) R s := by
  refine codeAny_of_tree ?_
  show wpAny _ A ((compStart (.SetComp elt [⟨target, iter, [], 0⟩] scope pos) 0 it acc env).onRaise (fun x => do noteFrame x env; standAt theWindowsPlace)) _ _ s
  refine wpAny_notedAt ?_
  unfold compStart
  show wpAny _ A (ask >>= _) _ _ s
  refine wpAny_bind (wpAny_askSetting (wpAny_ite ?_))
  split
  · first
      | exact wpAny_bind (wpAny_pure (wpAny_pure ⟨rfl, h0⟩))
      | exact wpAny_pure ⟨rfl, h0⟩
  · first
      | exact wpAny_bind (wpAny_rule (wpAny_bind (wpAny_standAt (wpAny_bind (wpAny_mono h (fun it' s' h' => wpAny_pure ⟨rfl, h'⟩) fun _ _ x => x)))))
      | (refine wpAny_bind (wpAny_rule ?_); show wpAny _ A (standAt iter.pos >>= _) _ _ s; exact wpAny_bind (wpAny_standAt (wpAny_bind (wpAny_mono h (fun it' s' h' => wpAny_pure ⟨rfl, h'⟩) fun _ _ x => x))))
theorem setLoop {elt target iter : Expr} {scope : Scope} {pos : Pos} {it acc : Value} (I : Nat → Shared → Prop)
    (turn : ∀ n s, I n s → wpAny (model prog w) A (pyNext it) (fun r s₁ => match r with
      | none => R (.ok .next) s₁
      | some v => wpAny (model prog w) A (assign target env v) (fun _ s₂ => wpAny (model prog w) A (eval elt env) (fun x s₃ =>
          wpAny (model prog w) A (call (.builtin "set.add") [acc, x]) (fun _ s₄ => ∃ m, m < n ∧ I m s₄) (notedBy (model prog w) A env fun e s' => R (.error e) s') s₃)
          (notedBy (model prog w) A env fun e s' => R (.error e) s') s₂) (notedBy (model prog w) A env fun e s' => R (.error e) s') s₁) (notedBy (model prog w) A env fun e s' => R (.error e) s') s)
    (n : Nat) (h : I n s) (ht : ∀ v, letOwnedTupleGo target it v = pure () := by intro _; rfl) :
    codeAny (model prog w) A (.compLoop (.SetComp elt [⟨target, iter, [], 0⟩] scope pos) 0 it acc env) R s := by
  refine codeAny_loop rfl I (fun n s hI => ?_) n h
  show wpAny _ _ ((compTurn (.SetComp elt [⟨target, iter, [], 0⟩] scope pos) 0 it acc env).onRaise (fun x => do noteFrame x env; theTreesLotGoes x)) _ _ s
  refine wpAny_noted ?_
  rw [setTurn]
  refine wpAny_bind (wpAny_standAt (wpAny_bind (wpAny_mono (turn n s hI) (fun r s₁ h₁ => ?_) fun _ _ q => q)))
  cases r with
  | none => exact wpAny_pure h₁
  | some v =>
    refine wpAny_bind (wpAny_of_eq (ht v) (wpAny_bind (wpAny_mono h₁ (fun _ s₂ h₂ => wpAny_bind (wpAny_bind (wpAny_mono h₂ (fun x s₃ h₃ => ?_) fun _ _ q => q))) fun _ _ q => q)))
    exact wpAny_bind (wpAny_standAt (wpAny_bind (wpAny_mono h₃ (fun _ s₄ h₄ => wpAny_pure (wpAny_pure ⟨rfl, h₄⟩)) fun _ _ q => q)))
noncomputable def SrcSet (prog : Program) (w : World) (A : Around) (h₀ : Heap) (L : Addr) (m : Str → Option Value) (env : Env) (elt : Expr) (x : Str) (scope : Scope) (cl : List (Str × Addr)) (Q : Value → Shared → Prop) (xv : Value) (s₁ : Shared) : Prop :=
  ∃ (rg : Addr) (u v t : Tok) (n : Nat) (f : Nat → List Nat) (news : List (Addr × Obj)), xv = .ref rg ∧ IsRange s₁.heap rg 0 (n : Int) 1 t u v ∧ A.handled = none ∧ n ≤ 4 ∧ Fr h₀ L s₁.heap m ∧ News h₀ L s₁.heap news ∧
    (∀ i t zs h tk C oC m₂ E', i < n → NsObj oC m₂ → m₂ x = some (.int (i : Nat) t) → Fr h₀ L h m → News h₀ L h ((C, oC) :: (news ++ zs)) →
      wpAny (model prog w) A (eval elt (compEnvC scope cl C env)) (fun y s₃ => ZEnd h₀ L m s₁ ((C, oC) :: (news ++ zs)) (∃ t, y = .str (T (f i)) t) s₃) E' { s₁ with heap := h, toks := tk }) ∧
    ∀ D o xs h tk, TextSet w o xs → (∀ y, y ∈ xs ↔ ∃ i, i < n ∧ y = f i) → xs.length ≤ n → Fr h₀ L h m → News h₀ L h ((D, o) :: news) → (∀ p ∈ news, p.1 ≠ D) → Q (.ref D) { s₁ with heap := h, toks := tk }
theorem small4 {n : Nat} (h : n ≤ 4) : Builtin.Range.small 0 (n : Int) 1 = true ∧ Builtin.Range.rangeSize 0 (n : Int) 1 = ((n : Nat) : Int) := by
  have : n = 0 ∨ n = 1 ∨ n = 2 ∨ n = 3 ∨ n = 4 := by omega
  rcases this with rfl | rfl | rfl | rfl | rfl <;> exact ⟨by decide, by decide⟩
theorem SetComp_R {elt iter : Expr} {x : Str} {px : Pos} {scope : Scope} {cl : List (Str × Addr)} {pos : Pos} {Q : Value → Shared → Prop} (_F₀ : Fr h₀ L s.heap m)
    (hclos : closureFor scope env = pure cl) (hcell : ∀ y ∈ scope.names, y.2 ≠ .cell) (hkind : scope.kind = .function)
    (hnames : ∀ y ∈ scope.names, y.2 = .local → scope.names.lookup y.1 = some .local) (hx : scope.names.lookup x = some .local)
    (h : wpAny (model prog w) A (eval iter env) (SrcSet prog w A h₀ L m env elt x scope cl Q) E s)
    (hs : ∀ x, foldedSetIterable iter env x = pure x := by intro _; rfl) :
    wpAny (model prog w) A (eval (.SetComp elt [⟨.Name x px, iter, [], 0⟩] scope pos) env) Q E s := by
  rw [eval_SetCompR]
  refine wpAny_comprehension_free (use := none) rfl hs hclos hkind hnames (wpAny_mono h (fun xv s₁ h₁ => ?_) fun _ _ e => e)
  obtain ⟨rg, u, v, t, n, f, news, rfl, hr, hh, hn4, F, N, turn, fin⟩ := h₁
  obtain ⟨hsm, hrs⟩ := small4 hn4
  refine wpAny_pyIter_range hr hsm ?_
  rw [hrs]
  have W := range_walks (prog := prog) (w := w) (I := s₁.heap.objs.size) hh 0 n
  obtain ⟨I, eI⟩ : ∃ I : Nat, I = s₁.heap.objs.size := ⟨_, rfl⟩
  refine new_T fun o hs0 hfree => ?_
  refine wpAny_newFunctionEnv hcell (by intro y hy; simp at hy) (fun h₁ hns₁ hsb₁ => ?_) hkind
  dsimp only at hns₁ hsb₁ ⊢
  generalize hH1 : s₁.heap.push { cls := Value.type "range_iterator", data := Data.fields #[rawInt 0, rawInt (n : Int), rawInt 1] } = H1 at hns₁ hsb₁ ⊢
  generalize hH2 : H1.push o = H2 at hns₁ hsb₁ ⊢
  have sz1 : H1.objs.size = s₁.heap.objs.size + 1 := by rw [← hH1, Heap.size_push]
  have sz2 : H2.objs.size = H1.objs.size + 1 := by rw [← hH2, Heap.size_push]
  obtain ⟨C, eC⟩ : ∃ C : Nat, C = H2.objs.size := ⟨_, rfl⟩
  obtain ⟨D, eD⟩ : ∃ D : Nat, D = H1.objs.size := ⟨_, rfl⟩
  have lt0 : ∀ {b : Nat} {o}, s₁.heap.get? b = some o → @LT.lt Nat _ b I := fun {b} {o} e => by have : @LT.lt Nat _ b s₁.heap.objs.size := Heap.lt_size e; omega
  have hDI : @Ne Nat D I := by omega
  have hCI : @Ne Nat C I := by omega
  have hCD : @Ne Nat C D := by omega
  have up1 : ∀ b o, s₁.heap.get? b = some o → H2.get? b = some o := fun b o e => hH2 ▸ Heap.get?_push_of_some _ (hH1 ▸ Heap.get?_push_of_some _ e)
  have up2 : ∀ b o, @Ne Nat b C → H2.get? b = some o → h₁.get? b = some o := fun b o hb e => hsb₁.extBut b o (by rw [← eC]; exact hb) (Heap.get?_push_of_some _ e)
  have old : ∀ b o, s₁.heap.get? b = some o → h₁.get? b = some o := fun b o e => up2 b o (by have := lt0 e; omega) (up1 b o e)
  have hI1 : h₁.get? I = some _ := up2 I _ (by omega) (hH2 ▸ Heap.get?_push_of_some _ (hH1 ▸ eI ▸ Heap.get?_push_size _ rfl))
  have hD1 : h₁.get? D = some o := up2 D _ (by omega) (hH2 ▸ eD ▸ Heap.get?_push_size _ hfree)
  have hLs : @LT.lt Nat _ L s₁.heap.objs.size := F.ns.lt
  have hab0 : @LE.le Nat _ h₀.objs.size L := F.above
  have none0 : ∀ b : Nat, s₁.heap.objs.size ≤ b → h₀.get? b = none := fun b hb => Heap.get?_none_of_le (show h₀.objs.size ≤ b by omega)
  have hI₀ : h₀.get? I = none := none0 _ (by omega)
  have hD₀ : h₀.get? D = none := none0 _ (by omega)
  have hC₀ : h₀.get? C = none := none0 _ (by omega)
  have hIL : @Ne Nat I L := by omega
  have hDL : @Ne Nat D L := by omega
  have hCL : @Ne Nat C L := by omega
  have hne : ∀ p ∈ news, @Ne Nat p.1 I ∧ @Ne Nat p.1 D ∧ @Ne Nat p.1 C := fun p hp => by have := lt0 (N p hp).1; exact ⟨by omega, by omega, by omega⟩
  rw [← eC] at hns₁ ⊢
  rw [← eD]
  rw [← eI] at W ⊢
  have F₁ : Fr h₀ L h₁ m := F.keeps old
  have N₁ : News h₀ L h₁ news := N.grown old
  have loop : ∀ s₃ : Shared, s₃ = { s₁ with heap := h₁, toks := s₁.toks + ([] : List (Str × Value)).length } →
      codeAny (model prog w) A (.compLoop (.SetComp elt [⟨.Name x px, iter, [], 0⟩] scope pos) 0 (.ref I) (.ref D) (compEnvC scope cl C env)) (compPost (model prog w) A E none Q (.ref D) C) s₃ := by
    rintro s₃ rfl
    refine setLoop (fun k s' => ∃ h' tk i m' o' xs, s' = { s₁ with heap := h', toks := tk } ∧ i ≤ n ∧ k = n + 1 - i ∧ IsRangeIter h' I (0 + (i : Nat) * 1) ((n : Int) - (i : Nat)) 1 ∧ Fr h₀ L h' m ∧ h'.Ns C m' ∧ News h₀ L h' news ∧ h'.get? D = some o' ∧ TextSet w o' xs ∧ (∀ y, y ∈ xs ↔ ∃ j, j < i ∧ y = f j) ∧ xs.length ≤ i) ?_ (n + 1)
      ⟨h₁, _, 0, _, o, [], rfl, Nat.zero_le _, rfl, by simpa using hI1, F₁, hns₁, N₁, hD1, hs0, fun y => ⟨fun q => absurd q List.not_mem_nil, fun ⟨j, q, _⟩ => absurd q (Nat.not_lt_zero _)⟩, Nat.le_refl _⟩
    rintro k s' ⟨h', tk, i, m', o', xs, rfl, hi, rfl, hst', F', hn', N', hD', hS', hm', hl'⟩
    by_cases hlt : i < n
    · refine W.item i _ _ _ hlt hst' fun vv h₂ tk₂ hP hst₂ hk₂ => ?_
      obtain ⟨tt, rfl⟩ := hP
      have k2 : ∀ b o, @Ne Nat b I → h'.get? b = some o → h₂.get? b = some o := fun b o hb e => hk₂ b o (by simpa using hb) e
      refine wpAny_assign_Name (wpAny_storeName_local (lookup_relabel_local hx) (hn'.at' fun o e => k2 _ o hCI e) (fun h₃ hn₃ hs₃ => ?_) (by simp [compEnvC, relabel, hkind]))
      have k3 : ∀ b o, @Ne Nat b I → @Ne Nat b C → h'.get? b = some o → h₃.get? b = some o := fun b o h1 h2 e => hs₃.extBut b o h2 (k2 b o h1 e)
      have hst₃ : IsRangeIter h₃ I (0 + ((i + 1 : Nat) : Int) * 1) ((n : Int) - ((i + 1 : Nat) : Int)) 1 := W.frame _ _ _ hst₂ fun b hb o e => hs₃.extBut b o (by rw [List.mem_singleton.mp hb]; exact Ne.symm hCI) e
      obtain ⟨oC, heC, hoC⟩ := ns_obj hn₃
      have F₃ : Fr h₀ L h₃ m := ⟨F'.ns.at' fun o e => k3 _ o hIL.symm hCL.symm e, fun b o e => k3 b o (fun q => by rw [q, hI₀] at e; cases e) (fun q => by rw [q, hC₀] at e; cases e) (F'.keep b o e), F'.above⟩
      have N₃ : News h₀ L h₃ ((C, oC) :: (news ++ [(I, _), (D, o')])) := fun p hp => by
        rcases List.mem_cons.mp hp with rfl | hp
        · exact ⟨heC, hCL, hC₀⟩
        · rcases List.mem_append.mp hp with hp | hp
          · have q := hne p hp
            exact ⟨k3 _ _ q.1 q.2.2 (N' p hp).1, (N' p hp).2⟩
          · rcases List.mem_cons.mp hp with rfl | hp
            · exact ⟨hst₃, hIL, hI₀⟩
            · rw [List.mem_singleton] at hp
              subst hp
              exact ⟨k3 _ _ hDI hCD.symm hD', hDL, hD₀⟩
      refine wpAny_mono (turn i tt _ h₃ _ C oC _ _ hlt hoC (by simp) F₃ N₃) (fun y s₄ h₄ => ?_) fun _ _ e => e
      obtain ⟨h₄, tk₄, rfl, F₄, N₄, ty, rfl⟩ := h₄
      have zI := (N₄ (I, _) (.tail _ (List.mem_append_right _ (.head _)))).1
      have zD := (N₄ (D, o') (.tail _ (List.mem_append_right _ (.tail _ (.head _))))).1
      have zC := (N₄ (C, oC) (.head _)).1
      have Nn₄ : News h₀ L h₄ news := fun p hp => N₄ p (.tail _ (List.mem_append_left _ hp))
      refine add_T zD hS' (by omega) fun h₅ o5 xs5 tk₅ sb hD5 hS5 hm5 hl5 => ?_
      refine ⟨n + 1 - (i + 1), by omega, h₅, tk₅, i + 1, _, o5, xs5, rfl, hlt, rfl, sb.extBut _ _ hDI.symm zI, F₄.change sb hDL hD₀, (hoC.ns zC).at' fun o e => sb.extBut _ o hCD e, fun p hp => ⟨sb.extBut _ _ (hne p hp).2.1 (Nn₄ p hp).1, (Nn₄ p hp).2⟩, hD5, hS5, fun y => ?_, by omega⟩
      rw [hm5, hm']
      constructor
      · rintro (⟨j, hj, e⟩ | e)
        · exact ⟨j, by omega, e⟩
        · exact ⟨i, by omega, e⟩
      · rintro ⟨j, hj, e⟩
        by_cases hji : j = i
        · subst hji; exact .inr e
        · exact .inl ⟨j, by omega, e⟩
    · have hin : i = n := Nat.le_antisymm hi (Nat.not_lt.mp hlt)
      subst hin
      refine W.done _ _ _ hst' fun h₂ tk₂ hk₂ => ?_
      have k2 : ∀ b o, @Ne Nat b I → h'.get? b = some o → h₂.get? b = some o := fun b o hb e => hk₂ b o (by simpa using hb) e
      refine ⟨m', hn'.at' fun o e => k2 _ o hCI e, fun h'' hs'' => ?_⟩
      have up : ∀ b o, @Ne Nat b I → @Ne Nat b C → h'.get? b = some o → h''.get? b = some o := fun b o c1 c2 e => hs''.extBut b o c2 (k2 b o c1 e)
      refine fin D o' xs h'' tk₂ hS' hm' hl' ⟨F'.ns.at' fun o e => up _ o hIL.symm hCL.symm e, fun b o e => up b o (fun q => by rw [q, hI₀] at e; cases e) (fun q => by rw [q, hC₀] at e; cases e) (F'.keep b o e), F'.above⟩ (fun p hp => ?_) fun p hp => (hne p hp).2.1
      rcases List.mem_cons.mp hp with rfl | hp
      · exact ⟨up _ _ hDI hCD.symm hD', hDL, hD₀⟩
      · have q := hne p hp
        exact ⟨up _ _ q.1 q.2.2 (N' p hp).1, (N' p hp).2⟩
  refine setStart (loop _ rfl) (W.self 0 _ _ _ (by simpa using hI1) (loop _ rfl))
end
end Mine
end
theorem Mine.walk_off_ST2 : True := by
  w_top off
  k_with_none
  trivial
section
open PySem PySem.W PyProof.Rows PySem.Calls PySem.Spec
set_option Elab.async false
set_option maxRecDepth 100000
set_option maxHeartbeats 8000000
namespace Mine
theorem slot_seti_next : Slot "set_iterator" "__next__" "set_iterator.__next__" :=
  .of (owner := "set_iterator") (n := "__next__") (by rw [typeLookup_type, builtinLookup_eq_fast]; kernel_rfl) (by decide +kernel) (by decide +kernel) (by decide +kernel)
    (by first | exact .inl (by decide +kernel) | exact .inr (by decide +kernel)) (by rw [isSubtype_type]; kernel_rfl)
theorem entry_seti_next : entryFor table "set_iterator.__next__" = some Builtin.«set_iterator.__next__» := entryFor_of_tree (by kernel_rfl)
theorem args_seti_next (a : Value) : argsOk "set_iterator.__next__" ⟨[a], []⟩ := by unfold argsOk; kernel_rfl
theorem slot_seti_iter : Slot "set_iterator" "__iter__" "set_iterator.__iter__" :=
  .of (owner := "set_iterator") (n := "__iter__") (by rw [typeLookup_type, builtinLookup_eq_fast]; kernel_rfl) (by decide +kernel) (by decide +kernel) (by decide +kernel)
    (by first | exact .inl (by decide +kernel) | exact .inr (by decide +kernel)) (by rw [isSubtype_type]; kernel_rfl)
theorem entry_seti_iter : entryFor table "set_iterator.__iter__" = some Builtin.«dict_keyiterator.__iter__» :=
  entryFor_alias (id' := "dict_keyiterator.__iter__") (by kernel_rfl) rfl (by decide +kernel) (by kernel_rfl)
theorem args_seti_iter (a : Value) : argsOk "set_iterator.__iter__" ⟨[a], []⟩ := by unfold argsOk; kernel_rfl
theorem entry_set_iter' : entryFor table "set.__iter__" = some Builtin.«frozenset.__iter__» :=
  entryFor_alias (id' := "frozenset.__iter__") (by kernel_rfl) rfl (by decide +kernel) (by kernel_rfl)
abbrev setObj (es : Array (Int × Value)) (ep : Nat) (t : SetTable) : Obj := { cls := .type "set", data := .set es ep t }
/-- a set's iterator, where it stands -/
noncomputable def SIt (h : Heap) (I D : Addr) (first : Value) (i n ep : Nat) : Prop := ∃ o, h.get? I = some o ∧ o.cls = .type "set_iterator" ∧ o.data = .fields #[first, .int (i : Int) 0, .ref D, .int (n : Int) 0, .int (ep : Int) 0]
theorem SIt.at {h h' : Heap} {I D : Addr} {first : Value} {i n ep : Nat} (x : SIt h I D first i n ep) (k : ∀ o, h.get? I = some o → h'.get? I = some o) : SIt h' I D first i n ep := by
  obtain ⟨o, e, r⟩ := x
  exact ⟨o, k o e, r⟩
/-- what the set answers at a place -/
noncomputable def NextIs (prog : Program) (w : World) (D : Addr) (o : Obj) (sl i ep : Nat) (r : Option (Value × Nat)) : Prop :=
  ∀ (A : Around) (E : Value → Shared → Prop) (s : Shared) (Q : Option (Value × Nat) → Shared → Prop), s.heap.get? D = some o → Q r s → wpAny (model prog w) A (setNext D sl i ep) Q E s
section
variable {prog : Program} {w : World} {A : Around} {E : Value → Shared → Prop} {s : Shared} {I D : Addr} {es : Array (Int × Value)} {ep i n : Nat} {t : SetTable}
theorem snext_item {sl sl' : Nat} {x : Value} {Q : Option Value → Shared → Prop} (hI : SIt s.heap I D (.int (sl : Int) 0) i n ep) (hD : s.heap.get? D = some (setObj es ep t)) (hf : t.fits es.size = true) (hn : es.size = n) (hN : NextIs prog w D (setObj es ep t) sl i ep (some (x, sl')))
    (hQ : ∀ h', SIt h' I D (.int (sl' : Int) 0) (i + 1) n ep → Heap.SameBut I s.heap h' → Q (some x) { s with heap := h' }) : wpAny (model prog w) A (pyNext (.ref I)) Q E s := by
  obtain ⟨o, ho, hc, hd⟩ := id hI
  unfold pyNext
  refine wpAny_bind (wpAny_attempt (wpAny_callSpecial?_slot (name := Str.ofString "__next__") ⟨o, ho, hc⟩ slot_seti_next
    (wpAny_call_entry slot_seti_next ⟨o, ho, hc⟩ entry_seti_next ?_ (args_seti_next _))))
  show wpAny _ _ (fieldsOf (.ref I) >>= _) _ _ s
  refine wpAny_bind (wpAny_fieldsOf ho hd ?_)
  show wpAny _ _ (setEntries D >>= _) _ _ s
  refine wpAny_bind (wpAny_setEntries_of hD rfl hf ?_)
  rw [if_neg (by rw [hn]; simp)]
  show wpAny _ _ (setNext D ((sl : Int).toNat) ((i : Int).toNat) ((ep : Int).toNat) >>= _) _ _ s
  rw [Int.toNat_natCast, Int.toNat_natCast, Int.toNat_natCast]
  refine wpAny_bind (hN _ _ s _ hD ?_)
  dsimp only
  have h1 := Heap.get?_update_self (Obj.mapFields (·.setIfInBounds 0 (rawInt (sl' : Int)))) ho (Obj.isFreed_of_fields (Obj.data_mapFields hd _))
  refine wpAny_bind (wpAny_setField ho hd (by simp) (wpAny_bind (wpAny_setField h1 (Obj.data_mapFields hd _) (by simp) (wpAny_pure ⟨x, rfl, wpAny_pure (hQ _ ?_ ?_)⟩))))
  · refine ⟨_, Heap.get?_update_self _ h1 (Obj.isFreed_of_fields (Obj.data_mapFields (Obj.data_mapFields hd _) _)), ?_, ?_⟩
    · rw [Obj.cls_mapFields, Obj.cls_mapFields]; exact hc
    · rw [Obj.data_mapFields (Obj.data_mapFields hd _)]
      simp [rawInt]
  · exact (Heap.SameBut.update ..).trans (Heap.SameBut.update ..)
theorem stopIter {A' : Around} {P : Fin → Shared → Prop} {Q : Option Value → Shared → Prop} (hh : A'.handled = none) (hQ : ∀ h', (∀ b o, s.heap.get? b = some o → h'.get? b = some o) → Q none { s with heap := h' }) :
    wpAny (model prog w) A' (newExc (.type "StopIteration") [] >>= fun e => (raiseNew e : Sem Fin)) P (fun e s' => wpAny (model prog w) A (do
      let b ← isInstance e (.type "StopIteration")
      if b = true then pure none else throw e) Q E s') s := by
  refine wpAny_bind ?_
  simp only [newExc, newTuple]
  refine wpAny_bind (wpAny_newObj_type ?_ (by size_fits))
  refine wpAny_bind (m := firstArgMember _ _) (wpAny_of_eq (a := Value.none) (by first | rfl | (simp only [firstArgMember]; rfl)) ?_)
  refine wpAny_newObj_type ?_ (by size_fits)
  simp only [raiseNew]
  refine wpAny_bind (wpAny_handled ?_)
  rw [hh]
  refine wpAny_bind (wpAny_pure (wpAny_throw ?_))
  refine wpAny_bind (wpAny_isInstance (T := "StopIteration") (b := true) ⟨_, Heap.get?_push_size _ rfl, rfl⟩ isSubtype_stop ?_)
  exact wpAny_pure (hQ _ fun b o e => Heap.get?_push_of_some _ (Heap.get?_push_of_some _ e))
theorem snext_end {sl : Nat} {Q : Option Value → Shared → Prop} (hh : A.handled = none) (hI : SIt s.heap I D (.int (sl : Int) 0) i n ep) (hD : s.heap.get? D = some (setObj es ep t)) (hf : t.fits es.size = true) (hn : es.size = n) (hN : NextIs prog w D (setObj es ep t) sl i ep none)
    (hQ : ∀ h', (∀ b o, b ≠ I → s.heap.get? b = some o → h'.get? b = some o) → Q none { s with heap := h' }) : wpAny (model prog w) A (pyNext (.ref I)) Q E s := by
  obtain ⟨o, ho, hc, hd⟩ := id hI
  unfold pyNext
  refine wpAny_bind (wpAny_attempt (wpAny_callSpecial?_slot (name := Str.ofString "__next__") ⟨o, ho, hc⟩ slot_seti_next
    (wpAny_call_entry slot_seti_next ⟨o, ho, hc⟩ entry_seti_next ?_ (args_seti_next _))))
  show wpAny _ _ (fieldsOf (.ref I) >>= _) _ _ s
  refine wpAny_bind (wpAny_fieldsOf ho hd ?_)
  show wpAny _ _ (setEntries D >>= _) _ _ s
  refine wpAny_bind (wpAny_setEntries_of hD rfl hf ?_)
  rw [if_neg (by rw [hn]; simp)]
  show wpAny _ _ (setNext D ((sl : Int).toNat) ((i : Int).toNat) ((ep : Int).toNat) >>= _) _ _ s
  rw [Int.toNat_natCast, Int.toNat_natCast, Int.toNat_natCast]
  refine wpAny_bind (hN _ _ s _ hD ?_)
  dsimp only
  refine wpAny_bind (wpAny_setField ho hd (by simp) ?_)
  exact stopIter (by first | exact hh | (rw [show A.in1.handled = none from hh])) fun h' k => hQ h' fun b o hb e => k b o ((Heap.SameBut.update ..).extBut b o hb e)
end
end Mine
end
theorem Mine.walk_off_ST3 : True := by
  w_top off
  k_with_none
  trivial
section
open PySem PySem.W PyProof.Rows PySem.Calls PySem.Spec
set_option Elab.async false
set_option maxRecDepth 100000
set_option maxHeartbeats 8000000
namespace Mine
theorem eraseIdx_perm {α : Type} : ∀ (l : List α) (i : Nat) (x : α), l[i]? = some x → (x :: l.eraseIdx i).Perm l
  | [], _, _, h => by simp at h
  | a :: l, 0, x, h => by
    have e : a = x := by simpa using h
    subst e
    exact List.Perm.refl _
  | a :: l, i + 1, x, h => by
    have q := eraseIdx_perm l i x (by simpa using h)
    rw [List.eraseIdx_cons_succ]
    exact (List.Perm.swap _ _ _).trans (q.cons a)
theorem pick_go {α : Type} (next : Nat → Nat) : ∀ (fuel k : Nat) (left : List α) (out : Array α), left.length = fuel → (pickOrder.go next fuel k left out).toList.Perm (out.toList ++ left)
  | 0, k, left, out, h => by
    rw [List.length_eq_zero_iff.mp h]
    simp [pickOrder.go]
  | fuel + 1, k, left, out, h => by
    unfold pickOrder.go
    have hlt : next k % left.length < left.length := Nat.mod_lt _ (by omega)
    rw [List.getElem?_eq_getElem hlt]
    dsimp only
    have he := eraseIdx_perm left _ _ (List.getElem?_eq_getElem hlt)
    refine (pick_go next fuel (k + 1) _ _ (by rw [List.length_eraseIdx_of_lt hlt]; omega)).trans ?_
    rw [Array.toList_push, List.append_assoc]
    exact List.Perm.append_left _ he
theorem pick_perm {α : Type} (next : Nat → Nat) (xs : Array α) : (pickOrder next xs).toList.Perm xs.toList := by
  have := pick_go next xs.size 0 xs.toList #[] (by simp)
  simpa [pickOrder] using this
section
variable {prog : Program} {w : World} {A : Around} {E : Value → Shared → Prop} {s : Shared} {I D : Addr} {es : Array (Int × Value)} {ep i n : Nat} {t : SetTable}
theorem choose_T {src : Source} {n : Nat} {Q : Nat → Shared → Prop} (hn : n ≠ 0) (h : ∀ k d, k < n → Q k { s with drawn := d }) : wpAny (model prog w) A (choose src n) Q E s := fun Γ p hΓ => by
  unfold choose
  rw [Sem.wp_choose]
  refine ⟨hn, ?_⟩
  exact h _ _ (Nat.mod_lt _ (Nat.pos_of_ne_zero hn))
theorem drawOrder_T {α : Type} : ∀ (n : Nat) (xs : List α) (s : Shared) (Q : List α → Shared → Prop), xs.length = n → (∀ ys d, ys.Perm xs → Q ys { s with drawn := d }) → wpAny (model prog w) A (drawOrder n xs) Q E s
  | 0, xs, s, Q, hn, h => by
    obtain rfl := List.length_eq_zero_iff.mp hn
    exact wpAny_pure (h [] s.drawn (List.Perm.refl _))
  | n + 1, [], s, Q, hn, h => by simp at hn
  | n + 1, x :: xs, s, Q, hn, h => by
    unfold drawOrder
    refine wpAny_bind (choose_T (by simp) fun k d hk => ?_)
    rw [List.getElem?_eq_getElem hk]
    dsimp only
    refine wpAny_bind (drawOrder_T n _ _ _ (by rw [List.length_eraseIdx_of_lt hk, hn]; omega) fun ys d' hp => wpAny_pure ?_)
    exact h _ d' ((List.Perm.cons _ hp).trans (eraseIdx_perm _ _ _ (List.getElem?_eq_getElem hk)))
theorem byText_T {Q : Bool → Shared → Prop} (h : Q (w.params.followText "set-order") s) : wpAny (model prog w) A setsByText Q E s := by
  unfold setsByText
  exact wpAny_bind (wpAny_askSetting (wpAny_pure h))
theorem next_byText (hb : w.params.followText "set-order" = true) (hf : t.fits es.size = true) (sl i : Nat) : NextIs prog w D (setObj es ep t) sl i ep (((pickOrder (w.params.setOrder D ep) es)[i]?).map fun e => (e.2, sl)) := by
  intro A E s Q hD h
  unfold setNext
  refine wpAny_bind (wpAny_setState_of hD rfl hf ?_)
  dsimp only
  refine wpAny_bind (byText_T ?_)
  rw [if_pos hb]
  simp only [bne_self_eq_false, Bool.false_eq_true, if_false]
  refine wpAny_bind ?_
  unfold setWalk
  refine wpAny_bind (wpAny_setState_of hD rfl hf ?_)
  dsimp only
  refine wpAny_bind (byText_T ?_)
  rw [if_pos hb]
  refine wpAny_bind (wpAny_askSetting (wpAny_pure (wpAny_pure ?_)))
  exact h
theorem next_slot (hb : w.params.followText "set-order" = false) (hf : t.fits es.size = true) (h1 : es.size ≤ 1) (hl : t.led = true) (sl i : Nat) : NextIs prog w D (setObj es ep t) sl i ep (match es[SetTable.below t.place sl]?, t.place[SetTable.below t.place sl]? with | some (_, x), some j => some (x, j + 1) | _, _ => none) := by
  intro A E s Q hD h
  unfold setNext
  refine wpAny_bind (wpAny_setState_of hD rfl hf ?_)
  dsimp only
  refine wpAny_bind (byText_T ?_)
  rw [if_neg (by rw [hb]; decide)]
  show wpAny _ _ (if (!t.plain && decide (es.size > 1)) = true then _ else _) _ _ _
  rw [if_neg (by simp only [Bool.and_eq_true, decide_eq_true_eq, not_and]; intro _; omega)]
  refine wpAny_bind (show wpAny _ _ (if (!t.led && !es.isEmpty) = true then _ else _) _ _ _ from ?_)
  rw [if_neg (by rw [hl]; simp)]
  exact wpAny_pure (wpAny_pure h)
end
theorem below_lo (p : Nat) : SetTable.below #[p] 0 = 0 := by
  unfold SetTable.below
  show SetTable.below.go #[p] 0 1 0 1 = 0
  unfold SetTable.below.go
  simp [SetTable.below.go]
theorem below_hi (p : Nat) : SetTable.below #[p] (p + 1) = 1 := by
  unfold SetTable.below
  show SetTable.below.go #[p] (p + 1) 1 0 1 = 1
  unfold SetTable.below.go
  simp [SetTable.below.go]
end Mine
end
theorem Mine.walk_off_ST4 : True := by
  w_top off
  k_with_none
  trivial
section
open PySem PySem.W PyProof.Rows PySem.Calls PySem.Spec
set_option Elab.async false
set_option maxRecDepth 100000
set_option maxHeartbeats 8000000
namespace Mine
section
variable {prog : Program} {w : World} {A : Around} {E : Value → Shared → Prop} {s : Shared} {I D P : Addr} {es : Array (Int × Value)} {ep i n : Nat} {t : SetTable}
theorem siter_self {first : Value} {Q : Value → Shared → Prop} (hI : SIt s.heap I D first i n ep) (h : Q (.ref I) s) : wpAny (model prog w) A (pyIter (.ref I)) Q E s := by
  obtain ⟨o, ho, hc, hd⟩ := hI
  refine wpAny_pyIter_slot ⟨o, ho, hc⟩ slot_seti_iter (wpAny_call_entry slot_seti_iter ⟨o, ho, hc⟩ entry_seti_iter ?_ (args_seti_iter _))
  show wpAny _ _ (ret (.ref I)) _ _ s
  exact wpAny_pure ⟨_, rfl, "set_iterator", _, ⟨o, ho, hc⟩, slot_seti_next.lookup, h⟩
theorem walks_int (hh : A.handled = none) (hDI : D ≠ I) (hf : t.fits es.size = true) (hn : es.size = n) (nx : Nat → Nat) (ord : List Value)
    (hitem : ∀ i, i < n → ∃ x, ord[i]? = some x ∧ NextIs prog w D (setObj es ep t) (nx i) i ep (some (x, nx (i + 1)))) (hend : NextIs prog w D (setObj es ep t) (nx n) n ep none) :
    Walks prog w A I [I, D] [I] n (fun i v => ord[i]? = some v) (fun i h => SIt h I D (.int (nx i : Int) 0) i n ep ∧ h.get? D = some (setObj es ep t)) where
  sub := fun b hb => by simp at hb; simp [hb]
  frame := fun _ _ _ st hk => ⟨st.1.at fun o e => hk I (by simp) o e, hk D (by simp) _ st.2⟩
  item := fun i s Q E hi st hQ => by
    obtain ⟨x, hx, hN⟩ := hitem i hi
    exact snext_item st.1 st.2 hf hn hN fun h' hI' sb => hQ x h' s.toks hx ⟨hI', sb.extBut _ _ hDI st.2⟩ fun b o hb e => sb.extBut b o (by simpa using hb) e
  done := fun s Q E st hQ => snext_end hh st.1 st.2 hf hn hend fun h' k => hQ h' s.toks fun b o hb e => k b o (by simpa using hb) e
  self := fun _ _ _ _ st hQ => siter_self st.1 hQ
theorem dnext_item {k : Nat} {its : Array Value} {e : Int × Value} {Q : Option Value → Shared → Prop} (hI : SIt s.heap I D (.ref P) i n ep) (hD : s.heap.get? D = some (setObj es ep t)) (hP : s.heap.IsTuple P its) (hf : t.fits es.size = true) (hn : es.size = n) (hk : its[i]? = some (.int (k : Int) 0)) (he : es[k]? = some e)
    (hQ : ∀ h', SIt h' I D (.ref P) (i + 1) n ep → Heap.SameBut I s.heap h' → Q (some e.2) { s with heap := h' }) : wpAny (model prog w) A (pyNext (.ref I)) Q E s := by
  obtain ⟨o, ho, hc, hd⟩ := id hI
  obtain ⟨oP, eP, _, nP, dP⟩ := id hP
  unfold pyNext
  refine wpAny_bind (wpAny_attempt (wpAny_callSpecial?_slot (name := Str.ofString "__next__") ⟨o, ho, hc⟩ slot_seti_next
    (wpAny_call_entry slot_seti_next ⟨o, ho, hc⟩ entry_seti_next ?_ (args_seti_next _))))
  show wpAny _ _ (fieldsOf (.ref I) >>= _) _ _ s
  refine wpAny_bind (wpAny_fieldsOf ho hd ?_)
  show wpAny _ _ (setEntries D >>= _) _ _ s
  refine wpAny_bind (wpAny_setEntries_of hD rfl hf ?_)
  rw [if_neg (by rw [hn]; simp)]
  show wpAny _ _ (seqItems? (.ref P) >>= _) _ _ s
  refine wpAny_bind (wpAny_seqItems eP dP ?_)
  dsimp only
  rw [Int.toNat_natCast, hk]
  dsimp only
  rw [Int.toNat_natCast, Int.toNat_natCast]
  refine wpAny_bind ?_
  unfold setNextDrawn
  refine wpAny_bind (wpAny_setState_of hD rfl hf ?_)
  dsimp only
  simp only [bne_self_eq_false, Bool.false_eq_true, if_false]
  rw [he]
  dsimp only
  refine wpAny_pure ?_
  refine wpAny_bind (wpAny_setField ho hd (by simp) (wpAny_pure ⟨_, rfl, wpAny_pure (hQ _ ?_ (Heap.SameBut.update ..))⟩))
  refine ⟨_, Heap.get?_update_self _ ho (Obj.isFreed_of_fields (Obj.data_mapFields hd _)), (Obj.cls_mapFields ..).trans hc, ?_⟩
  rw [Obj.data_mapFields hd]
  simp [rawInt]
theorem dnext_end {its : Array Value} {Q : Option Value → Shared → Prop} (hh : A.handled = none) (hI : SIt s.heap I D (.ref P) i n ep) (hD : s.heap.get? D = some (setObj es ep t)) (hP : s.heap.IsTuple P its) (hf : t.fits es.size = true) (hn : es.size = n) (hk : its[i]? = none)
    (hQ : ∀ h', (∀ b o, b ≠ I → s.heap.get? b = some o → h'.get? b = some o) → Q none { s with heap := h' }) : wpAny (model prog w) A (pyNext (.ref I)) Q E s := by
  obtain ⟨o, ho, hc, hd⟩ := id hI
  obtain ⟨oP, eP, _, nP, dP⟩ := id hP
  unfold pyNext
  refine wpAny_bind (wpAny_attempt (wpAny_callSpecial?_slot (name := Str.ofString "__next__") ⟨o, ho, hc⟩ slot_seti_next
    (wpAny_call_entry slot_seti_next ⟨o, ho, hc⟩ entry_seti_next ?_ (args_seti_next _))))
  show wpAny _ _ (fieldsOf (.ref I) >>= _) _ _ s
  refine wpAny_bind (wpAny_fieldsOf ho hd ?_)
  show wpAny _ _ (setEntries D >>= _) _ _ s
  refine wpAny_bind (wpAny_setEntries_of hD rfl hf ?_)
  rw [if_neg (by rw [hn]; simp)]
  show wpAny _ _ (seqItems? (.ref P) >>= _) _ _ s
  refine wpAny_bind (wpAny_seqItems eP dP ?_)
  dsimp only
  rw [Int.toNat_natCast, hk]
  dsimp only
  have h1 := Heap.get?_update_self (Obj.mapFields (·.setIfInBounds 0 (rawInt 0))) ho (Obj.isFreed_of_fields (Obj.data_mapFields hd _))
  refine wpAny_bind (wpAny_setField ho hd (by simp) (wpAny_bind (wpAny_setField h1 (Obj.data_mapFields hd _) (by simp) ?_)))
  exact stopIter (by first | exact hh | (rw [show A.in1.handled = none from hh])) fun h' k => hQ h' fun b o hb e => k b o (((Heap.SameBut.update ..).trans (Heap.SameBut.update ..)).extBut b o hb e)
noncomputable def places (ys : List Nat) : Array Value := (ys.map fun (k : Nat) => Value.int (k : Int) 0).toArray
noncomputable def drawnOf (es : Array (Int × Value)) (ys : List Nat) : List Value := ys.filterMap fun k => es[k]?.map (·.2)
theorem drawnOf_at {es : Array (Int × Value)} {ys : List Nat} (hp : ∀ k ∈ ys, k < es.size) : drawnOf es ys = ys.map fun k => (es[k]?.map (·.2)).getD .none := by
  unfold drawnOf
  induction ys with
  | nil => rfl
  | cons y ys ih =>
    have hy := hp y (.head _)
    rw [List.filterMap_cons, Array.getElem?_eq_getElem hy]
    simp only [Option.map_some, List.map_cons, Option.getD_some]
    rw [ih fun k hk => hp k (.tail _ hk)]
    congr 1
    rw [Array.getElem?_eq_getElem hy]
    rfl
theorem walks_drawn (hh : A.handled = none) (hDI : D ≠ I) (hPI : P ≠ I) (hf : t.fits es.size = true) (hn : es.size = n) (ys : List Nat) (hy : ys.length = n) (hp : ∀ k ∈ ys, k < es.size) :
    Walks prog w A I [I, D, P] [I] n (fun i v => (drawnOf es ys)[i]? = some v) (fun i h => SIt h I D (.ref P) i n ep ∧ h.get? D = some (setObj es ep t) ∧ h.IsTuple P (places ys)) where
  sub := fun b hb => by simp at hb; simp [hb]
  frame := fun _ _ _ st hk => ⟨st.1.at fun o e => hk I (by simp) o e, hk D (by simp) _ st.2.1, by obtain ⟨oP, eP, r⟩ := st.2.2; exact ⟨oP, hk P (by simp) _ eP, r⟩⟩
  item := fun i s Q E hi st hQ => by
    have hi' : i < ys.length := by omega
    have hk : (places ys)[i]? = some (.int ((ys[i] : Nat) : Int) 0) := by simp [places, hi']
    have hlt := hp ys[i] (List.getElem_mem hi')
    refine dnext_item st.1 st.2.1 st.2.2 hf hn hk (Array.getElem?_eq_getElem hlt) fun h' hI' sb => hQ _ h' s.toks ?_ ⟨hI', sb.extBut _ _ hDI st.2.1, by obtain ⟨oP, eP, r⟩ := st.2.2; exact ⟨oP, sb.extBut _ _ hPI eP, r⟩⟩ fun b o hb e => sb.extBut b o (by simpa using hb) e
    rw [drawnOf_at hp, List.getElem?_map, List.getElem?_eq_getElem hi']
    simp only [Option.map_some]
    rw [Array.getElem?_eq_getElem hlt]
    rfl
  done := fun s Q E st hQ => dnext_end hh st.1 st.2.1 st.2.2 hf hn (by simp [places]; omega) fun h' k => hQ h' s.toks fun b o hb e => k b o (by simpa using hb) e
  self := fun _ _ _ _ st hQ => siter_self st.1 hQ
theorem iter_T {Q : Value → Shared → Prop} (hD : s.heap.get? D = some (setObj es ep t)) (hf : t.fits es.size = true)
    (h1 : (!w.params.followText "set-order" && (!t.plain && decide (es.size > 1))) = false → Q (.ref s.heap.objs.size) { s with heap := s.heap.push { cls := .type "set_iterator", data := .fields #[.int 0 0, .int 0 0, .ref D, .int (es.size : Int) 0, .int (ep : Int) 0] } })
    (h2 : w.params.followText "set-order" = false → ∀ ys d, ys.Perm (List.range es.size) → Q (.ref (s.heap.objs.size + 1)) { s with heap := (s.heap.push { cls := .type "tuple", data := .seq (places ys) }).push { cls := .type "set_iterator", data := .fields #[.ref s.heap.objs.size, .int 0 0, .ref D, .int (es.size : Int) 0, .int (ep : Int) 0] }, drawn := d })
    (hsz : es.size ≤ 1000) : wpAny (model prog w) A (pyIter (.ref D)) Q E s := by
  refine wpAny_pyIter_slot ⟨_, hD, rfl⟩ F.slot_set_iter (wpAny_call_entry F.slot_set_iter ⟨_, hD, rfl⟩ entry_set_iter' ?_ (F.args_set_iter_1 _))
  show wpAny _ _ (Builtin.Frozenset.sizeOf D >>= _) _ _ s
  unfold Builtin.Frozenset.sizeOf
  refine wpAny_bind (wpAny_bind (wpAny_setEntries_of hD rfl hf (wpAny_pure ?_)))
  refine wpAny_bind ?_
  unfold setDrawn
  refine wpAny_bind (wpAny_setState_of hD rfl hf ?_)
  dsimp only
  refine wpAny_bind (byText_T (wpAny_pure ?_))
  show wpAny _ _ (if (!w.params.followText "set-order" && (!t.plain && decide (es.size > 1))) = true then _ else _) _ _ s
  cases hc : (!w.params.followText "set-order" && (!t.plain && decide (es.size > 1))) with
  | false =>
    rw [if_neg (by decide)]
    refine wpAny_bind (wpAny_pure ?_)
    refine wpAny_bind (wpAny_setEpoch_of hD rfl hf ?_)
    exact wpAny_bind (wpAny_newObj_type (wpAny_pure ⟨_, rfl, "set_iterator", _, ⟨_, Heap.get?_push_size _ rfl, rfl⟩, slot_seti_next.lookup, h1 hc⟩))
  | true =>
    have hb : w.params.followText "set-order" = false := by
      cases q : w.params.followText "set-order" with
      | false => rfl
      | true => rw [q] at hc; simp at hc
    rw [if_pos rfl]
    refine wpAny_bind (drawOrder_T _ _ _ _ List.length_range fun ys d hp => ?_)
    have hl : ys.length ≤ 1000 := by rw [hp.length_eq, List.length_range]; exact hsz
    have e1 : (ys.map fun (i : Nat) => rawInt (i : Int)).toArray = places ys := rfl
    refine wpAny_bind (wpAny_newTuple ?_ (by rw [List.length_map, sizeLine_eq]; omega))
    refine wpAny_bind (wpAny_setEpoch_of (Heap.get?_push_of_some _ hD) rfl hf ?_)
    refine wpAny_bind (wpAny_newObj_type (wpAny_pure ⟨_, rfl, "set_iterator", _, ⟨_, Heap.get?_push_size _ rfl, rfl⟩, slot_seti_next.lookup, ?_⟩))
    have := h2 hb ys d hp
    rw [show (s.heap.push { cls := Value.type "tuple", data := Data.seq (List.map (fun (i : Nat) => rawInt (i : Int)) ys).toArray }).objs.size = s.heap.objs.size + 1 from Heap.size_push ..]
    exact this
end
end Mine
end
theorem Mine.walk_off_ST5 : True := by
  w_top off
  k_with_none
  trivial
section
open PySem PySem.W PyProof.Rows PySem.Calls PySem.Spec
set_option Elab.async false
set_option maxRecDepth 100000
set_option maxHeartbeats 8000000
namespace Mine
theorem tl_of {w : World} {es : Array (Int × Value)} {t : SetTable} {xs : List (List Nat)} (H : TextTab w es t xs) {l : List (Int × Value)} (p : l.Perm es.toList) : TL (l.map (·.2)) (l.map fun e => txt e.2) ∧ (l.map fun e => txt e.2).Perm xs := by
  refine ⟨?_, by rw [H.eq]; exact p.map _⟩
  have hall : ∀ e ∈ l, IsTe w e := fun e he => H.all e (p.mem_iff.mp he)
  clear p
  induction l with
  | nil => exact TL.nil
  | cons e l ih =>
    obtain ⟨x, u, rfl⟩ := hall e (.head _)
    rw [List.map_cons, List.map_cons, txt_T]
    exact (ih fun e he => hall e (.tail _ he)).cons x u
theorem drawn_perm {es : Array (Int × Value)} {ys : List Nat} (p : ys.Perm (List.range es.size)) : ∃ l : List (Int × Value), l.Perm es.toList ∧ drawnOf es ys = l.map (·.2) := by
  refine ⟨ys.filterMap fun k => es[k]?, ?_, ?_⟩
  · have := p.filterMap fun k => es[k]?
    rw [filterMap_getElem?_range] at this
    exact this
  · unfold drawnOf
    rw [List.map_filterMap]
theorem items_eq {acc : Array Value} {ord : List Value} {n : Nat} (h : ItemsOf (fun i v => ord[i]? = some v) acc n) (hn : ord.length = n) : acc.toList = ord := by
  refine List.ext_getElem (by rw [Array.length_toList, h.1, hn]) fun i h1 h2 => ?_
  have h1' : i < acc.size := by simpa using h1
  have this : ord[i]? = some acc[i] := h.2 i acc[i] (by simp [h1'])
  rw [List.getElem?_eq_getElem h2] at this
  simpa using (Option.some.inj this).symm
section
variable {prog : Program} {w : World} {A : Around} {E : Value → Shared → Prop} {s : Shared} {S D : Addr} {es : Array (Int × Value)} {ep : Nat} {t : SetTable} {xs : List (List Nat)} {R : Result → Shared → Prop}
theorem hint_T {Q : Bool → Shared → Prop} (hT : s.TypeIs (.ref D) "set") (h : Q false s) : wpAny (model prog w) A (Builtin.List.listLengthHint (.ref D)) Q E s := by
  unfold Builtin.List.listLengthHint
  refine wpAny_bind (wpAny_specialOf hT F.slot_set_len.lookup ?_)
  generalize hid : ("set.__len__" : String) = id0
  (fail_if_success (clear hid id0))
  wp_delta
  rw [show splitId id0 = some ("set", "__len__") from by subst hid; decide +kernel]
  subst hid
  refine wpAny_bind (wpAny_isInstance (b := true) hT (by rw [isSubtype_type]; kernel_rfl) ?_)
  rw [if_neg (by decide)]
  rw [if_pos (by decide +kernel)]
  refine wpAny_bind (wpAny_typeOf hT ?_)
  exact wpAny_pure h
theorem touch_T {Q : Unit → Shared → Prop} (hS : s.heap.get? S = some { cls := .type "list", dict := none, data := .seq #[] 0, slots := #[] }) (h : ∀ h' c, Heap.SameBut S s.heap h' → h'.get? S = some { cls := .type "list", dict := none, data := .seq #[] c, slots := #[] } → Q () { s with heap := h' }) : wpAny (model prog w) A (Builtin.List.listTouch (.ref S)) Q E s := by
  show wpAny _ A (updateSeq S (·.push .none) >>= fun _ => updateSeq S (·.pop)) _ _ s
  refine wpAny_bind (wpAny_updateSeq hS rfl ?_)
  have h2 := Heap.get?_update_self (Obj.mapSeq (·.push Value.none)) hS rfl
  exact wpAny_updateSeq h2 rfl (h _ _ ((Heap.SameBut.update ..).trans (Heap.SameBut.update ..)) (Heap.get?_update_self (Obj.mapSeq (·.pop)) h2 rfl))
theorem setIadd_T (hh : A.handled = none) (hS : s.heap.get? S = some { cls := .type "list", dict := none, data := .seq #[] 0, slots := #[] }) (hD : s.heap.get? D = some (setObj es ep t)) (H : TextTab w es t xs) (hz : xs.length ≤ 100)
    (hR : ∀ h' tk d vs xs' c, (∀ b o, b ≠ S → s.heap.get? b = some o → h'.get? b = some o) → h'.get? S = some { cls := .type "list", dict := none, data := .seq (List.toArray vs) c, slots := #[] } → TL vs xs' → xs'.Perm xs → R (.ok (.ret (.ref S))) { s with heap := h', toks := tk, drawn := d }) :
    codeAny (model prog w) A (.builtin "list.__iadd__" ⟨[.ref S, .ref D], []⟩) R s := by
  have hSD : S ≠ D := fun e => by
    rw [e, hD] at hS
    exact absurd (congrArg Obj.cls (Option.some.inj hS)) (by simp)
  have hlen := H.len
  have hSz : @LT.lt Nat _ S s.heap.objs.size := Heap.lt_size hS
  have hDz : @LT.lt Nat _ D s.heap.objs.size := Heap.lt_size hD
  refine codeAny_builtin F.entry_list_iadd ?_
  rw [Around.under_plainId F.plain_list_iadd _]
  show wpAny _ A.in1 (Builtin.List.listExtendWith (.ref S) (.ref D) (.ref S)) _ _ s
  unfold Builtin.List.listExtendWith
  refine wpAny_bind (wpAny_typeOf (T := "set") ⟨_, hD, rfl⟩ ?_)
  rw [if_neg (by rw [show Builtin.List.listSameRef (.ref S) (.ref D) = false from by simp [Builtin.List.listSameRef, hSD]]; decide)]
  have tail : ∀ (I : Addr) (fp : List Addr) (St : Nat → Heap → Prop) (s₂ : Shared) (ord : List Value) (xs' : List (List Nat)) (c : Nat), Walks prog w A.in1 I fp [I] es.size (fun i v => ord[i]? = some v) St → ord.length = es.size → S ∉ fp → St 0 s₂.heap → s.heap.get? I = none → TL ord xs' → xs'.Perm xs →
      (∃ h d, s₂ = { s with heap := h, drawn := d }) → (∀ b o, b ≠ S → s.heap.get? b = some o → s₂.heap.get? b = some o) → s₂.heap.get? S = some { cls := .type "list", dict := none, data := .seq #[] c, slots := #[] } →
      codeAny (model prog w) A (.builtin "list.extend.loop" ⟨[.ref S, .ref I, .ref S], []⟩) R s₂ := by
    intro I fp St s₂ ord xs' c W hord hSf hst hI hT hp hs₂ hk hS₂
    obtain ⟨h, d, rfl⟩ := hs₂
    refine codeAny_extend_loopS W.toS (by rw [sizeLine_eq]; omega) S hSf _ es.size 0 _ _ _ rfl (Nat.zero_le _) hst hS₂ (ItemsOf.nil _) fun s' acc' c' hm hS' hacc => ?_
    obtain ⟨mh, mg, md, mo, mt⟩ := hm
    obtain ⟨h', g', d', tk', o'⟩ := s'
    dsimp only at mh mg md mo mt hS' ⊢
    subst mg md mo
    have he := items_eq hacc hord
    refine hR h' tk' _ ord xs' c' (fun b o hb e => mh b o (fun hm => ?_) (hk b o hb e)) ?_ hT hp
    · rcases List.mem_cons.mp hm with q | q
      · exact hb q
      · rw [List.mem_singleton.mp q, hI] at e; cases e
    · rw [← he, Array.toArray_toList]; exact hS'
  refine wpAny_bind (iter_T hD H.fit (fun hm => ?_) (fun hb ys d hp => ?_) (by omega))
  · have up : ∀ b o, s.heap.get? b = some o → (s.heap.push { cls := Value.type "set_iterator", data := Data.fields #[.int 0 0, .int 0 0, .ref D, .int (es.size : Int) 0, .int (ep : Int) 0] }).get? b = some o := fun b o e => Heap.get?_push_of_some _ e
    refine wpAny_bind (wpAny_holding (hint_T ⟨_, up _ _ hD, rfl⟩ ?_))
    rw [if_pos (by decide +kernel)]
    refine wpAny_bind (wpAny_rule (wpAny_bind (touch_T (up _ _ hS) fun h' c sb hS' => ?_)))
    refine wpAny_pure ⟨plainId_quiet F.plain_extend_loop _, ?_⟩
    have hI₀ : s.heap.get? s.heap.objs.size = none := Heap.get?_none_of_le (Nat.le_refl _)
    have hIS : @Ne Nat s.heap.objs.size S := Nat.ne_of_gt hSz
    have hIt : SIt h' s.heap.objs.size D (.int ((0 : Nat) : Int) 0) 0 es.size ep := ⟨_, sb.extBut _ _ hIS (Heap.get?_push_size _ rfl), rfl, rfl⟩
    have hD' : h'.get? D = some (setObj es ep t) := sb.extBut _ _ hSD.symm (up _ _ hD)
    have hk : ∀ b o, b ≠ S → s.heap.get? b = some o → h'.get? b = some o := fun b o hb e => sb.extBut b o hb (up b o e)
    cases hb : w.params.followText "set-order" with
    | true =>
      have pp := pick_perm (w.params.setOrder D ep) es
      obtain ⟨hT, hP⟩ := tl_of H pp
      have hol : ((pickOrder (w.params.setOrder D ep) es).toList.map (·.2)).length = es.size := by rw [List.length_map, pp.length_eq, Array.length_toList]
      refine tail _ [s.heap.objs.size, D] _ _ _ _ c (walks_int (n := es.size) (ep := ep) (by exact hh) (show @Ne Nat D s.heap.objs.size from Nat.ne_of_lt hDz) H.fit rfl (fun _ => 0) _ (fun i hi => ?_) ?_) hol (fun hm => ?_) ⟨hIt, hD'⟩ hI₀ hT hP ⟨h', s.drawn, rfl⟩ hk hS'
      · have hlt : i < (pickOrder (w.params.setOrder D ep) es).size := by rw [← Array.length_toList, pp.length_eq, Array.length_toList]; exact hi
        refine ⟨(pickOrder (w.params.setOrder D ep) es)[i].2, by simp [hlt], ?_⟩
        have := next_byText (prog := prog) (D := D) (ep := ep) hb H.fit 0 i
        rw [Array.getElem?_eq_getElem hlt] at this
        exact this
      · have := next_byText (prog := prog) (D := D) (ep := ep) hb H.fit 0 es.size
        rw [Array.getElem?_eq_none (by rw [← Array.length_toList, pp.length_eq, Array.length_toList]; exact Nat.le_refl _)] at this
        exact this
      · rcases List.mem_cons.mp hm with q | q
        · exact hIS q.symm
        · exact hSD (List.mem_singleton.mp q)
    | false =>
      have h1 : es.size ≤ 1 := by
        rw [hb] at hm
        rcases H.plain with q | q
        · omega
        · rw [q] at hm
          simp at hm
          exact hm
      have hled : t.led = true := by rw [H.led, hb]; rfl
      obtain ⟨hT, hP⟩ := tl_of H (List.Perm.refl es.toList)
      have hfz : t.place.size = es.size := by
        have := H.fit
        unfold SetTable.fits at this
        simp only [Bool.and_eq_true, beq_iff_eq] at this
        exact this.1
      by_cases h0 : es.size = 0
      · refine tail _ [s.heap.objs.size, D] _ _ _ _ c (walks_int (n := es.size) (ep := ep) (by exact hh) (show @Ne Nat D s.heap.objs.size from Nat.ne_of_lt hDz) H.fit rfl (fun _ => 0) _ (fun i hi => absurd hi (by omega)) ?_) (by simp) (fun hm => ?_) ⟨hIt, hD'⟩ hI₀ hT hP ⟨h', s.drawn, rfl⟩ hk hS'
        · have := next_slot (prog := prog) (D := D) (ep := ep) hb H.fit h1 hled 0 es.size
          rw [Array.getElem?_eq_none (by omega)] at this
          exact this
        · rcases List.mem_cons.mp hm with q | q
          · exact hIS q.symm
          · exact hSD (List.mem_singleton.mp q)
      · have hs1 : es.size = 1 := by omega
        obtain ⟨p, hpl⟩ : ∃ p, t.place = #[p] := by
          have hz : t.place.size = 1 := hfz.trans hs1
          refine ⟨t.place[0], ?_⟩
          apply Array.ext (hz.trans rfl)
          intro i h1 h2
          have : i = 0 := by omega
          subst this
          rfl
        obtain ⟨e, he⟩ : ∃ e, es = #[e] := by
          refine ⟨es[0], ?_⟩
          apply Array.ext (hs1.trans rfl)
          intro i h1 h2
          have : i = 0 := by omega
          subst this
          rfl
        refine tail _ [s.heap.objs.size, D] _ _ _ _ c (walks_int (n := es.size) (ep := ep) (by exact hh) (show @Ne Nat D s.heap.objs.size from Nat.ne_of_lt hDz) H.fit rfl (fun i => if i = 0 then 0 else p + 1) _ (fun i hi => ?_) ?_) (by simp) (fun hm => ?_) ⟨hIt, hD'⟩ hI₀ hT hP ⟨h', s.drawn, rfl⟩ hk hS'
        · have hi0 : i = 0 := by omega
          subst hi0
          refine ⟨e.2, by rw [he]; rfl, ?_⟩
          have := next_slot (prog := prog) (D := D) (ep := ep) hb H.fit h1 hled 0 0
          rw [hpl, below_lo] at this
          rw [he] at this ⊢
          exact this
        · have := next_slot (prog := prog) (D := D) (ep := ep) hb H.fit h1 hled (p + 1) es.size
          rw [hpl, below_hi, Array.getElem?_eq_none (by omega)] at this
          rw [hs1] at this ⊢
          exact this
        · rcases List.mem_cons.mp hm with q | q
          · exact hIS q.symm
          · exact hSD (List.mem_singleton.mp q)
  · have hl : ys.length = es.size := by rw [hp.length_eq, List.length_range]
    have hin : ∀ k ∈ ys, k < es.size := fun k hk => List.mem_range.mp (hp.mem_iff.mp hk)
    obtain ⟨l, hlp, hle⟩ := drawn_perm hp
    obtain ⟨hT, hP⟩ := tl_of H hlp
    rw [← hle] at hT
    have up : ∀ b o, s.heap.get? b = some o → ((s.heap.push { cls := Value.type "tuple", data := Data.seq (places ys) }).push { cls := Value.type "set_iterator", data := Data.fields #[.ref s.heap.objs.size, .int 0 0, .ref D, .int (es.size : Int) 0, .int (ep : Int) 0] }).get? b = some o := fun b o e => Heap.get?_push_of_some _ (Heap.get?_push_of_some _ e)
    refine wpAny_bind (wpAny_holding (hint_T ⟨_, up _ _ hD, rfl⟩ ?_))
    rw [if_pos (by decide +kernel)]
    refine wpAny_bind (wpAny_rule (wpAny_bind (touch_T (up _ _ hS) fun h' c sb hS' => ?_)))
    refine wpAny_pure ⟨plainId_quiet F.plain_extend_loop _, ?_⟩
    have hI₀ : s.heap.get? (s.heap.objs.size + 1) = none := Heap.get?_none_of_le (Nat.le_succ _)
    have hIS : @Ne Nat (s.heap.objs.size + 1) S := Nat.ne_of_gt (Nat.lt_succ_of_lt hSz)
    have hPS : @Ne Nat s.heap.objs.size S := Nat.ne_of_gt hSz
    have hIz : (s.heap.push { cls := Value.type "tuple", data := Data.seq (places ys) }).objs.size = s.heap.objs.size + 1 := Heap.size_push ..
    have hIt : SIt h' (s.heap.objs.size + 1) D (.ref s.heap.objs.size) 0 es.size ep := ⟨_, sb.extBut _ _ hIS (hIz ▸ Heap.get?_push_size _ rfl), rfl, rfl⟩
    have hPt : h'.IsTuple s.heap.objs.size (places ys) := ⟨_, sb.extBut _ _ hPS (Heap.get?_push_of_some _ (Heap.get?_push_size _ rfl)), rfl, _, rfl⟩
    have hD' : h'.get? D = some (setObj es ep t) := sb.extBut _ _ hSD.symm (up _ _ hD)
    have hk : ∀ b o, b ≠ S → s.heap.get? b = some o → h'.get? b = some o := fun b o hb e => sb.extBut b o hb (up b o e)
    refine tail _ [s.heap.objs.size + 1, D, s.heap.objs.size] _ _ _ _ c (walks_drawn (n := es.size) (ep := ep) (by exact hh) (show @Ne Nat D (s.heap.objs.size + 1) from Nat.ne_of_lt (Nat.lt_succ_of_lt hDz)) (show @Ne Nat s.heap.objs.size (s.heap.objs.size + 1) from Nat.ne_of_lt (Nat.lt_succ_self _)) H.fit rfl ys hl hin) ?_ (fun hm => ?_) ⟨hIt, hD', hPt⟩ hI₀ hT hP ⟨h', d, rfl⟩ hk hS'
    · rw [drawnOf_at hin, List.length_map]; exact hl
    · rcases List.mem_cons.mp hm with q | q
      · exact hIS q.symm
      · rcases List.mem_cons.mp q with q | q
        · exact hSD q
        · exact hPS (List.mem_singleton.mp q).symm
theorem collect_T {Q : List Value → Shared → Prop} (hh : A.handled = none) (hD : s.heap.get? D = some (setObj es ep t)) (H : TextTab w es t xs) (hz : xs.length ≤ 100)
    (hQ : ∀ h' tk d vs xs', (∀ b o, s.heap.get? b = some o → h'.get? b = some o) → TL vs xs' → xs'.Perm xs → Q vs { s with heap := h', toks := tk, drawn := d }) : wpAny (model prog w) A (collect (.ref D)) Q E s := by
  unfold collect
  refine wpAny_bind (wpAny_runValue (codeAny_builtin F.entry_proto_collect ?_))
  rw [Around.under_plainId F.plain_proto_collect _]
  show wpAny _ A.in1 (newList [] >>= fun l => again (.builtin "list.__iadd__" ⟨[l, .ref D], []⟩)) _ _ s
  refine wpAny_bind (wpAny_newObj_type ?_)
  have hDz : @LT.lt Nat _ D s.heap.objs.size := Heap.lt_size hD
  refine wpAny_pure ⟨plainId_quiet F.plain_list_iadd _, setIadd_T (s := { s with heap := s.heap.push { cls := .type "list", data := .seq ([] : List Value).toArray } }) hh (Heap.get?_push_size _ rfl) (Heap.get?_push_of_some _ hD) H hz fun h' tk d vs xs' c hk hS hT hp => ?_⟩
  show wpAny _ A (load s.heap.objs.size >>= _) _ _ _
  refine wpAny_bind (wpAny_load hS ?_)
  refine wpAny_pure (hQ h' tk d vs xs' (fun b o e => hk b o (Nat.ne_of_lt (Heap.lt_size e)) (Heap.get?_push_of_some _ e)) hT hp)
theorem sorted_Set {h₀ : Heap} {L : Addr} {m : Str → Option Value} {news : List (Addr × Obj)} {o : Obj} {Q : Value → Shared → Prop} (hh : A.handled = none) (F : Fr h₀ L s.heap m) (N : News h₀ L s.heap news) (hm : (D, o) ∈ news) (hs : TextSet w o xs) (h64 : xs.length < 64)
    (h : ∀ D' h' tk d vs' xs' e, Fr h₀ L h' m → News h₀ L h' ((D', W.listOf (List.toArray vs') e) :: news) → (∀ p ∈ news, p.1 ≠ D') → TL vs' xs' → xs'.Perm xs → sortedS (xs'.map T) = true → Q (.ref D') { s with heap := h', toks := tk, drawn := d }) :
    wpAny (model prog w) A (call (.builtin "sorted") [.ref D]) Q E s := by
  obtain ⟨es, ep, t, rfl, H⟩ := hs
  refine Calls.call_function_entry kind_sorted plain_sorted entry_sorted (args_sorted1 _) ?_
  unfold Builtin.«sorted»
  refine wpAny_bind (m := checkCount "sorted" 1 1 _) (wpAny_pure ?_)
  refine wpAny_bind (collect_T (by first | exact hh | (show A.in1.handled = none; exact hh)) (N _ hm).1 H (by omega) fun h1 tk1 d1 vs xs1 hk1 hT hp => ?_)
  have hvl : vs.length < 64 := by rw [hT.len, hp.length_eq]; exact h64
  refine wpAny_bind (wpAny_newList ?_ (by rw [sizeLine_eq]; omega))
  have hoL : (h1.push (seqObj "list" vs.toArray 0)).get? h1.objs.size = some (seqObj "list" vs.toArray 0) := Heap.get?_push_size _ rfl
  refine wpAny_bind (wpAny_holding (wpAny_call_entry PyProof.Rows.slot_list_sort ⟨_, hoL, rfl⟩ PyProof.Rows.entry_list_sort (list_sort_treeK strKind_oneLt hoL (StrsAre.keysOf hT) (fun v₁ v₂ rest e => keyKind_strs (by rw [← e]; exact hT)) hvl fun st' a1 a2 => ⟨_, rfl, ?_⟩) (args_list_sort _)))
  obtain ⟨ss', b1, b2, b3⟩ := sorted_out_str hT a1 a2
  obtain ⟨e, he⟩ := sortedHeap_at (out := (arrOf st').map (·.2)) hoL
  refine wpAny_pure ⟨_, rfl, ?_⟩
  have e1 := map_T_of ss'
  have b2' := b2.map (fun x : Str => x.cps.toList)
  generalize ss'.map (fun x => x.cps.toList) = xs' at e1 b2'
  subst e1
  have keep : ∀ b o, s.heap.get? b = some o → (sortedHeap (h1.push (seqObj "list" vs.toArray 0)) h1.objs.size vs ((arrOf st').map (·.2))).get? b = some o := fun b o q => by
    have q1 := hk1 b o q
    have hlt : @LT.lt Nat _ b h1.objs.size := Heap.lt_size q1
    rw [sortedHeap_old (Nat.ne_of_lt hlt) (by rw [size_push']; exact Nat.lt_succ_of_lt hlt), Heap.get?_push_ne _ _ _ (Nat.ne_of_lt hlt)]
    exact q1
  have off : ∀ {b : Addr} {o : Obj}, s.heap.get? b = some o → @Ne Nat h1.objs.size b := fun {b o} q => Nat.ne_of_gt (Heap.lt_size (hk1 b o q))
  have hp' : xs'.Perm xs1 := by
    rw [List.map_map] at b2'
    simpa [Function.comp_def, T_cps] using b2'
  refine h h1.objs.size _ tk1 d1 ((arrOf st').map (·.2)).toList xs' e (F.keeps keep) (fun p hp => ?_) (fun p hp q => off (N p hp).1 q.symm) b1 (hp'.trans hp) b3
  rcases List.mem_cons.mp hp with rfl | hp
  · refine ⟨by rw [Array.toArray_toList]; exact he, ?_, ?_⟩
    · obtain ⟨oL, _, _, eL, _⟩ := F.ns
      exact off eL
    · cases q : h₀.get? h1.objs.size with
      | none => rfl
      | some o' => exact absurd rfl (off (F.keep _ _ q))
  · exact ⟨keep _ _ (N p hp).1, (N p hp).2⟩
end
end Mine
end
theorem Mine.walk_off_ST6 : True := by
  w_top off
  k_with_none
  trivial
section
open PySem PySem.W PyProof.Rows PySem.Calls PySem.Spec
set_option Elab.async false
set_option maxRecDepth 100000
set_option maxHeartbeats 8000000
namespace Mine

noncomputable def kd (o : Obj) : Nat := match o.data with
  | .cell _ => 1
  | .seq _ _ => 2
  | .fields _ => 3
  | _ => 0
theorem kd_cell {o : Obj} {v : Option Value} (h : o.data = .cell v) : kd o = 1 := by unfold kd; rw [h]
theorem ne_kd {g h : Heap} {L : Addr} {news : List (Addr × Obj)} (N : News g L h news) {a b : Addr} {x y : Obj} (ha : (a, x) ∈ news) (hb : (b, y) ∈ news) (hk : kd x ≠ kd y) : a ≠ b := by
  intro e
  subst e
  have h1 := (N _ ha).1
  have h2 := (N _ hb).1
  rw [show ((a, x) : Addr × Obj).1 = ((a, y) : Addr × Obj).1 from rfl] at h1
  rw [h1] at h2
  exact hk (congrArg kd (Option.some.inj h2))
theorem newsL {g h : Heap} {L : Addr} {l all : List (Addr × Obj)} (N : News g L h all) (hl : ∀ q ∈ l, q ∈ all) : News g L h l := fun q hq => N q (hl q hq)
theorem run_len (Wd : List (List Nat)) : ∀ n, (runW Wd n).1.length ≤ Wd.length
  | 0 => Nat.le_refl _
  | n + 1 => by
    have ih := run_len Wd n
    show (stepW Wd (runW Wd n)).1.length ≤ _
    cases e : runW Wd n with
    | mk L R =>
      rw [e] at ih
      cases L with
      | nil => exact ih
      | cons g r => exact Nat.le_trans (List.length_filter_le _ _) ih
theorem TL_cons {vl : List Value} {x : List Nat} {r : List (List Nat)} (h : TL vl (x :: r)) : ∃ t vs, vl = .str (T x) t :: vs ∧ TL vs r := by
  rw [TL, List.map_cons] at h
  cases h with
  | cons _ t h => exact ⟨t, _, rfl, h⟩
theorem lt_asymm' {a b : List Nat} (h1 : a < b) (h2 : b < a) : False := List.lt_irrefl a (List.lt_trans h1 h2)
theorem strict_ext : ∀ {a b : List (List Nat)}, a.Pairwise (· < ·) → b.Pairwise (· < ·) → (∀ y, y ∈ a ↔ y ∈ b) → a = b
  | [], [], _, _, _ => rfl
  | [], y :: b, _, _, h => absurd ((h y).mpr (.head _)) List.not_mem_nil
  | x :: a, [], _, _, h => absurd ((h x).mp (.head _)) List.not_mem_nil
  | x :: a, y :: b, ha, hb, h => by
    have ha' := List.pairwise_cons.mp ha
    have hb' := List.pairwise_cons.mp hb
    have e : x = y := by
      rcases List.mem_cons.mp ((h x).mp (.head _)) with e | hx
      · exact e
      · rcases List.mem_cons.mp ((h y).mpr (.head _)) with e | hy
        · exact e.symm
        · exact (lt_asymm' (hb'.1 x hx) (ha'.1 y hy)).elim
    subst e
    rw [strict_ext ha'.2 hb'.2 fun z => ?_]
    constructor
    · intro hz
      rcases List.mem_cons.mp ((h z).mp (.tail _ hz)) with e | hz'
      · exact absurd (ha'.1 z hz) (by rw [e]; exact List.lt_irrefl x)
      · exact hz'
    · intro hz
      rcases List.mem_cons.mp ((h z).mpr (.tail _ hz)) with e | hz'
      · exact absurd (hb'.1 z hz) (by rw [e]; exact List.lt_irrefl x)
      · exact hz'
theorem pw_lt {xs : List (List Nat)} (h : xs.Pairwise (fun a b => a ≤ b)) (hn : xs.Nodup) : xs.Pairwise (· < ·) := by
  refine (h.and hn).imp fun {a b} ⟨h1, h2⟩ => ?_
  by_cases h : a < b
  · exact h
  · exact absurd (List.le_antisymm h1 (List.not_lt.mp h)) h2
theorem sorted_unique {xs xs' C : List (List Nat)} (hp : xs'.Perm xs) (hn : xs.Nodup) (hs : sortedS (xs'.map T) = true) (hC : C.Pairwise (· < ·)) (hm : ∀ y, y ∈ xs ↔ y ∈ C) : xs' = C :=
  strict_ext (pw_lt (sortedS_pw hs) (hp.nodup_iff.mpr hn)) hC fun y => (hp.mem_iff).trans (hm y)
theorem news_mid {g h : Heap} {L : Addr} {x y : Addr × Obj} {r : List (Addr × Obj)} (N : News g L h (x :: y :: r)) : News g L h (x :: r) := fun q hq => by
  rcases List.mem_cons.mp hq with rfl | hq
  · exact N _ (.head _)
  · exact N _ (.tail _ (.tail _ hq))
theorem isl {g h : Heap} {L l : Addr} {all : List (Addr × Obj)} {a : Array Value} {n : Nat} (N : News g L h all) (hm : (l, PySem.W.listOf a n) ∈ all) : h.IsList l a := ⟨_, (N _ hm).1, rfl, _, rfl⟩
structure RLook (lf lp lw : Addr) (R : List Nat) (wv : Int) (m : Str → Option Value) : Prop where
  left : m (Str.ofString "left") = some (.ref lf)
  ring : ∃ t, m (Str.ofString "ring") = some (.str (T R) t)
  way : ∃ t, m (Str.ofString "way") = some (.int wv t)
  words : m (Str.ofString "words") = some (.ref lw)
  pages : m (Str.ofString "pages") = some (.ref lp)
structure Gnd (w : World) (A : Around) (base : Heap) (outer : List Env) (p : Program) (loose : List Str) (mean : ExcName → Option Value) (mg mb : Str → Option Value) (g₀ g : Heap) : Prop where
  below : Below A base outer g
  inn : (Mine.heap w.params).In g
  top : Top p loose mean mg mb g
  code : CodeHd g 103 99
  up : UpF (frsO outer) g₀ g
noncomputable def rled (L lf lp lw a0 a1 a2 a3 a4 : Addr) (oF oT oS : Obj) (ps : Array Value) (vl v0 v1 v2 v3 v4 vw : List Value) (nl np nw : Nat) : List (Addr × Obj) :=
  [(lf, W.listOf (List.toArray vl) nl), (lp, W.listOf #[.ref a0, .ref a1, .ref a2, .ref a3, .ref a4] np), (L + 1 + 1, oF), (L + 1 + 1 + 1, oT), (L + 1, oS), (99, tabObj ps), (a4, W.listOf (List.toArray v4) 0), (a3, W.listOf (List.toArray v3) 0), (a2, W.listOf (List.toArray v2) 0), (a1, W.listOf (List.toArray v1) 0), (a0, W.listOf (List.toArray v0) 0), (lw, W.listOf (List.toArray vw) nw)]
theorem kdne {x y : Obj} {a b : Nat} (h1 : kd x = a) (h2 : kd y = b) (h : a ≠ b) : kd x ≠ kd y := by rw [h1, h2]; exact h
theorem updF_mk {d : Addr} {o : Obj} : ∀ (pre : List (Addr × Obj)) {post : List (Addr × Obj)}, (∀ p ∈ pre, p.1 ≠ d) → (∀ p ∈ post, p.1 ≠ d) → UpdF d o (pre ++ (d, o) :: post) (fun o' => pre ++ (d, o') :: post)
  | [], _, _, h2 => .head h2
  | p :: pre, post, h1, h2 => .tail (h1 p (.head _)) (updF_mk pre (fun q hq => h1 q (.tail _ hq)) h2)
theorem rF {g h : Heap} {L lf lp lw a0 a1 a2 a3 a4 : Addr} {oF oT oS : Obj} {ps : Array Value} {vl v0 v1 v2 v3 v4 vw : List Value} {nl np nw : Nat} {vF vT : Option Value} {vS : Option Value} (N : News g L h (rled L lf lp lw a0 a1 a2 a3 a4 oF oT oS ps vl v0 v1 v2 v3 v4 vw nl np nw)) (dF : oF.data = .cell vF) (dT : oT.data = .cell vT) (dS : oS.data = .cell vS) (h99 : @LT.lt Nat _ 99 L) :
    UpdF (L + 1 + 1) (oF) (rled L lf lp lw a0 a1 a2 a3 a4 oF oT oS ps vl v0 v1 v2 v3 v4 vw nl np nw) (fun o => rled L lf lp lw a0 a1 a2 a3 a4 o oT oS ps vl v0 v1 v2 v3 v4 vw nl np nw) :=
  updF_mk [(lf, W.listOf (List.toArray vl) nl), (lp, W.listOf #[.ref a0, .ref a1, .ref a2, .ref a3, .ref a4] np)] (post := [(L + 1 + 1 + 1, oT), (L + 1, oS), (99, tabObj ps), (a4, W.listOf (List.toArray v4) 0), (a3, W.listOf (List.toArray v3) 0), (a2, W.listOf (List.toArray v2) 0), (a1, W.listOf (List.toArray v1) 0), (a0, W.listOf (List.toArray v0) 0), (lw, W.listOf (List.toArray vw) nw)]) (fun q hq => by
    simp only [List.mem_cons, List.not_mem_nil, or_false] at hq
    rcases hq with rfl | rfl
    · exact ne_kd N (x := W.listOf (List.toArray vl) nl) (y := oF) (by unfold rled; k_mem) (by unfold rled; k_mem) (kdne (a := 2) (b := 1) rfl (kd_cell dF) (by decide))
    · exact ne_kd N (x := W.listOf #[.ref a0, .ref a1, .ref a2, .ref a3, .ref a4] np) (y := oF) (by unfold rled; k_mem) (by unfold rled; k_mem) (kdne (a := 2) (b := 1) rfl (kd_cell dF) (by decide))
    ) (fun q hq => by
    simp only [List.mem_cons, List.not_mem_nil, or_false] at hq
    rcases hq with rfl | rfl | rfl | rfl | rfl | rfl | rfl | rfl | rfl
    · exact (show @Ne Nat (L + 1 + 1 + 1) (L + 1 + 1) by omega)
    · exact (show @Ne Nat (L + 1) (L + 1 + 1) by omega)
    · exact (show @Ne Nat (99) (L + 1 + 1) by omega)
    · exact ne_kd N (x := W.listOf (List.toArray v4) 0) (y := oF) (by unfold rled; k_mem) (by unfold rled; k_mem) (kdne (a := 2) (b := 1) rfl (kd_cell dF) (by decide))
    · exact ne_kd N (x := W.listOf (List.toArray v3) 0) (y := oF) (by unfold rled; k_mem) (by unfold rled; k_mem) (kdne (a := 2) (b := 1) rfl (kd_cell dF) (by decide))
    · exact ne_kd N (x := W.listOf (List.toArray v2) 0) (y := oF) (by unfold rled; k_mem) (by unfold rled; k_mem) (kdne (a := 2) (b := 1) rfl (kd_cell dF) (by decide))
    · exact ne_kd N (x := W.listOf (List.toArray v1) 0) (y := oF) (by unfold rled; k_mem) (by unfold rled; k_mem) (kdne (a := 2) (b := 1) rfl (kd_cell dF) (by decide))
    · exact ne_kd N (x := W.listOf (List.toArray v0) 0) (y := oF) (by unfold rled; k_mem) (by unfold rled; k_mem) (kdne (a := 2) (b := 1) rfl (kd_cell dF) (by decide))
    · exact ne_kd N (x := W.listOf (List.toArray vw) nw) (y := oF) (by unfold rled; k_mem) (by unfold rled; k_mem) (kdne (a := 2) (b := 1) rfl (kd_cell dF) (by decide))
    )
theorem rT {g h : Heap} {L lf lp lw a0 a1 a2 a3 a4 : Addr} {oF oT oS : Obj} {ps : Array Value} {vl v0 v1 v2 v3 v4 vw : List Value} {nl np nw : Nat} {vF vT : Option Value} {vS : Option Value} (N : News g L h (rled L lf lp lw a0 a1 a2 a3 a4 oF oT oS ps vl v0 v1 v2 v3 v4 vw nl np nw)) (dF : oF.data = .cell vF) (dT : oT.data = .cell vT) (dS : oS.data = .cell vS) (h99 : @LT.lt Nat _ 99 L) :
    UpdF (L + 1 + 1 + 1) (oT) (rled L lf lp lw a0 a1 a2 a3 a4 oF oT oS ps vl v0 v1 v2 v3 v4 vw nl np nw) (fun o => rled L lf lp lw a0 a1 a2 a3 a4 oF o oS ps vl v0 v1 v2 v3 v4 vw nl np nw) :=
  updF_mk [(lf, W.listOf (List.toArray vl) nl), (lp, W.listOf #[.ref a0, .ref a1, .ref a2, .ref a3, .ref a4] np), (L + 1 + 1, oF)] (post := [(L + 1, oS), (99, tabObj ps), (a4, W.listOf (List.toArray v4) 0), (a3, W.listOf (List.toArray v3) 0), (a2, W.listOf (List.toArray v2) 0), (a1, W.listOf (List.toArray v1) 0), (a0, W.listOf (List.toArray v0) 0), (lw, W.listOf (List.toArray vw) nw)]) (fun q hq => by
    simp only [List.mem_cons, List.not_mem_nil, or_false] at hq
    rcases hq with rfl | rfl | rfl
    · exact ne_kd N (x := W.listOf (List.toArray vl) nl) (y := oT) (by unfold rled; k_mem) (by unfold rled; k_mem) (kdne (a := 2) (b := 1) rfl (kd_cell dT) (by decide))
    · exact ne_kd N (x := W.listOf #[.ref a0, .ref a1, .ref a2, .ref a3, .ref a4] np) (y := oT) (by unfold rled; k_mem) (by unfold rled; k_mem) (kdne (a := 2) (b := 1) rfl (kd_cell dT) (by decide))
    · exact (show @Ne Nat (L + 1 + 1) (L + 1 + 1 + 1) by omega)
    ) (fun q hq => by
    simp only [List.mem_cons, List.not_mem_nil, or_false] at hq
    rcases hq with rfl | rfl | rfl | rfl | rfl | rfl | rfl | rfl
    · exact (show @Ne Nat (L + 1) (L + 1 + 1 + 1) by omega)
    · exact (show @Ne Nat (99) (L + 1 + 1 + 1) by omega)
    · exact ne_kd N (x := W.listOf (List.toArray v4) 0) (y := oT) (by unfold rled; k_mem) (by unfold rled; k_mem) (kdne (a := 2) (b := 1) rfl (kd_cell dT) (by decide))
    · exact ne_kd N (x := W.listOf (List.toArray v3) 0) (y := oT) (by unfold rled; k_mem) (by unfold rled; k_mem) (kdne (a := 2) (b := 1) rfl (kd_cell dT) (by decide))
    · exact ne_kd N (x := W.listOf (List.toArray v2) 0) (y := oT) (by unfold rled; k_mem) (by unfold rled; k_mem) (kdne (a := 2) (b := 1) rfl (kd_cell dT) (by decide))
    · exact ne_kd N (x := W.listOf (List.toArray v1) 0) (y := oT) (by unfold rled; k_mem) (by unfold rled; k_mem) (kdne (a := 2) (b := 1) rfl (kd_cell dT) (by decide))
    · exact ne_kd N (x := W.listOf (List.toArray v0) 0) (y := oT) (by unfold rled; k_mem) (by unfold rled; k_mem) (kdne (a := 2) (b := 1) rfl (kd_cell dT) (by decide))
    · exact ne_kd N (x := W.listOf (List.toArray vw) nw) (y := oT) (by unfold rled; k_mem) (by unfold rled; k_mem) (kdne (a := 2) (b := 1) rfl (kd_cell dT) (by decide))
    )
noncomputable def rledO (L lf lp lw a0 a1 a2 a3 a4 : Addr) (oF oT oS oP : Obj) (vl v0 v1 v2 v3 v4 vw : List Value) (nl np nw : Nat) : List (Addr × Obj) :=
  [(lf, W.listOf (List.toArray vl) nl), (lp, W.listOf #[.ref a0, .ref a1, .ref a2, .ref a3, .ref a4] np), (L + 1 + 1, oF), (L + 1 + 1 + 1, oT), (L + 1, oS), (99, oP), (a4, W.listOf (List.toArray v4) 0), (a3, W.listOf (List.toArray v3) 0), (a2, W.listOf (List.toArray v2) 0), (a1, W.listOf (List.toArray v1) 0), (a0, W.listOf (List.toArray v0) 0), (lw, W.listOf (List.toArray vw) nw)]
theorem rP {g h : Heap} {L lf lp lw a0 a1 a2 a3 a4 : Addr} {oF oT oS : Obj} {ps : Array Value} {vl v0 v1 v2 v3 v4 vw : List Value} {nl np nw : Nat} {vF vT : Option Value} {vS : Option Value} (N : News g L h (rled L lf lp lw a0 a1 a2 a3 a4 oF oT oS ps vl v0 v1 v2 v3 v4 vw nl np nw)) (dF : oF.data = .cell vF) (dT : oT.data = .cell vT) (dS : oS.data = .cell vS) (h99 : @LT.lt Nat _ 99 L) :
    UpdF (99) (tabObj ps) (rled L lf lp lw a0 a1 a2 a3 a4 oF oT oS ps vl v0 v1 v2 v3 v4 vw nl np nw) (fun o => rledO L lf lp lw a0 a1 a2 a3 a4 oF oT oS o vl v0 v1 v2 v3 v4 vw nl np nw) :=
  updF_mk [(lf, W.listOf (List.toArray vl) nl), (lp, W.listOf #[.ref a0, .ref a1, .ref a2, .ref a3, .ref a4] np), (L + 1 + 1, oF), (L + 1 + 1 + 1, oT), (L + 1, oS)] (post := [(a4, W.listOf (List.toArray v4) 0), (a3, W.listOf (List.toArray v3) 0), (a2, W.listOf (List.toArray v2) 0), (a1, W.listOf (List.toArray v1) 0), (a0, W.listOf (List.toArray v0) 0), (lw, W.listOf (List.toArray vw) nw)]) (fun q hq => by
    simp only [List.mem_cons, List.not_mem_nil, or_false] at hq
    rcases hq with rfl | rfl | rfl | rfl | rfl
    · exact ne_kd N (x := W.listOf (List.toArray vl) nl) (y := tabObj ps) (by unfold rled; k_mem) (by unfold rled; k_mem) (kdne (a := 2) (b := 3) rfl rfl (by decide))
    · exact ne_kd N (x := W.listOf #[.ref a0, .ref a1, .ref a2, .ref a3, .ref a4] np) (y := tabObj ps) (by unfold rled; k_mem) (by unfold rled; k_mem) (kdne (a := 2) (b := 3) rfl rfl (by decide))
    · exact (show @Ne Nat (L + 1 + 1) (99) by omega)
    · exact (show @Ne Nat (L + 1 + 1 + 1) (99) by omega)
    · exact (show @Ne Nat (L + 1) (99) by omega)
    ) (fun q hq => by
    simp only [List.mem_cons, List.not_mem_nil, or_false] at hq
    rcases hq with rfl | rfl | rfl | rfl | rfl | rfl
    · exact ne_kd N (x := W.listOf (List.toArray v4) 0) (y := tabObj ps) (by unfold rled; k_mem) (by unfold rled; k_mem) (kdne (a := 2) (b := 3) rfl rfl (by decide))
    · exact ne_kd N (x := W.listOf (List.toArray v3) 0) (y := tabObj ps) (by unfold rled; k_mem) (by unfold rled; k_mem) (kdne (a := 2) (b := 3) rfl rfl (by decide))
    · exact ne_kd N (x := W.listOf (List.toArray v2) 0) (y := tabObj ps) (by unfold rled; k_mem) (by unfold rled; k_mem) (kdne (a := 2) (b := 3) rfl rfl (by decide))
    · exact ne_kd N (x := W.listOf (List.toArray v1) 0) (y := tabObj ps) (by unfold rled; k_mem) (by unfold rled; k_mem) (kdne (a := 2) (b := 3) rfl rfl (by decide))
    · exact ne_kd N (x := W.listOf (List.toArray v0) 0) (y := tabObj ps) (by unfold rled; k_mem) (by unfold rled; k_mem) (kdne (a := 2) (b := 3) rfl rfl (by decide))
    · exact ne_kd N (x := W.listOf (List.toArray vw) nw) (y := tabObj ps) (by unfold rled; k_mem) (by unfold rled; k_mem) (kdne (a := 2) (b := 3) rfl rfl (by decide))
    )
theorem page_at {W : List (List Nat)} {i : Int} {g h : Heap} {L lf lp lw a0 a1 a2 a3 a4 : Addr} {oF oT oS : Obj} {ps : Array Value} {vl v0 v1 v2 v3 v4 vw : List Value} {nl np nw : Nat} (h0 : 0 ≤ i) (h5 : i < 5)
    (t0 : TL v0 (W.map fun x => x.flatMap (ch (chW 0)))) (t1 : TL v1 (W.map fun x => x.flatMap (ch (chW 1)))) (t2 : TL v2 (W.map fun x => x.flatMap (ch (chW 2)))) (t3 : TL v3 (W.map fun x => x.flatMap (ch (chW 3)))) (t4 : TL v4 (W.map fun x => x.flatMap (ch (chW 4))))
    (N : News g L h (rled L lf lp lw a0 a1 a2 a3 a4 oF oT oS ps vl v0 v1 v2 v3 v4 vw nl np nw)) :
    ∃ k ak vk, (#[Value.ref a0, .ref a1, .ref a2, .ref a3, .ref a4] : Array Value)[i.toNat]? = some (.ref ak) ∧ h.get? ak = some (PySem.W.listOf (List.toArray vk) 0) ∧ TL vk (W.map fun x => x.flatMap (ch (chW k))) := by
  have hc : i = 0 ∨ i = 1 ∨ i = 2 ∨ i = 3 ∨ i = 4 := by omega
  rcases hc with rfl | rfl | rfl | rfl | rfl
  · exact ⟨0, a0, v0, rfl, (N (a0, _) (by unfold rled; k_mem)).1, t0⟩
  · exact ⟨1, a1, v1, rfl, (N (a1, _) (by unfold rled; k_mem)).1, t1⟩
  · exact ⟨2, a2, v2, rfl, (N (a2, _) (by unfold rled; k_mem)).1, t2⟩
  · exact ⟨3, a3, v3, rfl, (N (a3, _) (by unfold rled; k_mem)).1, t3⟩
  · exact ⟨4, a4, v4, rfl, (N (a4, _) (by unfold rled; k_mem)).1, t4⟩
noncomputable def RI (w : World) (A : Around) (base : Heap) (outer : List Env) (p : Program) (loose : List Str) (mean : ExcName → Option Value) (mg mb : Str → Option Value) (g₀ : Heap) (Wd : List (List Nat)) (size N9 : Nat) (L lp lw a0 a1 a2 a3 a4 : Addr) (v0 v1 v2 v3 v4 vw : List Value) (np nw : Nat) (s : Shared) (n : Nat) (s' : Shared) : Prop :=
  ∃ dr g h tk m ps oF oT oS lf vl nl wv j t, s' = { s with heap := h, toks := tk, drawn := dr } ∧ Gnd w A base outer p loose mean mg mb g₀ g ∧ Fr g L h m ∧ News g L h (rled L lf lp lw a0 a1 a2 a3 a4 oF oT oS ps vl v0 v1 v2 v3 v4 vw nl np nw) ∧ PsOk lamPos ps ∧ (∃ v, oF.data = .cell v) ∧ (∃ v, oT.data = .cell v) ∧ oS.data = .cell (some (.int (size : Int) t)) ∧
    RLook lf lp lw (runW Wd j).2 wv m ∧ TL vl (runW Wd j).1 ∧ j + n = N9
noncomputable def RT (w : World) (A : Around) (base : Heap) (outer : List Env) (p : Program) (loose : List Str) (mean : ExcName → Option Value) (mg mb : Str → Option Value) (g₀ : Heap) (Wd : List (List Nat)) (size N9 : Nat) (L lp lw a0 a1 a2 a3 a4 : Addr) (v0 v1 v2 v3 v4 vw : List Value) (np nw : Nat) (s : Shared) (n : Nat) (s' : Shared) : Prop :=
  ∃ k, k < n ∧ RI w A base outer p loose mean mg mb g₀ Wd size N9 L lp lw a0 a1 a2 a3 a4 v0 v1 v2 v3 v4 vw np nw s k s'
theorem run_ring {Wd : List (List Nat)} (hW : ∀ x ∈ Wd, x.length ≤ 4) : ∀ n, (∀ x ∈ (runW Wd n).1, x.length ≤ 4) ∧ (runW Wd n).2.length ≤ 4 * n
  | 0 => ⟨hW, by simp [runW]⟩
  | n + 1 => by
    obtain ⟨h1, h2⟩ := run_ring hW n
    show (∀ x ∈ (stepW Wd (runW Wd n)).1, x.length ≤ 4) ∧ (stepW Wd (runW Wd n)).2.length ≤ 4 * (n + 1)
    cases e : runW Wd n with
    | mk L R =>
      rw [e] at h1 h2
      cases L with
      | nil => exact ⟨h1, by show R.length ≤ _; simp only at h2; omega⟩
      | cons g r =>
        refine ⟨fun x hx => h1 x (List.mem_filter.mp hx).1, ?_⟩
        have hg := h1 g (.head _)
        show (R ++ g.take _).length ≤ _
        rw [List.length_append, List.length_take]
        simp only at h2
        omega
theorem RT.mk {w : World} {A : Around} {base : Heap} {outer : List Env} {p : Program} {loose : List Str} {mean : ExcName → Option Value} {mg mb : Str → Option Value} {g₀ g h : Heap} {Wd Ld : List (List Nat)} {Rd : List Nat} {size N9 : Nat} {L lf lp lw a0 a1 a2 a3 a4 : Addr} {oF oT oS : Obj} {ps : Array Value} {vl v0 v1 v2 v3 v4 vw : List Value} {nl np nw : Nat} {s : Shared} {dr : Drawn} {n n1 j tk : Nat} {m : Str → Option Value} {wv : Int} {t : Tok} {all : List (Addr × Obj)}
    (G : Gnd w A base outer p loose mean mg mb g₀ g) (F : Fr g L h m) (N : News g L h all) (hall : ∀ q ∈ rled L lf lp lw a0 a1 a2 a3 a4 oF oT oS ps vl v0 v1 v2 v3 v4 vw nl np nw, q ∈ all) (hps : PsOk lamPos ps) (dF : ∃ v, oF.data = .cell v) (dT : ∃ v, oT.data = .cell v) (dS : oS.data = .cell (some (.int (size : Int) t)))
    (hl : RLook lf lp lw Rd wv m) (hv : TL vl Ld) (e : runW Wd (j + 1) = (Ld, Rd)) (hj : j + 1 + n = N9) (hk : n < n1) :
    RT w A base outer p loose mean mg mb g₀ Wd size N9 L lp lw a0 a1 a2 a3 a4 v0 v1 v2 v3 v4 vw np nw s n1 { s with heap := h, toks := tk, drawn := dr } :=
  ⟨n, hk, dr, g, h, tk, m, ps, oF, oT, oS, lf, vl, nl, wv, j + 1, t, rfl, G, F, newsL N hall, hps, dF, dT, dS, by rw [e]; exact hl, by rw [e]; exact hv, hj⟩
theorem RI.mk {w : World} {A : Around} {base : Heap} {outer : List Env} {p : Program} {loose : List Str} {mean : ExcName → Option Value} {mg mb : Str → Option Value} {g₀ g h : Heap} {Wd : List (List Nat)} {size N9 : Nat} {L lf lp lw a0 a1 a2 a3 a4 : Addr} {oF oT oS : Obj} {ps : Array Value} {vl v0 v1 v2 v3 v4 vw : List Value} {nl np nw : Nat} {s : Shared} {dr : Drawn} {n j tk : Nat} {m : Str → Option Value} {wv : Int} {t : Tok}
    (G : Gnd w A base outer p loose mean mg mb g₀ g) (F : Fr g L h m) (N : News g L h (rled L lf lp lw a0 a1 a2 a3 a4 oF oT oS ps vl v0 v1 v2 v3 v4 vw nl np nw)) (hps : PsOk lamPos ps) (dF : ∃ v, oF.data = .cell v) (dT : ∃ v, oT.data = .cell v) (dS : oS.data = .cell (some (.int (size : Int) t)))
    (hl : RLook lf lp lw (runW Wd j).2 wv m) (hv : TL vl (runW Wd j).1) (hj : j + n = N9) :
    RI w A base outer p loose mean mg mb g₀ Wd size N9 L lp lw a0 a1 a2 a3 a4 v0 v1 v2 v3 v4 vw np nw s n { s with heap := h, toks := tk, drawn := dr } :=
  ⟨dr, g, h, tk, m, ps, oF, oT, oS, lf, vl, nl, wv, j, t, rfl, G, F, N, hps, dF, dT, dS, hl, hv, hj⟩
theorem RI.elim {w : World} {A : Around} {base : Heap} {outer : List Env} {p : Program} {loose : List Str} {mean : ExcName → Option Value} {mg mb : Str → Option Value} {g₀ : Heap} {Wd : List (List Nat)} {size N9 : Nat} {L lp lw a0 a1 a2 a3 a4 : Addr} {v0 v1 v2 v3 v4 vw : List Value} {np nw : Nat} {s : Shared} {n : Nat} {s' : Shared} {G : Shared → Prop}
    (hI : RI w A base outer p loose mean mg mb g₀ Wd size N9 L lp lw a0 a1 a2 a3 a4 v0 v1 v2 v3 v4 vw np nw s n s')
    (h : ∀ dr g h2 tk m ps oF oT oS lf vl nl wv j t vF vT, Gnd w A base outer p loose mean mg mb g₀ g → Fr g L h2 m → News g L h2 (rled L lf lp lw a0 a1 a2 a3 a4 oF oT oS ps vl v0 v1 v2 v3 v4 vw nl np nw) → PsOk lamPos ps → oF.data = .cell vF → oT.data = .cell vT → oS.data = .cell (some (.int (size : Int) t)) →
      RLook lf lp lw (runW Wd j).2 wv m → TL vl (runW Wd j).1 → j + n = N9 → G { s with heap := h2, toks := tk, drawn := dr }) : G s' := by
  obtain ⟨dr, g, h2, tk, m, ps, oF, oT, oS, lf, vl, nl, wv, j, t, rfl, hG, F, N, hps, ⟨vF, dF⟩, ⟨vT, dT⟩, dS, hl, hv, hj⟩ := hI
  exact h _ _ _ _ _ _ _ _ _ _ _ _ _ _ _ _ _ hG F N hps dF dT dS hl hv hj
theorem RI.elimP {w : World} {A : Around} {base : Heap} {outer : List Env} {p : Program} {loose : List Str} {mean : ExcName → Option Value} {mg mb : Str → Option Value} {g₀ : Heap} {Wd : List (List Nat)} {size N9 : Nat} {L lp lw a0 a1 a2 a3 a4 : Addr} {v0 v1 v2 v3 v4 vw : List Value} {np nw : Nat} {s : Shared} {n : Nat} {s' : Shared} {G : Shared → Prop}
    (hI : RI w A base outer p loose mean mg mb g₀ Wd size N9 L lp lw a0 a1 a2 a3 a4 v0 v1 v2 v3 v4 vw np nw s n s') (hp : 0 < s'.toks)
    (h : ∀ dr g h2 tk m ps oF oT oS lf vl nl wv j t vF vT, Gnd w A base outer p loose mean mg mb g₀ g → Fr g L h2 m → News g L h2 (rled L lf lp lw a0 a1 a2 a3 a4 oF oT oS ps vl v0 v1 v2 v3 v4 vw nl np nw) → PsOk lamPos ps → oF.data = .cell vF → oT.data = .cell vT → oS.data = .cell (some (.int (size : Int) t)) →
      RLook lf lp lw (runW Wd j).2 wv m → TL vl (runW Wd j).1 → j + n = N9 → 0 < tk → G { s with heap := h2, toks := tk, drawn := dr }) : G s' := RI.elim (G := fun s' => 0 < s'.toks → G s') hI h hp
theorem r_cut {prog : Program} {w : World} {A A₁ : Around} {E : Value → Shared → Prop} {s : Shared} {env : Env} {base : Heap} {outer : List Env} {p : Program} {loose : List Str} {mean : ExcName → Option Value} {mg mb : Str → Option Value} {g₀ g : Heap} {Wd : List (List Nat)} {size N9 : Nat} {L lp lw a0 a1 a2 a3 a4 : Addr} {v0 v1 v2 v3 v4 vw : List Value} {np nw : Nat} {x : Addr × Obj} {oF oT oS : Obj} {ps : Array Value} {m : Str → Option Value} {vF vT : Option Value} {wv : Int} {tS : Tok} {test : Expr} {body rest : List Stmt} {pos : Pos} {Q : Flow → Shared → Prop}
    (h0 : 0 < s.toks) (G : Gnd w A₁ base outer p loose mean mg mb g₀ g) (F : Fr g L s.heap m) (N : News g L s.heap [x, (a4, W.listOf (List.toArray v4) 0), (a3, W.listOf (List.toArray v3) 0), (a2, W.listOf (List.toArray v2) 0), (a1, W.listOf (List.toArray v1) 0), (a0, W.listOf (List.toArray v0) 0), (lp, W.listOf #[.ref a0, .ref a1, .ref a2, .ref a3, .ref a4] np), (lw, lstObj (List.toArray vw) nw), (L + 1 + 1 + 1, oT), (L + 1 + 1, oF), (L + 1, oS), (99, tabObj ps)])
    (hps : PsOk lamPos ps) (dF : oF.data = .cell vF) (dT : oT.data = .cell vT) (dS : oS.data = .cell (some (.int (size : Int) tS))) (hl : RLook lw lp lw [] wv m) (hv : TL vw Wd)
    (t0 : TL v0 (Wd.map fun x => x.flatMap (ch (chW 0)))) (t1 : TL v1 (Wd.map fun x => x.flatMap (ch (chW 1)))) (t2 : TL v2 (Wd.map fun x => x.flatMap (ch (chW 2)))) (t3 : TL v3 (Wd.map fun x => x.flatMap (ch (chW 3)))) (t4 : TL v4 (Wd.map fun x => x.flatMap (ch (chW 4))))
    (turn : ∀ (lp lw a0 a1 a2 a3 a4 : Addr) (v0 v1 v2 v3 v4 vw : List Value) (np nw : Nat), TL v0 (Wd.map fun x => x.flatMap (ch (chW 0))) → TL v1 (Wd.map fun x => x.flatMap (ch (chW 1))) → TL v2 (Wd.map fun x => x.flatMap (ch (chW 2))) → TL v3 (Wd.map fun x => x.flatMap (ch (chW 3))) → TL v4 (Wd.map fun x => x.flatMap (ch (chW 4))) → TL vw Wd → ∀ n s', 0 < s'.toks → RI w A₁ base outer p loose mean mg mb g₀ Wd size N9 L lp lw a0 a1 a2 a3 a4 v0 v1 v2 v3 v4 vw np nw s n s' → wpAny (model prog w) A (isTrue test env (eval test env)) (fun b' s₂ => if b' = true then wpAny (model prog w) A (execs body env) (fun f s₃ => match f with
        | .next | .cont => RT w A₁ base outer p loose mean mg mb g₀ Wd size N9 L lp lw a0 a1 a2 a3 a4 v0 v1 v2 v3 v4 vw np nw s n s₃ | .brk => False | .ret _ => False) (fun _ _ => False) s₂ else n = 0 ∧ 0 < s₂.toks ∧ RI w A₁ base outer p loose mean mg mb g₀ Wd size N9 L lp lw a0 a1 a2 a3 a4 v0 v1 v2 v3 v4 vw np nw s 0 s₂) (fun _ _ => False) s')
    (fin : ∀ (lp lw a0 a1 a2 a3 a4 : Addr) (v0 v1 v2 v3 v4 vw : List Value) (np nw : Nat), TL v0 (Wd.map fun x => x.flatMap (ch (chW 0))) → TL v1 (Wd.map fun x => x.flatMap (ch (chW 1))) → TL v2 (Wd.map fun x => x.flatMap (ch (chW 2))) → TL v3 (Wd.map fun x => x.flatMap (ch (chW 3))) → TL v4 (Wd.map fun x => x.flatMap (ch (chW 4))) → TL vw Wd → ∀ s', 0 < s'.toks → RI w A₁ base outer p loose mean mg mb g₀ Wd size N9 L lp lw a0 a1 a2 a3 a4 v0 v1 v2 v3 v4 vw np nw s 0 s' → wpAny (model prog w) A (execs rest env) Q E s') : wpAny (model prog w) A (execs (.While test body [] pos :: rest) env) Q E s := by
  refine cut_execs1 (fun s' => 0 < s'.toks ∧ RI w A₁ base outer p loose mean mg mb g₀ Wd size N9 L lp lw a0 a1 a2 a3 a4 v0 v1 v2 v3 v4 vw np nw s 0 s') (while_pos (RI w A₁ base outer p loose mean mg mb g₀ Wd size N9 L lp lw a0 a1 a2 a3 a4 v0 v1 v2 v3 v4 vw np nw s) N9 h0
    ⟨s.drawn, g, s.heap, s.toks, m, ps, oF, oT, oS, lw, vw, nw, wv, 0, tS, rfl, G, F, newsL N ?_, hps, ⟨_, dF⟩, ⟨_, dT⟩, dS, hl, hv, Nat.zero_add _⟩ fun n s' hp hI => ?_) fun s' q => fin _ _ _ _ _ _ _ _ _ _ _ _ _ _ _ t0 t1 t2 t3 t4 hv s' q.1 q.2
  · intro q hq
    unfold rled at hq
    simp only [List.mem_cons, List.not_mem_nil, or_false] at hq
    rcases hq with rfl | rfl | rfl | rfl | rfl | rfl | rfl | rfl | rfl | rfl | rfl | rfl <;> k_mem
  refine wpAny_mono (turn _ _ _ _ _ _ _ _ _ _ _ _ _ _ _ t0 t1 t2 t3 t4 hv n s' hp hI) (fun b' s₂ q => ?_) fun _ _ q => q
  cases b' with
  | false =>
    obtain ⟨rfl, q⟩ := q
    exact ⟨rfl, q⟩
  | true =>
    simp only [if_true] at q ⊢
    refine wpAny_mono q (fun f s₃ r => ?_) fun _ _ q => q
    cases f with
    | next => exact r
    | cont => exact r
    | brk => exact r.elim
    | ret v => exact r.elim
noncomputable def WordsC (w : World) (l : Addr) (size : Nat) (vs : List Value) (W : List (List Nat)) : Prop := ∀ t, Tell w 150 3 24 [.ref l, .int (size : Int) t] (fun h => h.IsList l vs.toArray) (RList W)
theorem WordsC.tell {w : World} {l : Addr} {size : Nat} {vs : List Value} {W : List (List Nat)} {t : Tok} (h : WordsC w l size vs W) : Tell w 150 3 24 [.ref l, .int (size : Int) t] (fun h => h.IsList l vs.toArray) (RList W) := h t
noncomputable def PagesC (w : World) (W : List (List Nat)) : Prop := ∀ l vs, TL vs W → Tell w 155 6 60 [.ref l] (fun h => h.IsList l vs.toArray) (RPages fun k => W.map fun x => x.flatMap (ch (chW k)))
theorem PagesC.tell {w : World} {l : Addr} {vs : List Value} {W : List (List Nat)} (h : PagesC w W) (hv : TL vs W) : Tell w 155 6 60 [.ref l] (fun h => h.IsList l vs.toArray) (RPages fun k => W.map fun x => x.flatMap (ch (chW k))) := h l vs hv
theorem slice_TT {prog : Program} {w : World} {A : Around} {E : Value → Shared → Prop} {s : Shared} {h₀ : Heap} {L : Addr} {m : Str → Option Value} {news : List (Addr × Obj)} {value slice : Expr} {P x : List Nat} {i j : Int} {ui uj t : Tok} {Q : Value → Shared → Prop} (F : Fr h₀ L s.heap m) (N : News h₀ L s.heap news) (hx : (P.drop i.toNat).take (j - i).toNat = x) (h0 : 0 ≤ i) (h1 : i ≤ j) (h2 : j ≤ P.length) (hl : P.length ≤ 100000)
    (h : ∀ h' t' k, Fr h₀ L h' m → News h₀ L h' news → Q (.str (T x) t') { s with heap := h', toks := k })
    (hs : subscripted slice false (.str (T P) t) (.ref s.heap.objs.size) = operate [.ref s.heap.objs.size, .str (T P) t] (getItem (.str (T P) t) (.ref s.heap.objs.size)) := by with_unfolding_all rfl)
    (ht : ∀ r, letTemporaryGo value (.str (T P) t) r = pure () := by intro _; with_unfolding_all rfl) :
    wpAny (model prog w) A (subscriptTail value slice (.str (T P) t) (.ref s.heap.objs.size)) Q E { s with heap := s.heap.push { cls := .type "slice", data := .fields #[.int i ui, .int j uj, .none] } } := by
  subst hx
  refine slice_strN_ss F N (fun h' t' k F' N' => ?_) hs ht (by rw [T_len, sizeLine_eq]; omega)
  have e := slice_closesL (x := T P) (i := i) (j := j) h0 h1 (by rw [T_len]; omega)
  rw [eq_of_beq e, T_cps]
  exact h h' t' k F' N'
theorem small_of {n : Nat} (h : n ≤ 100000) : Builtin.Range.small 0 ((n : Nat) : Int) 1 = true := by
  unfold Builtin.Range.small
  rw [rangeSize_nat]
  simp [Builtin.Range.rangeFitsLong]
  omega
section
variable {prog : Program} {w : World} {A : Around} {E : Value → Shared → Prop} {h₀ : Heap} {L : Addr} {m : Str → Option Value} {env : Env} {elt ct iter : Expr} {x : Str} {scope : Scope} {cl : List (Str × Addr)} {s : Shared} {S : List (Addr × Obj) → Prop} {P : Nat → Value → Prop} {Fin : List Value → List (Addr × Obj) → Prop} {news : List (Addr × Obj)}
theorem rest_allB {α : Type} {n : Nat} {xs : List α} (It Re : α → Value → Prop) (hn : xs.length = n) (hsrc : ∀ i v, i < n → P i v → ∃ a, xs[i]? = some a ∧ It a v)
    (turn : ∀ a v I oI C oC D m₂ ys h tk (E' : Value → Shared → Prop), a ∈ xs → It a v → ys.length ≤ n → LCg.NsObj oC m₂ → m₂ x = some v → Fr h₀ L h m → News h₀ L h ((I, oI) :: (C, oC) :: (D, LCg.lst ys) :: news) → LCg.Off3 I C D news → ((@Ne Nat I C) ∧ (@Ne Nat I D) ∧ (@Ne Nat C D)) →
      wpAny (model prog w) A (eval elt (compEnvC scope cl C env)) (LCg.CompEnd h₀ L m { s with heap := h, toks := tk } I oI C oC D (LCg.lst ys) S (fun y news' => news' = news ∧ Re a y)) E' { s with heap := h, toks := tk })
    (fin : ∀ ys, All2 Re xs ys → Fin ys news) : LCg.CompRest prog w A h₀ L m env elt x scope cl s S P Fin n 0 [] news := by
  have key : ∀ (j i : Nat) (ys : List Value), i + j = n → All2 Re (xs.take i) ys → LCg.CompRest prog w A h₀ L m env elt x scope cl s S P Fin j i ys news := by
    intro j
    induction j with
    | zero =>
      intro i ys hi hy
      rw [show i = xs.length by omega, List.take_length] at hy
      exact LCg.CompRest.zero (fin ys hy)
    | succ j ih =>
      intro i ys hi hy
      refine LCg.CompRest.succ ?_
      intro v I oI C oC D m₂ h tk E' hv hC hx F N off ne
      obtain ⟨a, ha, hv'⟩ := hsrc i v (by omega) hv
      have hl := hy.len
      rw [List.length_take] at hl
      refine wpAny_mono (turn a v I oI C oC D m₂ ys h tk E' (List.mem_of_getElem? ha) hv' (by omega) hC hx F N off ne) (fun y s₃ hr => ?_) fun _ _ e => e
      obtain ⟨h', tk', nw, e, F', N', off', hS, rfl, hr'⟩ := hr
      refine ⟨h', tk', nw, e, F', N', off', hS, ih (i + 1) _ (by omega) ?_⟩
      rw [List.take_add_one, ha]
      exact hy.snoc hr'
  exact key n 0 [] (by omega) .nil

end
/-- the contract of the law's main def: it is called from the law alone -/
noncomputable def TellR (w : World) (f : Addr) (k u : Nat) (args : List Value) (need : Heap → Prop) (R : Value → Prop) : Prop :=
  ∀ (p : Program) (loose : List Str) (mean : ExcName → Option Value) (mg mb : Str → Option Value) (dp un : Nat) (gd : Option (List PySem.Code)) (cn : Str) (cs : Scope) (a : Addr) (ccd : Value) (cl : List (Str × Addr)) (A₀ : Around) (base h₀ : Heap) (L : Addr) (m : Str → Option Value) (s : Shared) (ps : Array Value) (Q E : Value → Shared → Prop),
    (Mine.heap w.params).In h₀ → Below A₀ base [] h₀ → Fr h₀ L s.heap m → Top p loose mean mg mb h₀ → CodeHd h₀ 103 99 → (Mine.heap w.params).In base → Top p loose mean mg mb base → CodeHd base 103 99 → News h₀ L s.heap [(99, tabObj ps)] → PsOk lamPos ps → cs.kind = .function → dp + k < recursionLimit → un + u < cLine → 0 < s.toks → need s.heap →
    (∀ v ps' h' tk' dr', UpF [L] (hideAll s.heap [99]) h' → h'.get? 99 = some (tabObj ps') → R v → Q v { s with heap := h', toks := tk', drawn := dr' }) →
    wpAny (model PySem.Challenge.rw_in0282_01.row.prog w) (ktrTop dp un gd cn cs L a ccd cl []) (call (.ref f) args) Q E s
theorem rows_P27_1 : True := by
  k_with_none
  k_with "ne" => (refine neN ?_; (try dsimp only); first | exact Nat.ne_of_lt (by assumption) | exact Nat.ne_of_gt (by assumption) | exact Mine.la0 (by assumption) | exact Mine.ga0 (by assumption) | exact Mine.la1 (by assumption) | exact Mine.ga1 (by assumption) | exact Mine.le1 (by assumption) | exact Mine.ge1 (by assumption) | exact Mine.la2 (by assumption) | exact Mine.ga2 (by assumption) | exact Mine.le2 (by assumption) | exact Mine.ge2 (by assumption) | exact Mine.la3 (by assumption) | exact Mine.ga3 (by assumption) | exact Mine.le3 (by assumption) | exact Mine.ge3 (by assumption) | exact Mine.la4 (by assumption) | exact Mine.ga4 (by assumption) | exact Mine.le4 (by assumption) | exact Mine.ge4 (by assumption) | exact Mine.la5 (by assumption) | exact Mine.ga5 (by assumption) | exact Mine.le5 (by assumption) | exact Mine.ge5 (by assumption) | exact Mine.la6 (by assumption) | exact Mine.ga6 (by assumption) | exact Mine.le6 (by assumption) | exact Mine.ge6 (by assumption) | exact Mine.la7 (by assumption) | exact Mine.ga7 (by assumption) | exact Mine.le7 (by assumption) | exact Mine.ge7 (by assumption) | exact Mine.la8 (by assumption) | exact Mine.ga8 (by assumption) | exact Mine.le8 (by assumption) | exact Mine.ge8 (by assumption))
  k_with "room" => (first | exact Mine.room0 (by assumption) | exact Mine.room1 (by assumption) (by decide) | exact Mine.room2 (by assumption) (by decide))
  k_with "units" => (first | exact Mine.room0 (by assumption) | exact Mine.room1 (by assumption) (by decide) | exact Mine.room2 (by assumption) (by decide))
  k_with "size" => (first | exact Nat.zero_le _ | with_reducible exact Mine.szT (by assumption) | with_reducible exact Mine.szT1 (by assumption) | with_reducible exact Mine.szK (by assumption) | with_reducible exact Mine.szK1 (by assumption))
  k_with "Kont" => ((try dsimp only); first | (refine' Mine.kont_next ?L_k ?_; (case L_k => assumption); intro tkp htkp) | (refine' Mine.kont_ret ?L_k ?_; (case L_k => assumption)) | (refine' Mine.kont_brk ?L_k ?_; (case L_k => assumption)) | (refine' Mine.kont_cont ?L_k ?_; (case L_k => assumption)))
  k_with "execs cons" => (k_here; first | refine Mine.execs_one ?_ | ((first | (refine' Mine.execs_kont ?kp_k ?_; (case kp_k => assumption)) | (refine Mine.gen_pos ?kp_k ?_; (case kp_k => first | assumption | exact Nat.succ_pos _ | omega); intro tkp htkp; refine Mine.execs_kont htkp ?_)); intro K9 hK9))
  k_with "call ref" => (k_here; k_dflt (refine' Mine.Tell.use (Mine.WordsC.tell (by assumption)) ?X ?B ?F ?N ?T ?hk ?hd ?hu ?ht ?hn ?_; (case X => k_asm); (case B => k_asm); (case F => k_asm); (case N => k_asm); (case T => k_asm); (case hk => first | exact rfl | assumption); (case hd => ktr_room); (case hu => ktr_units); (case ht => first | assumption | exact Nat.succ_pos _ | omega | (dsimp only; omega)); (case hn => is_list); k_whole; intro v9 own9 h9 tk9 F9 N9 ne9 p9 R9; obtain ⟨l8, vs8, n8, e8, o8, hv8⟩ := R9; subst e8; subst o8; (try simp only [List.cons_append, List.nil_append] at N9); (try dsimp only)))
  k_with "call ref" => (k_here; k_dflt (refine' Mine.Tell.use (Mine.PagesC.tell (by assumption) (by assumption)) ?X ?B ?F ?N ?T ?hk ?hd ?hu ?ht ?hn ?_; (case X => k_asm); (case B => k_asm); (case F => k_asm); (case N => k_asm); (case T => k_asm); (case hk => first | exact rfl | assumption); (case hd => ktr_room); (case hu => ktr_units); (case ht => first | assumption | exact Nat.succ_pos _ | omega | (dsimp only; omega)); (case hn => is_list); k_whole; intro v9 own9 h9 tk9 F9 N9 ne9 p9 R9; obtain ⟨lp8, np8, a08, a18, a28, a38, a48, v08, v18, v28, v38, v48, e8, o8, t08, t18, t28, t38, t48⟩ := R9; subst e8; subst o8; (try simp only [List.cons_append, List.nil_append] at N9); (try dsimp only)))
  k_with "execs cons" => ((with_reducible show wpAny _ _ (execs (Stmt.While _ _ _ _ :: _) _) _ _ _); refine Mine.hold ?_)
  k_with "subscriptTail Name Slice str ref" => (k_here; (with_reducible show wpAny _ _ (subscriptTail _ (Expr.Slice none (some _) none _) _ _) _ _ _); (with_reducible rename Fr _ _ _ _ => F8); (with_reducible rename News _ _ _ _ => N8); (refine' Mine.slice_to (s := ⟨_, _, _, _, _⟩) F8 N8 ?hj ?h0 ?h1 ?hl ?_ ?hs ?ht; (case hj => assumption); (case h0 => first | exact Mine.nn0 | exact Mine.nn1 | exact Mine.nn2 | exact Mine.nn3 | omega); (case h1 => assumption); (case hl => assumption); (case hs => with_unfolding_all rfl); (case ht => (intro _; with_unfolding_all rfl)); k_whole); intro h9 t9 k9 F9 N9; clear F8 N8; (try dsimp only))
  k_with "subscriptTail Name Slice str ref" => (k_here; (with_reducible show wpAny _ _ (subscriptTail _ (Expr.Slice (some _) none none _) _ _) _ _ _); (with_reducible rename Fr _ _ _ _ => F8); (with_reducible rename News _ _ _ _ => N8); (refine' Mine.slice_from (s := ⟨_, _, _, _, _⟩) F8 N8 ?hi ?h0 ?h1 ?hl ?_ ?hs ?ht; (case hi => assumption); (case h0 => first | exact Mine.nn0 | exact Mine.nn1 | exact Mine.nn2 | exact Mine.nn3 | omega); (case h1 => assumption); (case hl => assumption); (case hs => with_unfolding_all rfl); (case ht => (intro _; with_unfolding_all rfl)); k_whole); intro h9 t9 k9 F9 N9; clear F8 N8; (try dsimp only))
  k_with "binaryOp Add str str" => (k_here; (with_reducible show wpAny _ _ (binaryOp _ (Value.str (Mine.T _) _) (Value.str (Mine.T _) _)) _ _ _); k_dflt ((refine' Mine.add_S ?hx ?hy ?hl ?hl2 ?_; (case hx => exact rfl); (case hy => exact rfl); (case hl => assumption); (case hl2 => assumption); k_whole); intro t9 k9; (try dsimp only)))
  k_with "call builtin:sorted" => (k_here; refine Mine.hold ?_)
  k_with "compareOp NotEq ref ref" => (k_here; k_dflt (refine' Mine.ne_TL ?hl ?hb ?hx ?hy ?hu ?_; (case hl => is_list); (case hb => is_list); (case hx => assumption); (case hy => assumption); (case hu => ktr_units); k_whole; (try dsimp only)))
  k_with "call builtin:len" => (k_here; k_dflt (refine' Mine.len_L ?hl ?hz ?hn ?_; (case hl => is_list); (case hz => assumption); (case hn => assumption); k_whole; intro t9 k9; (try dsimp only)))
  k_with "inplaceOp Add str str" => (k_here; k_dflt (refine' Mine.iadd_T ?hl ?hl2 ?_; (case hl => assumption); (case hl2 => assumption); k_whole); intro t9 k9; (try dsimp only))
  k_with "call builtin:len" => (k_here; (with_reducible show wpAny _ _ (call _ [Value.str (Mine.T _) _]) _ _ _); k_dflt (refine' Mine.len_T ?hl ?_; (case hl => assumption); k_whole; intro t9 k9; (try dsimp only)))
  k_with "CompSrc" => (k_here; refine Mine.hold ?_)
  k_with "subscriptTail Name Slice str ref" => (k_here; (with_reducible show wpAny _ _ (subscriptTail _ (Expr.Slice (some _) (some _) none _) _ _) _ _ _); (with_reducible rename Fr _ _ _ _ => F8); (with_reducible rename News _ _ _ _ => N8); (refine' Mine.slice_TT (s := ⟨_, _, _, _, _⟩) F8 N8 ?hx ?h0 ?h1 ?h2 ?hl ?_ ?hs ?ht; (case hx => assumption); (case h0 => first | exact Mine.nn0 | exact Mine.nn1 | exact Mine.nn2 | exact Mine.nn3 | omega); (case h1 => omega); (case h2 => assumption); (case hl => assumption); (case hs => with_unfolding_all rfl); (case ht => (intro _; with_unfolding_all rfl)); k_whole); intro h9 t9 k9 F9 N9; clear F8 N8; (try dsimp only))
  k_with "CompEnd" => (k_here; k_dflt ((refine' Mine.end_same ?F ?N ?sub ?off ?hS ?_; (case F => k_asm); (case N => k_asm); (case sub => lcg_sub); (case off => first | assumption | lcg_off); (case hS => lcg_src); exact ⟨_, rfl⟩)))
  k_with "FinE" => ((unfold LCg.FinE); intro D9 h9 tk9 F9 N9 o9; (try clear o9); (try simp only [List.nil_append, List.cons_append] at N9); (try dsimp only))
  k_with "compareOp Eq ref ref" => (k_here; k_dflt (refine' Mine.eq_TL ?hl ?hb ?hx ?hy ?hu ?_; (case hl => exact Mine.isl (by k_asm) (by k_mem)); (case hb => exact Mine.isl (by k_asm) (by k_mem)); (case hx => assumption); (case hy => assumption); (case hu => ktr_units); k_whole; (try dsimp only)))
  k_with "SrcSet" => (k_here; refine Mine.hold ?_)
  k_with "eval SetComp" => (k_here; refine Mine.hold ?_)
  k_with "truthy ref" => (k_here; k_dflt (refine' Mine.truthy_cons ?hl ?hz ?_; (case hl => is_list); (case hz => assumption); k_whole; intro k9; (try dsimp only)))
  k_with "subscriptTail Name Constant ref int" => (k_here; k_dflt (refine' Mine.item_L ?hl ?hx ?h0 ?hi ?_ ?hs ?hg; (case hl => is_list); (case hx => assumption); (case h0 => first | exact Mine.nn0 | exact Mine.nn1 | exact Mine.nn2 | exact Mine.nn3 | omega); (case hi => omega); (case hs => with_unfolding_all rfl); (case hg => (intro _; with_unfolding_all rfl)); k_whole; (try dsimp only)))
  k_with "subscriptTail Name BinOp ref int" => (k_here; refine Mine.hold ?_)
  k_with "eval Name" => (k_here; k_dflt (refine' nameX_L ?nF ?nv ?_ ?na ?nb ?nc; (case nF => k_asm); (case nv => first | exact rfl | assumption); (case na => rfl); (case nb => rfl); (case nc => decide); k_whole))
  k_with "loadName" => (k_here; k_dflt (refine' Mine.loadX_L ?nF ?nv ?_ ?na ?nb; (case nF => k_asm); (case nv => first | exact rfl | assumption); (case na => rfl); (case nb => rfl); k_whole))
  k_with "storeName" => (k_here; (first | (with_reducible show wpAny _ _ (storeName _ (PySem.Str.ofString "first") _) _ _ _) | (with_reducible show wpAny _ _ (storeName _ (PySem.Str.ofString "twice") _) _ _ _)); refine Mine.hold ?_)
  k_with "call ref" => (k_here; (first | (with_reducible show wpAny _ _ (call (Value.ref 167) _) _ _ _) | (with_reducible show wpAny _ _ (call (Value.ref 172) _) _ _ _) | (with_reducible show wpAny _ _ (call (Value.ref 177) _) _ _ _)); refine Mine.hold ?_)
  trivial
theorem c_right (w : World) (sg : List Nat) (size N9 : Nat) (way : Int) (l : Addr) (vs : List Value) (ts tw : Tok) (hs : TL vs (sg.map fun d => [d])) (hsg : sg.length ≤ 4) (h47 : 47 ∉ sg) (hz : size ≤ 4) (hz0 : 2 ≤ size) (hN20 : N9 ≤ 20) (hWs : size ≤ (wordsN sg size).length) (hW63 : (wordsN sg size).length < 64) (hsh : Shape4 size N9 (wordsN sg size))
    (hcw : WordsC w l size vs (wordsN sg size))
    (hcp : PagesC w (wordsN sg size)) :
    TellR w 182 12 300 [.ref l, .int (size : Int) ts, .int way tw] (fun h => h.IsList l vs.toArray) (fun v => v = .bool true) := by
  have hWl0 := wordsN_small hsg hz
  obtain ⟨W, hW⟩ : ∃ W, W = wordsN sg size := ⟨_, rfl⟩
  rw [← hW] at hWl0
  rw [← hW] at hsh hcw hcp
  unfold TellR
  k_fill
  intro p loose mean mg mb dp un gd cn cs a ccd cl A₀ base h₀ L m s ps Q E X B F T C Xb Tb Cb N hps hk hd hu ht hn hret
  refine wpAny_call ?_
  have hN99 := (N _ (.head _)).1
  k_dflt (refine' Mine.enterRC ?k0 ?k1 ?k2 ?k3 ?k5 ?kC ?kN ?kA ?kF ?kK ?k6 ?k7 ?k8 ?k9 ?kB ?kD ?_ ?c2 ?c3 ?c4; (case kA => exact rfl); (case kF => exact rfl); (case kK => assumption); (case k0 => assumption); (case k1 => k_asm); (case k2 => k_asm); (case k3 => k_asm); (case k5 => k_asm); (case kC => assumption); (case kN => assumption); (case k6 => k_is); (case k7 => k_is); (case k8 => ktr_room); (case k9 => exact BindsTo.of_eq rfl); (case kB => exact rfl); (case kD => decide +kernel); (case c2 => exact rfl); (case c3 => exact rfl); (case c4 => exact rfl); k_whole; intro g' L' h' tk' cells' eg' F' N' Y' B' X' T' C' l99' U' p9'; k_cells Y'; (try simp only [List.cons_append, List.nil_append] at N'); (try dsimp only); (try k_fold))
  have hln : g'.IsList l vs.toArray := by
    obtain ⟨o, e, hc, r⟩ := hn
    subst eg'
    exact ⟨o, hideAll_get _ e (fun q => by rw [List.mem_singleton] at q; rw [q, hN99] at e; rw [← Option.some.inj e] at hc; cases hc), hc, r⟩
  k_steps
  unfold Hold
  (rename Fr _ _ _ _ => FX); (rename News _ _ _ _ => NX)
  have hU0 : UpF (frsO [envX cn cs L a ccd cl]) g' g' := U'
  refine r_cut (w := w) (base := base) (g₀ := g') (Wd := W) (size := size) (N9 := N9) (wv := way) (by first | assumption | exact Nat.succ_pos _ | omega) ⟨B', X', T', C', hU0⟩ FX NX hps (by assumption) (by assumption) (by assumption) ⟨rfl, ⟨_, rfl⟩, ⟨_, rfl⟩, rfl, rfl⟩ (by assumption) (by assumption) (by assumption) (by assumption) (by assumption) (by assumption) ?_ ?_
  · rintro lp lw a0 a1 a2 a3 a4 v0 v1 v2 v3 v4 vw np nw t0 t1 t2 t3 t4 hvw n s' hp hI
    refine RI.elimP hI hp ?_
    clear hI hp
    intro dr2 g h2 tk2 m2 ps2 oF oT oS lf vl nl wv j tS vF vT G F2 N2 hps2 dF dT dS hl hv hj hp
    clear FX NX hU0 U' B' X' T' C' hps
    have ll := hl.left
    obtain ⟨tr, lr⟩ := hl.ring
    obtain ⟨tw2, lw2⟩ := hl.way
    have lwo := hl.words
    have lpa := hl.pages
    obtain ⟨B2, X2, T2, C2, U2⟩ := G
    cases n with
    | zero =>
      have hj0 : j = N9 := by omega
      subst hj0
      have hve : vl = [] := by
        have := hv.len
        rw [hsh.done] at this
        exact List.length_eq_zero_iff.mp this
      subst hve
      have N2u := hold N2
      unfold rled at N2
      k_steps
      · trivial
      · unfold Hold at N2u
        exact RI.mk ⟨B2, X2, T2, C2, U2⟩ F2 N2u hps2 ⟨_, dF⟩ ⟨_, dT⟩ dS ⟨ll, ⟨_, lr⟩, ⟨_, lw2⟩, lwo, lpa⟩ hv hj
    | succ n =>
      obtain ⟨first, r, C', hL, hgW, hcirc, hlt, hnl, hrot, hrotc, hpc, hsub, hpl⟩ := (hsh.good j (by omega)).ex
      have hjl := run_len W j
      rw [hL] at hv hjl
      have hvz : r.length ≤ 100000 := by simp only [List.length_cons] at hjl; omega
      obtain ⟨tf, vr, rfl, hvr⟩ := TL_cons hv
      have hvz2 : vr.length ≤ 100000 := by rw [hvr.len]; exact hvz
      have hx0 : (List.toArray (Value.str (Mine.T first) tf :: vr))[(0 : Int).toNat]? = some (.str (Mine.T first) tf) := rfl
      have N2u := hold N2
      unfold rled at N2
      k_steps
      unfold Hold at N2u ⊢
      refine storeX_C F2 N2u rfl (rF N2u dF dT dS l99') dF (fun h3 oF3 F3 N3 dF3 => ?_)
      clear F2 N2 N2u
      have N3u := hold N3
      unfold rled at N3
      k_steps
      unfold Hold
      unfold Hold at N3u
      have hi0 : ∀ x : Int, 0 ≤ Int.fmod x 5 ∧ Int.fmod x 5 < 5 := fun x => ⟨Int.fmod_nonneg_of_pos x (by decide), Int.fmod_lt_of_pos x (by decide)⟩
      obtain ⟨hi1, hi2⟩ := hi0 wv
      obtain ⟨kk, ak, vk, hpk, hmk, hTk⟩ := page_at hi1 hi2 t0 t1 t2 t3 t4 N3u
      refine item_L (its := #[.ref a0, .ref a1, .ref a2, .ref a3, .ref a4]) ⟨_, (N3 _ (.tail _ (.head _))).1, rfl, _, rfl⟩ hpk hi1 (by omega) ?_
      k_steps
      unfold Hold
      have hfl : first.length = size := by rw [hW] at hgW; exact wordsN_each sg size first hgW
      have hf0 : first ≠ [] := by intro e; rw [e] at hfl; simp at hfl; omega
      have hxl : ∀ x ∈ W, x.length ≤ 4 := fun x hx => by rw [hW] at hx; rw [wordsN_each sg size x hx]; exact hz
      refine TellP.use (c_circle w kk first W lw ak vw vk nw 0 _ hvw hTk hgW hf0 (by omega) hxl) X2 B2 F3 N3u T2 C2 (rP N3u dF3 dT dS l99') hps2 (by first | exact rfl | assumption) (by ktr_room) (by ktr_units) (by first | assumption | exact Nat.succ_pos _ | omega | (dsimp only; omega)) ⟨(N3 (lw, _) (by k_mem)).1, hmk⟩ ?_
      intro vC ownC psC hC tkC FC NC neC hpsC pC RC
      obtain ⟨lc, vc, nc, rfl, rfl, hvc⟩ := RC
      clear F3 N3 N3u hmk neC
      have hcC : W.filter (isTurn first) = first :: C' := hcirc
      rw [hcC] at hvc
      unfold rledO at NC
      (simp only [List.cons_append, List.nil_append] at NC)
      k_steps
      unfold Hold
      (rename Fr _ _ _ _ => FD); (rename News _ _ _ _ => ND)
      refine SetComp_R (_F₀ := FD) (by with_unfolding_all rfl) (by decide) (by rfl) (by decide) (by rfl) ?_
      k_steps
      unfold Hold
      (rename IsRange _ _ _ _ _ _ _ _ => hrg); (rename Fr _ _ _ _ => FE); (rename News _ _ _ _ => NE)
      have hfl1 : first.length ≤ 100000 := by omega
      refine ⟨_, _, _, _, size, rotK first, _, rfl, hrg, rfl, hz, FE, NE, ?_, ?_⟩
      · intro i ti zs h4 tk4 Cc oC m₂ E' hi hC hxk F4 N4
        clear FE NE hrg
        (simp only [List.cons_append, List.nil_append] at N4)
        have hd1 : first.drop ((i : Nat) : Int).toNat = first.drop i := by rw [Int.toNat_natCast]
        have ht1 : first.take ((i : Nat) : Int).toNat = first.take i := by rw [Int.toNat_natCast]
        have hb1 : ((i : Nat) : Int) ≤ ((first.length : Nat) : Int) := by omega
        have hdl1 : (first.drop i).length ≤ 100000 := by rw [List.length_drop]; omega
        have htl1 : (first.take i).length ≤ 100000 := by rw [List.length_take]; omega
        k_steps
        exact zend (by k_asm) (by k_asm) ⟨_, rfl⟩
      · intro D o xs h5 tk5 hTS hmem hxn F5 N5 hne5
        clear FE NE hrg
        have hnd : xs.Nodup := hTS.nd
        rw [hcirc] at hrot hrotc hpc hsub
        rw [hL] at hpl hsub
        have hmC : ∀ y, y ∈ xs ↔ y ∈ first :: C' := fun y => by
          rw [hmem y]
          constructor
          · rintro ⟨i, hi, rfl⟩; exact hrot i hi
          · intro hy; obtain ⟨i, hi, e⟩ := hrotc y hy; exact ⟨i, hi, e⟩
        k_steps
        unfold Hold
        refine sorted_Set (xs := xs) rfl F5 N5 (.head _) hTS (by omega) (fun D2 h6 tk6 d6 vs' xs' e6 F6 N6 ne6 hT6 hp6 hs6 => ?_)
        have hxs' : xs' = first :: C' := sorted_unique hp6 hnd hs6 hpc hmC
        subst hxs'
        clear F5 N5
        have N6b := news_mid N6
        clear N6
        have hCl : C'.length + 1 ≤ size := by
          have := hp6.length_eq
          simp only [List.length_cons] at this
          omega
        have hC20 : C'.length ≤ 20 := by omega
        k_steps
        unfold Hold
        (rename Fr _ _ _ _ => F7); (rename News _ _ _ _ => N7)
        refine Tell.use (c_least w first C' lc vc _ hvc hlt hnl hC20) X2 B2 F7 N7 T2 (by first | exact rfl | assumption) (by ktr_room) (by ktr_units) (by first | assumption | exact Nat.succ_pos _ | omega | (dsimp only; omega)) ⟨_, (N7 (lc, lstObj (List.toArray vc) nc) (by k_mem)).1, rfl, _, rfl⟩ ?_
        intro vL ownL hL7 tkL FL NL neL pL RL
        obtain ⟨rfl, rfl⟩ := RL
        clear F7 N7 neL
        (simp only [List.nil_append] at NL)
        k_steps
        unfold Hold
        (rename Fr _ _ _ _ => F8); (rename News _ _ _ _ => N8)
        refine TellU.use (c_left w (first :: r) (first :: C') lf lc (Value.str (Mine.T first) tf :: vr) vc nl nc hv hvc hpl hpc hsub (by omega)) X2 B2 F8 N8 T2 Xb Tb U2 (by first | exact rfl | assumption) (by ktr_room) (by ktr_units) (by first | assumption | exact Nat.succ_pos _ | omega | (dsimp only; omega)) ⟨(N8 (lf, PySem.W.listOf (List.toArray (Value.str (Mine.T first) tf :: vr)) nl) (by k_mem)).1, (N8 (lc, lstObj (List.toArray vc) nc) (by k_mem)).1⟩ ?_
        intro vR ownR g3 hR9 tkR B3 X3 T3 st3 U3 FR NR neR _ pR RR
        obtain ⟨ln, vn, nn, rfl, rfl, hvn⟩ := RR
        have C3 := Cb.keeps st3
        clear F8 N8 neR B2 X2 T2 C2 U2
        (simp only [List.cons_append, List.nil_append] at NR)
        have hvcs : (List.toArray vc).size = C'.length + 1 := by have := hvc.len; simpa using this
        have hvcz : (List.toArray vc).size ≤ 100000 := by omega
        have hvcn : (((List.toArray vc).size : Nat) : Int) = ((C'.length + 1 : Nat) : Int) := by rw [hvcs]
        have htk : first.take ((C'.length + 1 : Nat) : Int).toNat = first.take (C'.length + 1) := by rw [Int.toNat_natCast]
        have hbd : ((C'.length + 1 : Nat) : Int) ≤ ((first.length : Nat) : Int) := by omega
        have hrl := (run_ring hxl j).2
        have hrl2 : (runW W j).2.length ≤ 100000 := by omega
        have htl3 : (first.take (C'.length + 1)).length ≤ 100000 := by rw [List.length_take]; omega
        have hstep : runW W (j + 1) = (offC (first :: r) (first :: C'), (runW W j).2 ++ first.take (C'.length + 1)) := by
          show stepW W (runW W j) = _
          have e : runW W j = (first :: r, (runW W j).2) := by rw [← hL]
          rw [e]
          show (offC (first :: r) (circ W first), _ ++ first.take (circ W first).length) = _
          rw [hcirc]; rfl
        k_steps
        (rename Fr _ _ _ _ => FZ); (rename News _ _ _ _ => NZ)
        refine RT.mk (nl := nn) ⟨B3, X3, T3, C3, U3⟩ FZ NZ ?_ hpsC ⟨_, dF3⟩ ⟨_, dT⟩ dS ⟨rfl, ⟨_, rfl⟩, ⟨_, rfl⟩, lwo, lpa⟩ hvn hstep (by omega) (Nat.lt_succ_self _)
        intro q hq
        unfold rled at hq
        simp only [List.mem_cons, List.not_mem_nil, or_false] at hq
        rcases hq with rfl | rfl | rfl | rfl | rfl | rfl | rfl | rfl | rfl | rfl | rfl | rfl <;> k_mem
  · rintro lp lw a0 a1 a2 a3 a4 v0 v1 v2 v3 v4 vw np nw t0 t1 t2 t3 t4 hvw s' hp hI
    refine RI.elimP hI hp ?_
    clear hI hp
    intro dr2 g h2 tk2 m2 ps2 oF oT oS lf vl nl wv j tS vF vT G F2 N2 hps2 dF dT dS hl hv hj hp
    clear FX NX hU0 U' B' X' T' C' hps
    have ll := hl.left
    obtain ⟨tr, lr⟩ := hl.ring
    obtain ⟨tw2, lw2⟩ := hl.way
    have lwo := hl.words
    obtain ⟨B2, X2, T2, C2, U2⟩ := G
    have hj0 : j = N9 := by omega
    subst hj0
    have hxl : ∀ x ∈ W, x.length ≤ 4 := fun x hx => by rw [hW] at hx; rw [wordsN_each sg size x hx]; exact hz
    have hrl := (run_ring hxl j).2
    obtain ⟨R, hR⟩ : ∃ R, R = (runW W j).2 := ⟨_, rfl⟩
    have hperm := hsh.perm
    rw [← hR] at lr hrl hperm
    have hrl2 : R.length ≤ 100000 := by omega
    have N2u := hold N2
    unfold rled at N2
    have hRW : R.length = W.length := by have := hperm.length_eq; unfold winds at this; simpa using this
    have hRs : size ≤ R.length := by rw [hRW, hW]; exact hWs
    k_steps
    unfold Hold at N2u ⊢
    refine storeX_C F2 N2u rfl (rT N2u dF dT dS l99') dT (fun h3 oT3 F3 N3 dT3 => ?_)
    clear F2 N2 N2u
    unfold rled at N3
    k_steps
    unfold Hold
    (rename IsRange _ _ _ _ _ _ _ _ => hrg); (rename Fr _ _ _ _ => FE); (rename News _ _ _ _ => NE)
    have hRR : (R ++ R).length ≤ 100000 := by rw [List.length_append]; omega
    refine LCg.CompSrc.range (n := R.length) rfl FE NE hrg ?hsm ?hn ?hsz (fun g9 => rest_allB (xs := List.range R.length) (fun a v => ∃ t, v = .int ((a : Nat) : Int) t) (fun a y => ∃ t, y = .str (Mine.T (((R ++ R).drop a).take size)) t) (by simp) ?src ?turn ?fin)
    case hsm => exact small_of (by omega)
    case hn => rw [rangeSize_nat]; simp
    case hsz => rw [sizeLine_eq]; omega
    case src =>
      rintro i v hi ⟨t, rfl⟩
      exact ⟨i, by simp [hi], t, by simp⟩
    case turn =>
      intro i v I oI Cc oC D m₂ ys h5 tk5 E' hi hv5 hl5 hC hx5 F5 N5 off5 ne5
      obtain ⟨ti, rfl⟩ := hv5
      have hiR : i < R.length := List.mem_range.mp hi
      clear FE NE hrg
      have hsl : ((R ++ R).drop ((i : Nat) : Int).toNat).take (((i : Nat) : Int) + ((size : Nat) : Int) - ((i : Nat) : Int)).toNat = ((R ++ R).drop i).take size := by
        rw [Int.toNat_natCast, show ((i : Nat) : Int) + ((size : Nat) : Int) - ((i : Nat) : Int) = ((size : Nat) : Int) by omega, Int.toNat_natCast]
      have hsb : ((i : Nat) : Int) + ((size : Nat) : Int) ≤ (((R ++ R).length : Nat) : Int) := by rw [List.length_append]; omega
      have off8 := off5
      (try simp only [LCg.Off3, and_true] at off8)
      k_steps
    case fin =>
      intro ys hys
      have hTw : TL ys (winds R size) := hys.toTL1
      k_steps
      unfold Hold
      (rename Fr _ _ _ _ => F6); (rename News _ _ _ _ => N6)
      have hndW : W.Nodup := hsh.pw.imp (fun {a b} (h : a < b) (e : a = b) => List.lt_irrefl a (by rw [← e] at h; exact h))
      refine sorted_M F6 N6 (.head _) hTw (by rw [hperm.length_eq, hW]; exact hW63) (fun D2 h7 vs' xs' e7 F7 N7 hT7 hp7 hs7 => ?_)
      have hxs' : xs' = W := sorted_unique hp7 (hperm.nodup_iff.mpr hndW) hs7 hsh.pw fun y => hperm.mem_iff
      subst hxs'
      k_steps
      (rename Fr _ _ _ _ => FZ); (rename News _ _ _ _ => NZ)
      refine leaveU_ U2 FZ NZ (fun up own => ?_)
      have h99 := (own (99, tabObj ps2) (by simp)).1
      refine hret _ ps2 _ _ _ ?_ h99 rfl
      subst eg'
      exact up
end Mine
end
theorem Mine.walk_off_P27 : True := by
  w_top off
  k_with_none
  trivial
section
open PySem PySem.W PyProof.Rows PySem.Calls PySem.Spec
set_option Elab.async false
set_option maxRecDepth 100000
set_option maxHeartbeats 1500000
namespace Mine
theorem ints_get {vs : List Value} {ns : List Int} (h : IntsAre vs ns) : ∀ (i : Nat) (v : Value), vs[i]? = some v → ∃ a, ns[i]? = some a ∧ isI a v := by
  induction h with
  | nil => intro i v e; simp at e
  | cons a t _ ih =>
    intro i v e
    cases i with
    | zero => simp at e; subst e; exact ⟨a, rfl, t, rfl⟩
    | succ i => exact ih i v (by simpa using e)
theorem ints_len {vs : List Value} {ns : List Int} (h : IntsAre vs ns) : vs.length = ns.length := by
  induction h with
  | nil => rfl
  | cons _ _ _ ih => simp [ih]
theorem szz {ys : List Value} {its : Array Value} {lo : Option Int} (h : (List.toArray ys).size ≤ 100000) (h3 : its.size ≤ 3 := by exact Nat.le_of_ble_eq_true rfl) : (List.toArray ys).toList.length + (slicePick its lo none none).toList.length ≤ sizeLine := by
  have := slicePick_size_le its lo none none
  rw [sizeLine_eq, Array.length_toList, Array.length_toList]
  omega
theorem sp0 (a b c : Value) : (slicePick #[a, b, c] (some (((0 : Nat)) : Int)) none none).toList = [a, b, c] := by first | rfl | with_unfolding_all rfl | kernel_rfl
theorem sp1 (a b c : Value) : (slicePick #[a, b, c] (some (((1 : Nat)) : Int)) none none).toList = [b, c] := by first | rfl | with_unfolding_all rfl | kernel_rfl
theorem sp2 (a b c : Value) : (slicePick #[a, b, c] (some (((2 : Nat)) : Int)) none none).toList = [c] := by first | rfl | with_unfolding_all rfl | kernel_rfl
theorem sp3 (a b c : Value) : (slicePick #[a, b, c] (some (((3 : Nat)) : Int)) none none).toList = [] := by first | rfl | with_unfolding_all rfl | kernel_rfl
theorem three0 {ys : List Value} {zs3 : List Int} {t1 t2 t3 : Tok} {f : Int → Int} (h : All2 isI (zs3.map f) ys) (hl : zs3.length ≤ 3) : ∃ n0 n1 n2 u0 u1 u2, (List.toArray ys).toList ++ (slicePick #[Value.int 18 t1, Value.int 65 t2, Value.int 0 t3] (some ((zs3.length : Nat) : Int)) none none).toList = [Value.int n0 u0, Value.int n1 u1, Value.int n2 u2] := by
  match zs3, hl with
  | [], _ =>
    cases h
    exact ⟨_, _, _, _, _, _, sp0 _ _ _⟩
  | [a], _ =>
    cases h with
    | cons h1 h2 =>
      obtain ⟨u, rfl⟩ := h1
      cases h2
      exact ⟨_, _, _, _, _, _, congrArg (List.cons _) (sp1 _ _ _)⟩
  | [a, b], _ =>
    cases h with
    | cons h1 h2 =>
      obtain ⟨u, rfl⟩ := h1
      cases h2 with
      | cons h3 h4 =>
        obtain ⟨u2, rfl⟩ := h3
        cases h4
        exact ⟨_, _, _, _, _, _, congrArg (fun l => _ :: _ :: l) (sp2 _ _ _)⟩
  | [a, b, c], _ =>
    cases h with
    | cons h1 h2 =>
      obtain ⟨u, rfl⟩ := h1
      cases h2 with
      | cons h3 h4 =>
        obtain ⟨u2, rfl⟩ := h3
        cases h4 with
        | cons h5 h6 =>
          obtain ⟨u3, rfl⟩ := h5
          cases h6
          exact ⟨_, _, _, _, _, _, congrArg (fun l => _ :: _ :: _ :: l) (sp3 _ _ _)⟩
  | a :: b :: c :: d :: r, hl => simp at hl
noncomputable def lawN (z : Int) : Int := Int.fmod z 100000000
noncomputable def SignsOk (many : Nat) (vs : List Value) : Prop := ∃ sg : List Nat, sg.length = many ∧ sg.Pairwise (· < ·) ∧ 47 ∉ sg ∧ TL vs (sg.map fun d => [d])
theorem rsigns {many : Nat} {v : Value} {own : List (Addr × Obj)} (R : RSigns many v own) : ∃ l vs n, v = .ref l ∧ own = [(l, PySem.W.listOf (List.toArray vs) n)] ∧ SignsOk many vs := by
  obtain ⟨sg, h1, h2, h3, l, vs, n, e1, e2, h4⟩ := R
  exact ⟨l, vs, n, e1, e2, sg, h1, h2, h3, h4⟩
theorem pairs_mem {as bs : List (List Nat)} {x : List Nat} (h : x ∈ allPairs as bs) : ∃ a ∈ as, ∃ b ∈ bs, x = a ++ b := by
  unfold allPairs at h
  simp only [List.mem_flatMap, List.mem_map] at h
  obtain ⟨a, ha, b, hb, e⟩ := h
  exact ⟨a, ha, b, hb, e.symm⟩
theorem words_no {sg : List Nat} (h : 47 ∉ sg) : ∀ k, ∀ x ∈ wordsN sg k, 47 ∉ x
  | 0, x, hx => by
    have : x = [] := by simpa [wordsN] using hx
    subst this; simp
  | k + 1, x, hx => by
    obtain ⟨a, ha, b, hb, rfl⟩ := pairs_mem hx
    obtain ⟨c, hc, rfl⟩ := List.mem_map.mp hb
    intro q
    rcases List.mem_append.mp q with q | q
    · exact words_no h k a ha q
    · rw [List.mem_singleton] at q; exact h (q ▸ hc)
theorem inter_le : ∀ ws : List (List Nat), (List.intercalate [47] ws).length ≤ (ws.map (·.length)).sum + ws.length
  | [] => by simp [List.intercalate]
  | [x] => by simp [List.intercalate, List.intersperse]
  | x :: y :: r => by
    have ih := inter_le (y :: r)
    have e : List.intercalate [47] (x :: y :: r) = x ++ [47] ++ List.intercalate [47] (y :: r) := by simp [List.intercalate, List.intersperse]
    rw [e, List.length_append, List.length_append, List.map_cons, List.sum_cons, List.length_cons (a := x)]
    simp only [List.length_singleton]
    omega
theorem sum_each {size : Nat} : ∀ ws : List (List Nat), (∀ x ∈ ws, x.length = size) → (ws.map (·.length)).sum = ws.length * size
  | [], _ => by simp
  | x :: r, h => by
    rw [List.map_cons, List.sum_cons, sum_each r fun y hy => h y (.tail _ hy), h x (.head _), List.length_cons, Nat.succ_mul, Nat.add_comm]
theorem pages_of {w : World} {sg : List Nat} {size : Nat} (h47 : 47 ∉ sg) (hz : size ≤ 4) (hz0 : size ≤ (wordsN sg size).length) (h2 : 2 ≤ size) (h64 : (wordsN sg size).length < 64) : PagesC w (wordsN sg size) := by
  intro l vs hv
  have hs := sum_each _ (wordsN_each sg size)
  have hi := inter_le (wordsN sg size)
  have hm : (wordsN sg size).length * size ≤ 64 * 4 := Nat.mul_le_mul (by omega) hz
  rw [hs] at hi
  refine c_pages w (wordsN sg size) l vs hv (fun e => by rw [e] at hz0; simp at hz0; omega) (words_no h47 size) (by omega) (by rw [hs]; omega) (fun x hx => by rw [wordsN_each sg size x hx]; omega) ?_
  rw [List.size_toArray, hv.len, sizeLine_eq]
  omega
theorem right_of {w : World} {many size N9 : Nat} (hsh : Shape4 size N9 (wordsN (List.range many) size)) (cw : ∀ (sg : List Nat) (l : Addr) (vs : List Value) (ts : Tok), TL vs (sg.map fun c => [c]) → sg.length ≤ 4 → Tell w 150 3 24 [.ref l, .int (size : Int) ts] (fun h => h.IsList l vs.toArray) (RList (wordsN sg size)))
    (hm : many ≤ 4) (hz : size ≤ 4) (hz0 : 2 ≤ size) (hN : N9 ≤ 20) (hbig : size ≤ many ^ size) (h64 : many ^ size < 64) {vs : List Value} (h : SignsOk many vs) (l : Addr) (way : Int) (ts tw : Tok) :
    TellR w 182 12 300 [.ref l, .int (size : Int) ts, .int way tw] (fun h => h.IsList l (List.toArray vs)) (fun v => v = .bool true) := by
  obtain ⟨sg, hl, hp, h47, hT⟩ := h
  have hlen := wordsN_len sg size
  rw [hl] at hlen
  exact c_right w sg size N9 way l vs ts tw hT (by omega) h47 hz hz0 hN (by rw [hlen]; exact hbig) (by rw [hlen]; exact h64) (shape_sg hl hp hsh) (fun t => cw sg l vs t hT (by omega)) (pages_of h47 hz (by rw [hlen]; exact hbig) hz0 (by rw [hlen]; exact h64))
theorem TellR.use {w : World} {f : Addr} {k u : Nat} {args : List Value} {need : Heap → Prop} {R : Value → Prop} (Ct : TellR w f k u args need R)
    {p : Program} {loose : List Str} {mean : ExcName → Option Value} {mg mb : Str → Option Value} {dp un : Nat} {gd : Option (List PySem.Code)} {cn : Str} {cs : Scope} {a : Addr} {ccd : Value} {cl : List (Str × Addr)} {A₀ : Around} {base h₀ : Heap} {L : Addr} {m : Str → Option Value} {s : Shared} {ps : Array Value} {Q E : Value → Shared → Prop}
    (X : (Mine.heap w.params).In h₀) (B : Below A₀ base [] h₀) (F : Fr h₀ L s.heap m) (T : Top p loose mean mg mb h₀) (C : CodeHd h₀ 103 99) (Xb : (Mine.heap w.params).In base) (Tb : Top p loose mean mg mb base) (Cb : CodeHd base 103 99) (N : News h₀ L s.heap [(99, tabObj ps)]) (hps : PsOk lamPos ps) (hk : cs.kind = .function) (hd : dp + k < recursionLimit) (hu : un + u < cLine) (ht : 0 < s.toks) (hn : need s.heap)
    (hret : ∀ v ps' h' tk' dr', (∀ b o, h₀.get? b = some o → h'.get? b = some o) → h'.get? 99 = some (tabObj ps') → R v → Q v { s with heap := h', toks := tk', drawn := dr' }) :
    wpAny (model PySem.Challenge.rw_in0282_01.row.prog w) (ktrTop dp un gd cn cs L a ccd cl []) (call (.ref f) args) Q E s := by
  refine Ct p loose mean mg mb dp un gd cn cs a ccd cl A₀ base h₀ L m s ps Q E X B F T C Xb Tb Cb N hps hk hd hu ht hn fun v ps' h' tk' dr' U e r => hret v ps' h' tk' dr' (fun b o q => ?_) e r
  refine U.same b o (fun hm => ?_) (hideAll_get _ (F.keep b o q) fun hm => ?_)
  · rw [List.mem_singleton.mp hm, Fr.none F] at q; cases q
  · have := (N _ (.head _)).2.2
    rw [List.mem_singleton.mp hm, this] at q; cases q
theorem newsT {g h : Heap} {L : Addr} {all : List (Addr × Obj)} {x : Addr × Obj} (N : News g L h all) (hm : x ∈ all) : News g L h [x] := fun q hq => by
  rw [List.mem_singleton.mp hq]; exact N x hm
theorem rows_FIN_1 : True := by
  k_with_none
  k_with "ne" => (refine neN ?_; (try dsimp only); first | exact Nat.ne_of_lt (by assumption) | exact Nat.ne_of_gt (by assumption) | exact Mine.la0 (by assumption) | exact Mine.ga0 (by assumption) | exact Mine.la1 (by assumption) | exact Mine.ga1 (by assumption) | exact Mine.le1 (by assumption) | exact Mine.ge1 (by assumption) | exact Mine.la2 (by assumption) | exact Mine.ga2 (by assumption) | exact Mine.le2 (by assumption) | exact Mine.ge2 (by assumption) | exact Mine.la3 (by assumption) | exact Mine.ga3 (by assumption) | exact Mine.le3 (by assumption) | exact Mine.ge3 (by assumption) | exact Mine.la4 (by assumption) | exact Mine.ga4 (by assumption) | exact Mine.le4 (by assumption) | exact Mine.ge4 (by assumption) | exact Mine.la5 (by assumption) | exact Mine.ga5 (by assumption) | exact Mine.le5 (by assumption) | exact Mine.ge5 (by assumption) | exact Mine.la6 (by assumption) | exact Mine.ga6 (by assumption) | exact Mine.le6 (by assumption) | exact Mine.ge6 (by assumption) | exact Mine.la7 (by assumption) | exact Mine.ga7 (by assumption) | exact Mine.le7 (by assumption) | exact Mine.ge7 (by assumption) | exact Mine.la8 (by assumption) | exact Mine.ga8 (by assumption) | exact Mine.le8 (by assumption) | exact Mine.ge8 (by assumption))
  k_with "call ref" => (k_here; (with_reducible show wpAny _ _ (call (Value.ref 182) _) _ _ _); refine Mine.hold ?_)
  k_with "CompSrc" => (k_here; refine Mine.hold ?_)
  k_with "CompEnd" => (k_here; k_dflt ((refine' Mine.end_same ?F_z ?N_z ?sub_z ?off_z ?hS_z ?_; (case F_z => k_asm); (case N_z => k_asm); (case sub_z => lcg_sub); (case off_z => first | assumption | lcg_off); (case hS_z => lcg_src); exact ⟨_, rfl⟩)))
  k_with "subscriptTail List cons Slice ref ref" => (k_here; (with_reducible rename Fr _ _ _ _ => F7); (with_reducible rename News _ _ _ _ => N7); refine kba_turn (value' := Expr.Name (PySem.Str.ofString "_") ⟨0, 0, 0, 0⟩) (fun _ => rfl) ?_; (refine' kmk_slice (s := ⟨_, _, _, _, _⟩) (hi := none) F7 N7 ?zl_z ?zp_z ?zq_z ?_ ?zs_z ?zt_z ?zz_z; (case zl_z => is_list); (case zp_z => kmk_part); (case zq_z => kmk_part); (case zs_z => with_unfolding_all rfl); (case zt_z => (intro _; with_unfolding_all rfl)); (case zz_z => exact Nat.le_of_ble_eq_true rfl); k_whole); clear F7 N7; intro D9 h9 F9 N9 lt9; (try k_lt lt9); (try dsimp only))
  k_with "binaryOp Add ref ref" => (k_here; k_dflt (refine' kmk_add_lit ?F_z ?N_z ?a_z ?b_z ?e_z ?_ ?z_z; (case F_z => k_asm); (case N_z => k_asm); (case a_z => is_list); (case b_z => is_list); (case e_z => exact rfl); (case z_z => exact Mine.szz (by assumption)); k_whole); intro D9 h9 F9 N9 lt9; (try k_lt lt9); (try dsimp only))
  k_with "exec Assign cons Subscript" => (k_here; (with_reducible rename slicePick _ _ _ _ = slicePick _ _ _ _ => hh0); refine Mine.hold ?_)
  k_with "subscriptTail Name Constant ref int" => (k_here; k_dflt (refine' Mine.item_L ?hl_z ?hx_z ?h0_z ?hi_z ?_ ?hs_z ?hg_z; (case hl_z => is_list); (case hx_z => assumption); (case h0_z => first | exact Mine.nn0 | exact Mine.nn1 | exact Mine.nn2 | exact Mine.nn3 | omega); (case hi_z => omega); (case hs_z => with_unfolding_all rfl); (case hg_z => (intro _; with_unfolding_all rfl)); k_whole; (try dsimp only)))
  k_with "FinA" => ((unfold LCg.FinA); intro D9 h9 tk9 F9 N9 o9; (try clear o9); (try simp only [List.nil_append, List.cons_append] at N9); (try dsimp only))
  k_with "call builtin:len" => (k_here; k_dflt (refine' Mine.len_L ?hl_z ?hz_z ?hn_z ?_; (case hl_z => is_list); (case hz_z => assumption); (case hn_z => assumption); k_whole; intro t9 k9; (try dsimp only)))
  k_with "Kont" => ((try dsimp only); first | (refine' Mine.kont_next ?L_k ?_; (case L_k => assumption); intro tkp htkp) | (refine' Mine.kont_ret ?L_k ?_; (case L_k => assumption)) | (refine' Mine.kont_brk ?L_k ?_; (case L_k => assumption)) | (refine' Mine.kont_cont ?L_k ?_; (case L_k => assumption)))
  k_with "execs cons" => (k_here; first | refine Mine.execs_one ?_ | ((first | (refine' Mine.execs_kont ?kp_k ?_; (case kp_k => assumption)) | (refine Mine.gen_pos ?kp_k ?_; (case kp_k => first | assumption | exact Nat.succ_pos _ | omega); intro tkp htkp; refine Mine.execs_kont htkp ?_)); intro K9 hK9))
  k_with "call ref" => (k_here; k_dflt (refine' Mine.Tell.use (Mine.c_signs2 _ _ _ _ _ _) ?X_z ?B_z ?F_z ?N_z ?T_z ?hk_z ?hd_z ?hu_z ?ht_z ?hn_z ?_; (case X_z => k_asm); (case B_z => k_asm); (case F_z => k_asm); (case N_z => k_asm); (case T_z => k_asm); (case hk_z => first | exact rfl | assumption); (case hd_z => ktr_room); (case hu_z => ktr_units); (case ht_z => first | assumption | exact Nat.succ_pos _ | omega | (dsimp only; omega)); (case hn_z => trivial); k_whole; intro v9 own9 h9 tk9 F9 N9 ne9 p9 R9; obtain ⟨l8, vs8, n8, e8, o8, R8⟩ := Mine.rsigns R9; subst e8; subst o8; (try simp only [List.cons_append, List.nil_append] at N9); (try dsimp only)))
  k_with "call ref" => (k_here; k_dflt (refine' Mine.Tell.use (Mine.c_signs3 _ _ _ _ _ _) ?X_z ?B_z ?F_z ?N_z ?T_z ?hk_z ?hd_z ?hu_z ?ht_z ?hn_z ?_; (case X_z => k_asm); (case B_z => k_asm); (case F_z => k_asm); (case N_z => k_asm); (case T_z => k_asm); (case hk_z => first | exact rfl | assumption); (case hd_z => ktr_room); (case hu_z => ktr_units); (case ht_z => first | assumption | exact Nat.succ_pos _ | omega | (dsimp only; omega)); (case hn_z => trivial); k_whole; intro v9 own9 h9 tk9 F9 N9 ne9 p9 R9; obtain ⟨l8, vs8, n8, e8, o8, R8⟩ := Mine.rsigns R9; subst e8; subst o8; (try simp only [List.cons_append, List.nil_append] at N9); (try dsimp only)))
  k_with "call ref" => (k_here; k_dflt (refine' Mine.Tell.use (Mine.c_signs4 _ _ _ _ _ _) ?X_z ?B_z ?F_z ?N_z ?T_z ?hk_z ?hd_z ?hu_z ?ht_z ?hn_z ?_; (case X_z => k_asm); (case B_z => k_asm); (case F_z => k_asm); (case N_z => k_asm); (case T_z => k_asm); (case hk_z => first | exact rfl | assumption); (case hd_z => ktr_room); (case hu_z => ktr_units); (case ht_z => first | assumption | exact Nat.succ_pos _ | omega | (dsimp only; omega)); (case hn_z => trivial); k_whole; intro v9 own9 h9 tk9 F9 N9 ne9 p9 R9; obtain ⟨l8, vs8, n8, e8, o8, R8⟩ := Mine.rsigns R9; subst e8; subst o8; (try simp only [List.cons_append, List.nil_append] at N9); (try dsimp only)))
  trivial
theorem t1 : PySem.Challenge.rw_in0282_01.Holds := by
  refine Mine.hd0 Mine.said Mine.left (by rfl) (by rfl) (by rfl) ?_
  show WalkO seen loose (XL seen []) (kmHook heap adrs adrs_are [99]).says _ _ _ _
  w_strict k_go0
  all_goals try k_fold
  k_steps
  unfold Hold
  (rename IntsAre _ (List.take 3 _) => hI3); (rename Fr _ _ _ _ => FE); (rename News _ _ _ _ => NE)
  have hl3 := ints_len hI3
  obtain ⟨zs3, hI3', hl4⟩ : ∃ zs3, IntsAre _ zs3 ∧ zs3.length ≤ 3 := ⟨_, hI3, by rw [List.length_take]; omega⟩
  clear hI3 hl3
  have hl3 := ints_len hI3'
  refine LCg.CompSrc.ledger rfl FE NE (.head _) (by rw [List.size_toArray, hl3, sizeLine_eq]; omega) (fun g9 => rest_all (xs := zs3) (fun a v => isI a v) (fun a y => isI (lawN a) y) (by rw [List.size_toArray, hl3]) (fun i v e => ints_get hI3' i v (by simpa using e)) ?turn ?fin)
  case turn =>
    intro a v I oI Cc oC D m₂ ys h5 tk5 E' ha hv5 hl5 hC hx5 F5 N5 off5 ne5
    obtain ⟨t5, rfl⟩ := hv5
    have off8 := off5
    (try simp only [LCg.Off3, and_true] at off8)
    k_steps
  case fin =>
    intro ys hys
    have hys2 : All2 isI (zs3.map lawN) ys := hys.map
    have hyz : (List.toArray ys).size ≤ 100000 := by rw [List.size_toArray, hys2.len, List.length_map]; omega
    have hh0 : slicePick #[] none none none = slicePick #[] none none none := rfl
    have hyn : (((List.toArray ys).size : Nat) : Int) = ((zs3.length : Nat) : Int) := by rw [List.size_toArray, hys2.len, List.length_map]
    k_steps
    unfold Hold
    (rename Fr _ _ _ _ => FN); (rename News _ _ _ _ => NN)
    (with_reducible rename slicePick _ _ _ _ = slicePick _ _ _ _ => hh1)
    clear hh1
    obtain ⟨n0, n1, n2, u0, u1, u2, e3⟩ := three0 hys2 hl4
    rw [e3] at NN
    have hx0 : (List.toArray [Value.int n0 u0, Value.int n1 u1, Value.int n2 u2])[(0 : Int).toNat]? = some (.int n0 u0) := rfl
    have hx1 : (List.toArray [Value.int n0 u0, Value.int n1 u1, Value.int n2 u2])[(1 : Int).toNat]? = some (.int n1 u1) := rfl
    have hx2 : (List.toArray [Value.int n0 u0, Value.int n1 u1, Value.int n2 u2])[(2 : Int).toNat]? = some (.int n2 u2) := rfl
    k_steps
    · unfold Hold
      (rename Fr _ _ _ _ => FZ); (rename News _ _ _ _ => NZ); (rename SignsOk _ _ => hS); (rename Below _ _ _ _ => BZ); (rename Top topProg _ _ _ _ _ => TZ); (rename Frag.In _ (ghostOf _ _) => XZ)
      refine TellR.use (right_of shape24 (c_words4 _) (by decide) (by decide) (by decide) (by decide) (by decide) (by decide) hS _ _ _ _) XZ BZ FZ TZ codeHd XZ TZ codeHd (newsT NZ (by k_mem)) (.inl rfl) (by first | exact rfl | assumption) (by ktr_room) (by ktr_units) (by first | assumption | exact Nat.succ_pos _ | omega | (dsimp only; omega)) (by is_list) ?_
      intro v ps' h' tk' dr' hk h99 hv
      subst hv
      refine ⟨⟨.inl ⟨_, .bool true, [], rfl, fun _ => rfl, .bool true, ?_, fun _ => ⟨List.nodup_nil, fun a ha => absurd ha List.not_mem_nil⟩⟩, hk, rfl, by assumption⟩, ⟨ps', h99⟩, trivial⟩
      kc_post
    · unfold Hold
      (rename Fr _ _ _ _ => FZ); (rename News _ _ _ _ => NZ); (rename SignsOk _ _ => hS); (rename Below _ _ _ _ => BZ); (rename Top topProg _ _ _ _ _ => TZ); (rename Frag.In _ (ghostOf _ _) => XZ)
      refine TellR.use (right_of shape32 (c_words2 _) (by decide) (by decide) (by decide) (by decide) (by decide) (by decide) hS _ _ _ _) XZ BZ FZ TZ codeHd XZ TZ codeHd (newsT NZ (by k_mem)) (.inl rfl) (by first | exact rfl | assumption) (by ktr_room) (by ktr_units) (by first | assumption | exact Nat.succ_pos _ | omega | (dsimp only; omega)) (by is_list) ?_
      intro v ps' h' tk' dr' hk h99 hv
      subst hv
      refine ⟨⟨.inl ⟨_, .bool true, [], rfl, fun _ => rfl, .bool true, ?_, fun _ => ⟨List.nodup_nil, fun a ha => absurd ha List.not_mem_nil⟩⟩, hk, rfl, by assumption⟩, ⟨ps', h99⟩, trivial⟩
      kc_post
    · unfold Hold
      (rename Fr _ _ _ _ => FZ); (rename News _ _ _ _ => NZ); (rename SignsOk _ _ => hS); (rename Below _ _ _ _ => BZ); (rename Top topProg _ _ _ _ _ => TZ); (rename Frag.In _ (ghostOf _ _) => XZ)
      refine TellR.use (right_of shape42 (c_words2 _) (by decide) (by decide) (by decide) (by decide) (by decide) (by decide) hS _ _ _ _) XZ BZ FZ TZ codeHd XZ TZ codeHd (newsT NZ (by k_mem)) (.inl rfl) (by first | exact rfl | assumption) (by ktr_room) (by ktr_units) (by first | assumption | exact Nat.succ_pos _ | omega | (dsimp only; omega)) (by is_list) ?_
      intro v ps' h' tk' dr' hk h99 hv
      subst hv
      refine ⟨⟨.inl ⟨_, .bool true, [], rfl, fun _ => rfl, .bool true, ?_, fun _ => ⟨List.nodup_nil, fun a ha => absurd ha List.not_mem_nil⟩⟩, hk, rfl, by assumption⟩, ⟨ps', h99⟩, trivial⟩
      kc_post
    · unfold Hold
      (rename Fr _ _ _ _ => FZ); (rename News _ _ _ _ => NZ); (rename SignsOk _ _ => hS); (rename Below _ _ _ _ => BZ); (rename Top topProg _ _ _ _ _ => TZ); (rename Frag.In _ (ghostOf _ _) => XZ)
      refine TellR.use (right_of shape23 (c_words3 _) (by decide) (by decide) (by decide) (by decide) (by decide) (by decide) hS _ _ _ _) XZ BZ FZ TZ codeHd XZ TZ codeHd (newsT NZ (by k_mem)) (.inl rfl) (by first | exact rfl | assumption) (by ktr_room) (by ktr_units) (by first | assumption | exact Nat.succ_pos _ | omega | (dsimp only; omega)) (by is_list) ?_
      intro v ps' h' tk' dr' hk h99 hv
      subst hv
      refine ⟨⟨.inl ⟨_, .bool true, [], rfl, fun _ => rfl, .bool true, ?_, fun _ => ⟨List.nodup_nil, fun a ha => absurd ha List.not_mem_nil⟩⟩, hk, rfl, by assumption⟩, ⟨ps', h99⟩, trivial⟩
      kc_post
end Mine
end
theorem PySem.Challenge.cw_in0282_01_holds : PySem.Challenge.rw_in0282_01.Holds := by
  exact Mine.t1
