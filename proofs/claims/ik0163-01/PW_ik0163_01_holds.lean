import PyProof.Rows.All
import Wide.All
import OpenK.AllK
import Wide.FinOn
import PyProof.WalkLemmas
import PyProof.AttrMissHeap
import PyProof.AutoListH
import PyProof.CallType
import Lean
import PySem.Challenge.RW_ik0163_01
open PySem PySem.W PyProof.Rows
set_option Elab.async false
set_option maxRecDepth 100000
set_option maxHeartbeats 8000000
set_option compiler.extract_closed false
namespace Mine
section
noncomputable def stmtAt (i : Nat) : Option (Arguments × List Stmt × Scope) := match PySem.Challenge.pw_ik0163_01.main.body[i]? with
  | some (.FunctionDef _ a b _ _ _ s _ _ _) => some (a, b, s)
  | _ => none
noncomputable def elemAt (i : Nat) : Option Stmt := PySem.Challenge.pw_ik0163_01.main.body[i]?
noncomputable def hd.heap_39 : Params → Frag := (fun (a2 : Arguments) (b2 : List Stmt) (s2 : Scope) (_ : stmtAt 2 = some (a2, b2, s2)) (a3 : Arguments) (b3 : List Stmt) (s3 : Scope) (_ : stmtAt 3 = some (a3, b3, s3)) (a4 : Arguments) (b4 : List Stmt) (s4 : Scope) (_ : stmtAt 4 = some (a4, b4, s4)) (a5 : Arguments) (b5 : List Stmt) (s5 : Scope) (_ : stmtAt 5 = some (a5, b5, s5)) (a6 : Arguments) (b6 : List Stmt) (s6 : Scope) (_ : stmtAt 6 = some (a6, b6, s6)) (a7 : Arguments) (b7 : List Stmt) (s7 : Scope) (_ : stmtAt 7 = some (a7, b7, s7)) (a10 : Arguments) (b10 : List Stmt) (s10 : Scope) (_ : stmtAt 10 = some (a10, b10, s10)) (a13 : Arguments) (b13 : List Stmt) (s13 : Scope) (_ : stmtAt 13 = some (a13, b13, s13)) (a15 : Arguments) (b15 : List Stmt) (s15 : Scope) (_ : stmtAt 15 = some (a15, b15, s15)) (a16 : Arguments) (b16 : List Stmt) (s16 : Scope) (_ : stmtAt 16 = some (a16, b16, s16)) (a19 : Arguments) (b19 : List Stmt) (s19 : Scope) (_ : stmtAt 19 = some (a19, b19, s19)) (a21 : Arguments) (b21 : List Stmt) (s21 : Scope) (_ : stmtAt 21 = some (a21, b21, s21)) (a22 : Arguments) (b22 : List Stmt) (s22 : Scope) (_ : stmtAt 22 = some (a22, b22, s22)) (a23 : Arguments) (b23 : List Stmt) (s23 : Scope) (_ : stmtAt 23 = some (a23, b23, s23)) (a24 : Arguments) (b24 : List Stmt) (s24 : Scope) (_ : stmtAt 24 = some (a24, b24, s24)) (a25 : Arguments) (b25 : List Stmt) (s25 : Scope) (_ : stmtAt 25 = some (a25, b25, s25)) (a26 : Arguments) (b26 : List Stmt) (s26 : Scope) (_ : stmtAt 26 = some (a26, b26, s26)) (a27 : Arguments) (b27 : List Stmt) (s27 : Scope) (_ : stmtAt 27 = some (a27, b27, s27)) (a28 : Arguments) (b28 : List Stmt) (s28 : Scope) (_ : stmtAt 28 = some (a28, b28, s28)) (a29 : Arguments) (b29 : List Stmt) (s29 : Scope) (_ : stmtAt 29 = some (a29, b29, s29)) (a30 : Arguments) (b30 : List Stmt) (s30 : Scope) (_ : stmtAt 30 = some (a30, b30, s30)) => fun P =>
  (nat_lit 2, { cls := Value.none, data := Data.dict #[{ hash := PyData.keyHash P (Str.ofString "\x69mport.loaded._sre"), key := Value.str (Str.ofString "\x69mport.loaded._sre") 183, val := Value.bool true }, { hash := PyData.keyHash P (Str.ofString "class._frozen_importlib.BuiltinImporter"), key := Value.str (Str.ofString "class._frozen_importlib.BuiltinImporter") 185, val := Value.ref 14 }, { hash := PyData.keyHash P (Str.ofString "watched.\x69mport"), key := Value.str (Str.ofString "watched.\x69mport") 206, val := Value.ref 18 }, { hash := PyData.keyHash P (Str.ofString "class._frozen_importlib.ModuleSpec"), key := Value.str (Str.ofString "class._frozen_importlib.ModuleSpec") 216, val := Value.ref 22 }, { hash := PyData.keyHash P (Str.ofString "sys.modules.booked-epoch"), key := Value.str (Str.ofString "sys.modules.booked-epoch") 245, val := Value.int 3 0 }, { hash := PyData.keyHash P (Str.ofString "\x69mport.later-laid._sre"), key := Value.str (Str.ofString "\x69mport.later-laid._sre") 270, val := Value.bool true }, { hash := PyData.keyHash P (Str.ofString "watched.library"), key := Value.str (Str.ofString "watched.library") 272, val := Value.ref 27 }, { hash := PyData.keyHash P (Str.ofString "watched.library-objects"), key := Value.str (Str.ofString "watched.library-objects") 0, val := Value.str (Str.ofString "\x0c") 0 }, { hash := PyData.keyHash P (Str.ofString "watched.library-deep._sre"), key := Value.str (Str.ofString "watched.library-deep._sre") 273, val := Value.str (Str.ofString "\x04\x00\x00\x0b\x04\x00\x00\x0b\x04\x00\x00\x03\x04\x00\x00\x0b\x08\x04dict\x02") 0 }] 9 }) ::
  (nat_lit 3, { cls := Value.type "dict", data := Data.dict #[{ hash := PyData.keyHash P (Str.ofString "__name__"), key := Value.str (Str.ofString "__name__") 165, val := Value.str (Str.ofString "law_ik0163_01") 579 }, { hash := PyData.keyHash P (Str.ofString "__doc__"), key := Value.str (Str.ofString "__doc__") 166, val := Value.none }, { hash := PyData.keyHash P (Str.ofString "__package__"), key := Value.str (Str.ofString "__package__") 167, val := Value.none }, { hash := PyData.keyHash P (Str.ofString "__loader__"), key := Value.str (Str.ofString "__loader__") 168, val := Value.builtin "__main__.__loader__#opaque" }, { hash := PyData.keyHash P (Str.ofString "__spec__"), key := Value.str (Str.ofString "__spec__") 169, val := Value.none }, { hash := PyData.keyHash P (Str.ofString "__annotations__"), key := Value.str (Str.ofString "__annotations__") 170, val := Value.ref 6 }, { hash := PyData.keyHash P (Str.ofString "__builtins__"), key := Value.str (Str.ofString "__builtins__") 171, val := Value.ref 4 }, { hash := PyData.keyHash P (Str.ofString "__file__"), key := Value.str (Str.ofString "__file__") 173, val := Value.str (Str.ofString "/claim/cut.py") 172 }, { hash := PyData.keyHash P (Str.ofString "__cached__"), key := Value.str (Str.ofString "__cached__") 174, val := Value.none }, { hash := PyData.keyHash P (Str.ofString "_sre"), key := Value.str (Str.ofString "_sre") 275, val := Value.ref 12 }, { hash := PyData.keyHash P (Str.ofString "_raise_serialization_error"), key := Value.str (Str.ofString "_raise_serialization_error") 290, val := Value.ref 38 }, { hash := PyData.keyHash P (Str.ofString "_escape_cdata"), key := Value.str (Str.ofString "_escape_cdata") 297, val := Value.ref 45 }, { hash := PyData.keyHash P (Str.ofString "_escape_attrib"), key := Value.str (Str.ofString "_escape_attrib") 304, val := Value.ref 52 }, { hash := PyData.keyHash P (Str.ofString "_escape_attrib_html"), key := Value.str (Str.ofString "_escape_attrib_html") 311, val := Value.ref 59 }, { hash := PyData.keyHash P (Str.ofString "_escape_cdata_c14n"), key := Value.str (Str.ofString "_escape_cdata_c14n") 318, val := Value.ref 66 }, { hash := PyData.keyHash P (Str.ofString "_escape_attrib_c14n"), key := Value.str (Str.ofString "_escape_attrib_c14n") 325, val := Value.ref 73 }, { hash := PyData.keyHash P (Str.ofString "_twin_re_1"), key := Value.str (Str.ofString "_twin_re_1") 365, val := Value.ref 78 }, { hash := PyData.keyHash P (Str.ofString "translate"), key := Value.str (Str.ofString "translate") 374, val := Value.ref 85 }, { hash := PyData.keyHash P (Str.ofString "_special_chars_map"), key := Value.str (Str.ofString "_special_chars_map") 522, val := Value.ref 87 }, { hash := PyData.keyHash P (Str.ofString "escape"), key := Value.str (Str.ofString "escape") 529, val := Value.ref 97 }, { hash := PyData.keyHash P (Str.ofString "_translate"), key := Value.str (Str.ofString "_translate") 550, val := Value.ref 104 }, { hash := PyData.keyHash P (Str.ofString "_join_translated_parts"), key := Value.str (Str.ofString "_join_translated_parts") 563, val := Value.ref 111 }, { hash := PyData.keyHash P (Str.ofString "_initial_missing"), key := Value.str (Str.ofString "_initial_missing") 566, val := Value.ref 112 }, { hash := PyData.keyHash P (Str.ofString "reduce"), key := Value.str (Str.ofString "reduce") 578, val := Value.ref 120 }, { hash := PyData.keyHash P (Str.ofString "_law_escaped"), key := Value.str (Str.ofString "_law_escaped") 588, val := Value.ref 127 }, { hash := PyData.keyHash P (Str.ofString "_law_table"), key := Value.str (Str.ofString "_law_table") 595, val := Value.ref 134 }, { hash := PyData.keyHash P (Str.ofString "_law_field"), key := Value.str (Str.ofString "_law_field") 601, val := Value.ref 139 }, { hash := PyData.keyHash P (Str.ofString "_law_pattern"), key := Value.str (Str.ofString "_law_pattern") 611, val := Value.ref 146 }, { hash := PyData.keyHash P (Str.ofString "_law_join"), key := Value.str (Str.ofString "_law_join") 619, val := Value.ref 153 }, { hash := PyData.keyHash P (Str.ofString "_law_spelled"), key := Value.str (Str.ofString "_law_spelled") 625, val := Value.ref 158 }, { hash := PyData.keyHash P (Str.ofString "_law_fits"), key := Value.str (Str.ofString "_law_fits") 631, val := Value.ref 163 }, { hash := PyData.keyHash P (Str.ofString "_law_pieces"), key := Value.str (Str.ofString "_law_pieces") 643, val := Value.ref 170 }, { hash := PyData.keyHash P (Str.ofString "_law_taken"), key := Value.str (Str.ofString "_law_taken") 655, val := Value.ref 177 }, { hash := PyData.keyHash P (Str.ofString "law"), key := Value.str (Str.ofString "law") 661, val := Value.ref 182 }] 34 }) ::
  (nat_lit 32, { cls := Value.type "tuple", data := Data.seq #[] }) ::
  (nat_lit 34, { cls := Value.type "tuple", data := Data.seq #[Value.str (Str.ofString "text") 287] }) ::
  (nat_lit 35, { cls := Value.type "tuple", data := Data.seq #[] }) ::
  (nat_lit 37, { cls := Value.type "code", data := Data.fields #[Value.str (Str.ofString "_raise_serialization_error") 284, Value.str (Str.ofString "_raise_serialization_error") 285, Value.str (Str.ofString "/claim/cut.py") 286, Value.int 3 0, Value.int 1 0, Value.int 0 0, Value.int 0 0, Value.int 3 0, Value.ref 32, Value.bool true, Value.int 276 0, Value.ref 33, Value.none, Value.ref 34, Value.ref 35, Value.ref 36, Value.int 288 0, Value.int 3 0, Value.str (Str.ofString "/claim/cut.py") 289] }) ::
  (nat_lit 38, { cls := Value.type "function", data := Data.func { name := Str.ofString "_raise_serialization_error", qualname := Str.ofString "_raise_serialization_error", params := a2, body := FuncBody.stmts b2, scope := s2, globals := 3, closure := [], defaults := Value.none, kwdefaults := Value.none, pyModule := Value.str (Str.ofString "cpy313.xml.etree.ElementTree") 282, code := Value.ref 37 } }) ::
  (nat_lit 39, { cls := Value.type "tuple", data := Data.seq #[] }) ::
  (nat_lit 41, { cls := Value.type "tuple", data := Data.seq #[Value.str (Str.ofString "text") 294] }) ::
  (nat_lit 42, { cls := Value.type "tuple", data := Data.seq #[] }) ::
  (nat_lit 44, { cls := Value.type "code", data := Data.fields #[Value.str (Str.ofString "_escape_cdata") 291, Value.str (Str.ofString "_escape_cdata") 292, Value.str (Str.ofString "/claim/cut.py") 293, Value.int 5 0, Value.int 1 0, Value.int 0 0, Value.int 0 0, Value.int 3 0, Value.ref 39, Value.bool true, Value.int 276 0, Value.ref 40, Value.none, Value.ref 41, Value.ref 42, Value.ref 43, Value.int 295 0, Value.int 5 0, Value.str (Str.ofString "/claim/cut.py") 296] }) ::
  (nat_lit 45, { cls := Value.type "function", data := Data.func { name := Str.ofString "_escape_cdata", qualname := Str.ofString "_escape_cdata", params := a3, body := FuncBody.stmts b3, scope := s3, globals := 3, closure := [], defaults := Value.none, kwdefaults := Value.none, pyModule := Value.str (Str.ofString "cpy313.xml.etree.ElementTree") 282, code := Value.ref 44 } }) ::
  (nat_lit 46, { cls := Value.type "tuple", data := Data.seq #[] }) ::
  (nat_lit 48, { cls := Value.type "tuple", data := Data.seq #[Value.str (Str.ofString "text") 301] }) ::
  (nat_lit 49, { cls := Value.type "tuple", data := Data.seq #[] }) ::
  (nat_lit 51, { cls := Value.type "code", data := Data.fields #[Value.str (Str.ofString "_escape_attrib") 298, Value.str (Str.ofString "_escape_attrib") 299, Value.str (Str.ofString "/claim/cut.py") 300, Value.int 16 0, Value.int 1 0, Value.int 0 0, Value.int 0 0, Value.int 3 0, Value.ref 46, Value.bool true, Value.int 276 0, Value.ref 47, Value.none, Value.ref 48, Value.ref 49, Value.ref 50, Value.int 302 0, Value.int 16 0, Value.str (Str.ofString "/claim/cut.py") 303] }) ::
  (nat_lit 52, { cls := Value.type "function", data := Data.func { name := Str.ofString "_escape_attrib", qualname := Str.ofString "_escape_attrib", params := a4, body := FuncBody.stmts b4, scope := s4, globals := 3, closure := [], defaults := Value.none, kwdefaults := Value.none, pyModule := Value.str (Str.ofString "cpy313.xml.etree.ElementTree") 282, code := Value.ref 51 } }) ::
  (nat_lit 53, { cls := Value.type "tuple", data := Data.seq #[] }) ::
  (nat_lit 55, { cls := Value.type "tuple", data := Data.seq #[Value.str (Str.ofString "text") 308] }) ::
  (nat_lit 56, { cls := Value.type "tuple", data := Data.seq #[] }) ::
  (nat_lit 58, { cls := Value.type "code", data := Data.fields #[Value.str (Str.ofString "_escape_attrib_html") 305, Value.str (Str.ofString "_escape_attrib_html") 306, Value.str (Str.ofString "/claim/cut.py") 307, Value.int 35 0, Value.int 1 0, Value.int 0 0, Value.int 0 0, Value.int 3 0, Value.ref 53, Value.bool true, Value.int 276 0, Value.ref 54, Value.none, Value.ref 55, Value.ref 56, Value.ref 57, Value.int 309 0, Value.int 35 0, Value.str (Str.ofString "/claim/cut.py") 310] }) ::
  (nat_lit 59, { cls := Value.type "function", data := Data.func { name := Str.ofString "_escape_attrib_html", qualname := Str.ofString "_escape_attrib_html", params := a5, body := FuncBody.stmts b5, scope := s5, globals := 3, closure := [], defaults := Value.none, kwdefaults := Value.none, pyModule := Value.str (Str.ofString "cpy313.xml.etree.ElementTree") 282, code := Value.ref 58 } }) ::
  (nat_lit 60, { cls := Value.type "tuple", data := Data.seq #[] }) ::
  (nat_lit 62, { cls := Value.type "tuple", data := Data.seq #[Value.str (Str.ofString "text") 315] }) ::
  (nat_lit 63, { cls := Value.type "tuple", data := Data.seq #[] }) ::
  (nat_lit 65, { cls := Value.type "code", data := Data.fields #[Value.str (Str.ofString "_escape_cdata_c14n") 312, Value.str (Str.ofString "_escape_cdata_c14n") 313, Value.str (Str.ofString "/claim/cut.py") 314, Value.int 46 0, Value.int 1 0, Value.int 0 0, Value.int 0 0, Value.int 3 0, Value.ref 60, Value.bool true, Value.int 276 0, Value.ref 61, Value.none, Value.ref 62, Value.ref 63, Value.ref 64, Value.int 316 0, Value.int 46 0, Value.str (Str.ofString "/claim/cut.py") 317] }) ::
  (nat_lit 66, { cls := Value.type "function", data := Data.func { name := Str.ofString "_escape_cdata_c14n", qualname := Str.ofString "_escape_cdata_c14n", params := a6, body := FuncBody.stmts b6, scope := s6, globals := 3, closure := [], defaults := Value.none, kwdefaults := Value.none, pyModule := Value.str (Str.ofString "cpy313.xml.etree.ElementTree") 282, code := Value.ref 65 } }) ::
  (nat_lit 67, { cls := Value.type "tuple", data := Data.seq #[] }) ::
  (nat_lit 69, { cls := Value.type "tuple", data := Data.seq #[Value.str (Str.ofString "text") 322] }) ::
  (nat_lit 70, { cls := Value.type "tuple", data := Data.seq #[] }) ::
  (nat_lit 72, { cls := Value.type "code", data := Data.fields #[Value.str (Str.ofString "_escape_attrib_c14n") 319, Value.str (Str.ofString "_escape_attrib_c14n") 320, Value.str (Str.ofString "/claim/cut.py") 321, Value.int 59 0, Value.int 1 0, Value.int 0 0, Value.int 0 0, Value.int 3 0, Value.ref 67, Value.bool true, Value.int 276 0, Value.ref 68, Value.none, Value.ref 69, Value.ref 70, Value.ref 71, Value.int 323 0, Value.int 59 0, Value.str (Str.ofString "/claim/cut.py") 324] }) ::
  (nat_lit 73, { cls := Value.type "function", data := Data.func { name := Str.ofString "_escape_attrib_c14n", qualname := Str.ofString "_escape_attrib_c14n", params := a7, body := FuncBody.stmts b7, scope := s7, globals := 3, closure := [], defaults := Value.none, kwdefaults := Value.none, pyModule := Value.str (Str.ofString "cpy313.xml.etree.ElementTree") 282, code := Value.ref 72 } }) ::
  (nat_lit 77, { cls := Value.type "tuple", data := Data.seq #[Value.int 14 0, Value.int 14 0, Value.int 4 0, Value.int 1 0, Value.int 1 0, Value.int 9 0, Value.int 0 0, Value.int 64 0, Value.int 0 0, Value.int 1342177280 0, Value.int 0 0, Value.int 0 0, Value.int 0 0, Value.int 0 0, Value.int 0 0, Value.int 17 0, Value.int 0 0, Value.int 13 0, Value.int 11 0, Value.int 9 0, Value.int 0 0, Value.int 64 0, Value.int 0 0, Value.int 1342177280 0, Value.int 0 0, Value.int 0 0, Value.int 0 0, Value.int 0 0, Value.int 0 0, Value.int 17 0, Value.int 1 0, Value.int 1 0] }) ::
  (nat_lit 78, { cls := Value.type "re.Pattern", data := Data.fields #[Value.str (Str.ofString "([&~|])") 329, Value.int 32 364, Value.int 1 0, Value.none, Value.none, Value.ref 77, Value.int 0 0] }) ::
  (nat_lit 79, { cls := Value.type "tuple", data := Data.seq #[] }) ::
  (nat_lit 81, { cls := Value.type "tuple", data := Data.seq #[Value.str (Str.ofString "pat") 369, Value.str (Str.ofString "STAR") 370, Value.str (Str.ofString "parts") 371] }) ::
  (nat_lit 82, { cls := Value.type "tuple", data := Data.seq #[] }) ::
  (nat_lit 84, { cls := Value.type "code", data := Data.fields #[Value.str (Str.ofString "translate") 366, Value.str (Str.ofString "translate") 367, Value.str (Str.ofString "/claim/cut.py") 368, Value.int 78 0, Value.int 1 0, Value.int 0 0, Value.int 0 0, Value.int 3 0, Value.ref 79, Value.bool true, Value.int 276 0, Value.ref 80, Value.none, Value.ref 81, Value.ref 82, Value.ref 83, Value.int 372 0, Value.int 78 0, Value.str (Str.ofString "/claim/cut.py") 373] }) ::
  (nat_lit 85, { cls := Value.type "function", data := Data.func { name := Str.ofString "translate", qualname := Str.ofString "translate", params := a10, body := FuncBody.stmts b10, scope := s10, globals := 3, closure := [], defaults := Value.none, kwdefaults := Value.none, pyModule := Value.str (Str.ofString "cpy313.fnmatch") 326, code := Value.ref 84 } }) ::
  (nat_lit 87, { cls := Value.type "dict", data := Data.dict #[{ hash := 40, key := Value.int 40 378, val := Value.str (Str.ofString "\\(") 382 }, { hash := 41, key := Value.int 41 384, val := Value.str (Str.ofString "\\)") 388 }, { hash := 91, key := Value.int 91 390, val := Value.str (Str.ofString "\\[") 394 }, { hash := 93, key := Value.int 93 396, val := Value.str (Str.ofString "\\]") 400 }, { hash := 123, key := Value.int 123 402, val := Value.str (Str.ofString "\\{") 406 }, { hash := 125, key := Value.int 125 408, val := Value.str (Str.ofString "\\}") 412 }, { hash := 63, key := Value.int 63 414, val := Value.str (Str.ofString "\\?") 418 }, { hash := 42, key := Value.int 42 420, val := Value.str (Str.ofString "\\*") 424 }, { hash := 43, key := Value.int 43 426, val := Value.str (Str.ofString "\\+") 430 }, { hash := 45, key := Value.int 45 432, val := Value.str (Str.ofString "\\-") 436 }, { hash := 124, key := Value.int 124 438, val := Value.str (Str.ofString "\\|") 442 }, { hash := 94, key := Value.int 94 444, val := Value.str (Str.ofString "\\^") 448 }, { hash := 36, key := Value.int 36 450, val := Value.str (Str.ofString "\\$") 454 }, { hash := 92, key := Value.int 92 456, val := Value.str (Str.ofString "\\\\") 460 }, { hash := 46, key := Value.int 46 462, val := Value.str (Str.ofString "\\.") 466 }, { hash := 38, key := Value.int 38 468, val := Value.str (Str.ofString "\\&") 472 }, { hash := 126, key := Value.int 126 474, val := Value.str (Str.ofString "\\~") 478 }, { hash := 35, key := Value.int 35 480, val := Value.str (Str.ofString "\\#") 484 }, { hash := 32, key := Value.int 32 486, val := Value.str (Str.ofString "\\ ") 490 }, { hash := 9, key := Value.int 9 492, val := Value.str (Str.ofString "\\\t") 496 }, { hash := 10, key := Value.int 10 498, val := Value.str (Str.ofString "\\\n") 502 }, { hash := 13, key := Value.int 13 504, val := Value.str (Str.ofString "\\\x0d") 508 }, { hash := 11, key := Value.int 11 510, val := Value.str (Str.ofString "\\\x0b") 514 }, { hash := 12, key := Value.int 12 516, val := Value.str (Str.ofString "\\\x0c") 520 }] 24 }) ::
  (nat_lit 91, { cls := Value.type "tuple", data := Data.seq #[] }) ::
  (nat_lit 93, { cls := Value.type "tuple", data := Data.seq #[Value.str (Str.ofString "pattern") 526] }) ::
  (nat_lit 94, { cls := Value.type "tuple", data := Data.seq #[] }) ::
  (nat_lit 96, { cls := Value.type "code", data := Data.fields #[Value.str (Str.ofString "escape") 523, Value.str (Str.ofString "escape") 524, Value.str (Str.ofString "/claim/cut.py") 525, Value.int 84 0, Value.int 1 0, Value.int 0 0, Value.int 0 0, Value.int 3 0, Value.ref 91, Value.bool true, Value.int 276 0, Value.ref 92, Value.none, Value.ref 93, Value.ref 94, Value.ref 95, Value.int 527 0, Value.int 84 0, Value.str (Str.ofString "/claim/cut.py") 528] }) ::
  (nat_lit 97, { cls := Value.type "function", data := Data.func { name := Str.ofString "escape", qualname := Str.ofString "escape", params := a13, body := FuncBody.stmts b13, scope := s13, globals := 3, closure := [], defaults := Value.none, kwdefaults := Value.none, pyModule := Value.str (Str.ofString "re") 375, code := Value.ref 96 } }) ::
  (nat_lit 98, { cls := Value.type "tuple", data := Data.seq #[] }) ::
  (nat_lit 100, { cls := Value.type "tuple", data := Data.seq #[Value.str (Str.ofString "pat") 535, Value.str (Str.ofString "STAR") 536, Value.str (Str.ofString "QUESTION_MARK") 537, Value.str (Str.ofString "res") 538, Value.str (Str.ofString "add") 539, Value.str (Str.ofString "i") 540, Value.str (Str.ofString "n") 541, Value.str (Str.ofString "c") 542, Value.str (Str.ofString "j") 543, Value.str (Str.ofString "stuff") 544, Value.str (Str.ofString "chunks") 545, Value.str (Str.ofString "k") 546, Value.str (Str.ofString "chunk") 547] }) ::
  (nat_lit 101, { cls := Value.type "tuple", data := Data.seq #[] }) ::
  (nat_lit 103, { cls := Value.type "code", data := Data.fields #[Value.str (Str.ofString "_translate") 532, Value.str (Str.ofString "_translate") 533, Value.str (Str.ofString "/claim/cut.py") 534, Value.int 91 0, Value.int 3 0, Value.int 0 0, Value.int 0 0, Value.int 3 0, Value.ref 98, Value.bool true, Value.int 276 0, Value.ref 99, Value.none, Value.ref 100, Value.ref 101, Value.ref 102, Value.int 548 0, Value.int 91 0, Value.str (Str.ofString "/claim/cut.py") 549] }) ::
  (nat_lit 104, { cls := Value.type "function", data := Data.func { name := Str.ofString "_translate", qualname := Str.ofString "_translate", params := a15, body := FuncBody.stmts b15, scope := s15, globals := 3, closure := [], defaults := Value.none, kwdefaults := Value.none, pyModule := Value.str (Str.ofString "cpy313.fnmatch") 530, code := Value.ref 103 } }) ::
  (nat_lit 105, { cls := Value.type "tuple", data := Data.seq #[] }) ::
  (nat_lit 107, { cls := Value.type "tuple", data := Data.seq #[Value.str (Str.ofString "inp") 554, Value.str (Str.ofString "STAR") 555, Value.str (Str.ofString "res") 556, Value.str (Str.ofString "add") 557, Value.str (Str.ofString "i") 558, Value.str (Str.ofString "n") 559, Value.str (Str.ofString "fixed") 560] }) ::
  (nat_lit 108, { cls := Value.type "tuple", data := Data.seq #[] }) ::
  (nat_lit 110, { cls := Value.type "code", data := Data.fields #[Value.str (Str.ofString "_join_translated_parts") 551, Value.str (Str.ofString "_join_translated_parts") 552, Value.str (Str.ofString "/claim/cut.py") 553, Value.int 153 0, Value.int 2 0, Value.int 0 0, Value.int 0 0, Value.int 3 0, Value.ref 105, Value.bool true, Value.int 276 0, Value.ref 106, Value.none, Value.ref 107, Value.ref 108, Value.ref 109, Value.int 561 0, Value.int 153 0, Value.str (Str.ofString "/claim/cut.py") 562] }) ::
  (nat_lit 111, { cls := Value.type "function", data := Data.func { name := Str.ofString "_join_translated_parts", qualname := Str.ofString "_join_translated_parts", params := a16, body := FuncBody.stmts b16, scope := s16, globals := 3, closure := [], defaults := Value.none, kwdefaults := Value.none, pyModule := Value.str (Str.ofString "cpy313.fnmatch") 530, code := Value.ref 110 } }) ::
  (nat_lit 112, { cls := Value.type "object" }) ::
  (nat_lit 113, { cls := Value.type "tuple", data := Data.seq #[Value.ref 112] }) ::
  (nat_lit 114, { cls := Value.type "tuple", data := Data.seq #[] }) ::
  (nat_lit 116, { cls := Value.type "tuple", data := Data.seq #[Value.str (Str.ofString "function") 570, Value.str (Str.ofString "sequence") 571, Value.str (Str.ofString "initial") 572, Value.str (Str.ofString "it") 573, Value.str (Str.ofString "value") 574, Value.str (Str.ofString "element") 575] }) ::
  (nat_lit 117, { cls := Value.type "tuple", data := Data.seq #[] }) ::
  (nat_lit 119, { cls := Value.type "code", data := Data.fields #[Value.str (Str.ofString "reduce") 567, Value.str (Str.ofString "reduce") 568, Value.str (Str.ofString "/claim/cut.py") 569, Value.int 182 0, Value.int 3 0, Value.int 0 0, Value.int 0 0, Value.int 3 0, Value.ref 114, Value.bool true, Value.int 276 0, Value.ref 115, Value.none, Value.ref 116, Value.ref 117, Value.ref 118, Value.int 576 0, Value.int 182 0, Value.str (Str.ofString "/claim/cut.py") 577] }) ::
  (nat_lit 120, { cls := Value.type "function", data := Data.func { name := Str.ofString "reduce", qualname := Str.ofString "reduce", params := a19, body := FuncBody.stmts b19, scope := s19, globals := 3, closure := [], defaults := Value.ref 113, kwdefaults := Value.none, pyModule := Value.str (Str.ofString "cpy313.functools") 564, code := Value.ref 119 } }) ::
  (nat_lit 121, { cls := Value.type "tuple", data := Data.seq #[] }) ::
  (nat_lit 123, { cls := Value.type "tuple", data := Data.seq #[Value.str (Str.ofString "hand") 584, Value.str (Str.ofString "text") 585] }) ::
  (nat_lit 124, { cls := Value.type "tuple", data := Data.seq #[] }) ::
  (nat_lit 126, { cls := Value.type "code", data := Data.fields #[Value.str (Str.ofString "_law_escaped") 581, Value.str (Str.ofString "_law_escaped") 582, Value.str (Str.ofString "/claim/cut.py") 583, Value.int 195 0, Value.int 2 0, Value.int 0 0, Value.int 0 0, Value.int 3 0, Value.ref 121, Value.bool true, Value.int 276 0, Value.ref 122, Value.none, Value.ref 123, Value.ref 124, Value.ref 125, Value.int 586 0, Value.int 195 0, Value.str (Str.ofString "/claim/cut.py") 587] }) ::
  (nat_lit 127, { cls := Value.type "function", data := Data.func { name := Str.ofString "_law_escaped", qualname := Str.ofString "_law_escaped", params := a21, body := FuncBody.stmts b21, scope := s21, globals := 3, closure := [], defaults := Value.none, kwdefaults := Value.none, pyModule := Value.str (Str.ofString "law_ik0163_01") 579, code := Value.ref 126 } }) ::
  (nat_lit 128, { cls := Value.type "tuple", data := Data.seq #[] }) ::
  (nat_lit 130, { cls := Value.type "tuple", data := Data.seq #[Value.str (Str.ofString "hand") 592] }) ::
  (nat_lit 131, { cls := Value.type "tuple", data := Data.seq #[] }) ::
  (nat_lit 133, { cls := Value.type "code", data := Data.fields #[Value.str (Str.ofString "_law_table") 589, Value.str (Str.ofString "_law_table") 590, Value.str (Str.ofString "/claim/cut.py") 591, Value.int 205 0, Value.int 1 0, Value.int 0 0, Value.int 0 0, Value.int 3 0, Value.ref 128, Value.bool true, Value.int 276 0, Value.ref 129, Value.none, Value.ref 130, Value.ref 131, Value.ref 132, Value.int 593 0, Value.int 205 0, Value.str (Str.ofString "/claim/cut.py") 594] }) ::
  (nat_lit 134, { cls := Value.type "function", data := Data.func { name := Str.ofString "_law_table", qualname := Str.ofString "_law_table", params := a22, body := FuncBody.stmts b22, scope := s22, globals := 3, closure := [], defaults := Value.none, kwdefaults := Value.none, pyModule := Value.str (Str.ofString "law_ik0163_01") 579, code := Value.ref 133 } }) ::
  (nat_lit 135, { cls := Value.type "tuple", data := Data.seq #[] }) ::
  (nat_lit 138, { cls := Value.type "code", data := Data.fields #[Value.str (Str.ofString "_law_field") 596, Value.str (Str.ofString "_law_field") 597, Value.str (Str.ofString "/claim/cut.py") 598, Value.int 207 0, Value.int 1 0, Value.int 0 0, Value.int 0 0, Value.int 3 0, Value.ref 135, Value.bool true, Value.int 276 0, Value.ref 136, Value.none, Value.none, Value.none, Value.ref 137, Value.int 599 0, Value.int 207 0, Value.str (Str.ofString "/claim/cut.py") 600] }) ::
  (nat_lit 139, { cls := Value.type "function", data := Data.func { name := Str.ofString "_law_field", qualname := Str.ofString "_law_field", params := a23, body := FuncBody.stmts b23, scope := s23, globals := 3, closure := [], defaults := Value.none, kwdefaults := Value.none, pyModule := Value.str (Str.ofString "law_ik0163_01") 579, code := Value.ref 138 } }) ::
  (nat_lit 140, { cls := Value.type "tuple", data := Data.seq #[] }) ::
  (nat_lit 142, { cls := Value.type "tuple", data := Data.seq #[Value.str (Str.ofString "items") 605, Value.str (Str.ofString "pattern") 606, Value.str (Str.ofString "item") 607, Value.str (Str.ofString "sign") 608] }) ::
  (nat_lit 143, { cls := Value.type "tuple", data := Data.seq #[] }) ::
  (nat_lit 145, { cls := Value.type "code", data := Data.fields #[Value.str (Str.ofString "_law_pattern") 602, Value.str (Str.ofString "_law_pattern") 603, Value.str (Str.ofString "/claim/cut.py") 604, Value.int 225 0, Value.int 1 0, Value.int 0 0, Value.int 0 0, Value.int 3 0, Value.ref 140, Value.bool true, Value.int 276 0, Value.ref 141, Value.none, Value.ref 142, Value.ref 143, Value.ref 144, Value.int 609 0, Value.int 225 0, Value.str (Str.ofString "/claim/cut.py") 610] }) ::
  (nat_lit 146, { cls := Value.type "function", data := Data.func { name := Str.ofString "_law_pattern", qualname := Str.ofString "_law_pattern", params := a24, body := FuncBody.stmts b24, scope := s24, globals := 3, closure := [], defaults := Value.none, kwdefaults := Value.none, pyModule := Value.str (Str.ofString "law_ik0163_01") 579, code := Value.ref 145 } }) ::
  (nat_lit 147, { cls := Value.type "tuple", data := Data.seq #[] }) ::
  (nat_lit 149, { cls := Value.type "tuple", data := Data.seq #[Value.str (Str.ofString "whole") 615, Value.str (Str.ofString "field") 616] }) ::
  (nat_lit 150, { cls := Value.type "tuple", data := Data.seq #[] }) ::
  (nat_lit 152, { cls := Value.type "code", data := Data.fields #[Value.str (Str.ofString "_law_join") 612, Value.str (Str.ofString "_law_join") 613, Value.str (Str.ofString "/claim/cut.py") 614, Value.int 233 0, Value.int 2 0, Value.int 0 0, Value.int 0 0, Value.int 3 0, Value.ref 147, Value.bool true, Value.int 276 0, Value.ref 148, Value.none, Value.ref 149, Value.ref 150, Value.ref 151, Value.int 617 0, Value.int 233 0, Value.str (Str.ofString "/claim/cut.py") 618] }) ::
  (nat_lit 153, { cls := Value.type "function", data := Data.func { name := Str.ofString "_law_join", qualname := Str.ofString "_law_join", params := a25, body := FuncBody.stmts b25, scope := s25, globals := 3, closure := [], defaults := Value.none, kwdefaults := Value.none, pyModule := Value.str (Str.ofString "law_ik0163_01") 579, code := Value.ref 152 } }) ::
  (nat_lit 154, { cls := Value.type "tuple", data := Data.seq #[] }) ::
  (nat_lit 157, { cls := Value.type "code", data := Data.fields #[Value.str (Str.ofString "_law_spelled") 620, Value.str (Str.ofString "_law_spelled") 621, Value.str (Str.ofString "/claim/cut.py") 622, Value.int 235 0, Value.int 2 0, Value.int 0 0, Value.int 0 0, Value.int 3 0, Value.ref 154, Value.bool true, Value.int 276 0, Value.ref 155, Value.none, Value.none, Value.none, Value.ref 156, Value.int 623 0, Value.int 235 0, Value.str (Str.ofString "/claim/cut.py") 624] }) ::
  (nat_lit 158, { cls := Value.type "function", data := Data.func { name := Str.ofString "_law_spelled", qualname := Str.ofString "_law_spelled", params := a26, body := FuncBody.stmts b26, scope := s26, globals := 3, closure := [], defaults := Value.none, kwdefaults := Value.none, pyModule := Value.str (Str.ofString "law_ik0163_01") 579, code := Value.ref 157 } }) ::
  (nat_lit 159, { cls := Value.type "tuple", data := Data.seq #[] }) ::
  (nat_lit 162, { cls := Value.type "code", data := Data.fields #[Value.str (Str.ofString "_law_fits") 626, Value.str (Str.ofString "_law_fits") 627, Value.str (Str.ofString "/claim/cut.py") 628, Value.int 241 0, Value.int 2 0, Value.int 0 0, Value.int 0 0, Value.int 3 0, Value.ref 159, Value.bool true, Value.int 276 0, Value.ref 160, Value.none, Value.none, Value.none, Value.ref 161, Value.int 629 0, Value.int 241 0, Value.str (Str.ofString "/claim/cut.py") 630] }) ::
  (nat_lit 163, { cls := Value.type "function", data := Data.func { name := Str.ofString "_law_fits", qualname := Str.ofString "_law_fits", params := a27, body := FuncBody.stmts b27, scope := s27, globals := 3, closure := [], defaults := Value.none, kwdefaults := Value.none, pyModule := Value.str (Str.ofString "law_ik0163_01") 579, code := Value.ref 162 } }) ::
  (nat_lit 164, { cls := Value.type "tuple", data := Data.seq #[] }) ::
  (nat_lit 166, { cls := Value.type "tuple", data := Data.seq #[Value.str (Str.ofString "told") 635, Value.str (Str.ofString "pieces") 636, Value.str (Str.ofString "state") 637, Value.str (Str.ofString "i") 638, Value.str (Str.ofString "sign") 639, Value.str (Str.ofString "end") 640] }) ::
  (nat_lit 167, { cls := Value.type "tuple", data := Data.seq #[] }) ::
  (nat_lit 169, { cls := Value.type "code", data := Data.fields #[Value.str (Str.ofString "_law_pieces") 632, Value.str (Str.ofString "_law_pieces") 633, Value.str (Str.ofString "/claim/cut.py") 634, Value.int 249 0, Value.int 1 0, Value.int 0 0, Value.int 0 0, Value.int 3 0, Value.ref 164, Value.bool true, Value.int 276 0, Value.ref 165, Value.none, Value.ref 166, Value.ref 167, Value.ref 168, Value.int 641 0, Value.int 249 0, Value.str (Str.ofString "/claim/cut.py") 642] }) ::
  (nat_lit 170, { cls := Value.type "function", data := Data.func { name := Str.ofString "_law_pieces", qualname := Str.ofString "_law_pieces", params := a28, body := FuncBody.stmts b28, scope := s28, globals := 3, closure := [], defaults := Value.none, kwdefaults := Value.none, pyModule := Value.str (Str.ofString "law_ik0163_01") 579, code := Value.ref 169 } }) ::
  (nat_lit 171, { cls := Value.type "tuple", data := Data.seq #[] }) ::
  (nat_lit 173, { cls := Value.type "tuple", data := Data.seq #[Value.str (Str.ofString "pieces") 647, Value.str (Str.ofString "text") 648, Value.str (Str.ofString "at") 649, Value.str (Str.ofString "piece") 650, Value.str (Str.ofString "found") 651, Value.str (Str.ofString "last") 652] }) ::
  (nat_lit 174, { cls := Value.type "tuple", data := Data.seq #[] }) ::
  (nat_lit 176, { cls := Value.type "code", data := Data.fields #[Value.str (Str.ofString "_law_taken") 644, Value.str (Str.ofString "_law_taken") 645, Value.str (Str.ofString "/claim/cut.py") 646, Value.int 282 0, Value.int 2 0, Value.int 0 0, Value.int 0 0, Value.int 3 0, Value.ref 171, Value.bool true, Value.int 276 0, Value.ref 172, Value.none, Value.ref 173, Value.ref 174, Value.ref 175, Value.int 653 0, Value.int 282 0, Value.str (Str.ofString "/claim/cut.py") 654] }) ::
  (nat_lit 177, { cls := Value.type "function", data := Data.func { name := Str.ofString "_law_taken", qualname := Str.ofString "_law_taken", params := a29, body := FuncBody.stmts b29, scope := s29, globals := 3, closure := [], defaults := Value.none, kwdefaults := Value.none, pyModule := Value.str (Str.ofString "law_ik0163_01") 579, code := Value.ref 176 } }) ::
  (nat_lit 178, { cls := Value.type "tuple", data := Data.seq #[] }) ::
  (nat_lit 181, { cls := Value.type "code", data := Data.fields #[Value.str (Str.ofString "law") 656, Value.str (Str.ofString "law") 657, Value.str (Str.ofString "/claim/cut.py") 658, Value.int 297 0, Value.int 1 0, Value.int 0 0, Value.int 0 0, Value.int 3 0, Value.ref 178, Value.bool true, Value.int 276 0, Value.ref 179, Value.none, Value.none, Value.none, Value.ref 180, Value.int 659 0, Value.int 297 0, Value.str (Str.ofString "/claim/cut.py") 660] }) ::
  (nat_lit 182, { cls := Value.type "function", data := Data.func { name := Str.ofString "law", qualname := Str.ofString "law", params := a30, body := FuncBody.stmts b30, scope := s30, globals := 3, closure := [], defaults := Value.none, kwdefaults := Value.none, pyModule := Value.str (Str.ofString "law_ik0163_01") 579, code := Value.ref 181 } }) :: []) _ _ _ rfl _ _ _ rfl _ _ _ rfl _ _ _ rfl _ _ _ rfl _ _ _ rfl _ _ _ rfl _ _ _ rfl _ _ _ rfl _ _ _ rfl _ _ _ rfl _ _ _ rfl _ _ _ rfl _ _ _ rfl _ _ _ rfl _ _ _ rfl _ _ _ rfl _ _ _ rfl _ _ _ rfl _ _ _ rfl _ _ _ rfl
noncomputable def hd.view_39 : Program := (fun (x0 : Stmt) (_ : elemAt 0 = some x0) (x2 : Stmt) (_ : elemAt 2 = some x2) (x3 : Stmt) (_ : elemAt 3 = some x3) (x4 : Stmt) (_ : elemAt 4 = some x4) (x5 : Stmt) (_ : elemAt 5 = some x5) (x6 : Stmt) (_ : elemAt 6 = some x6) (x7 : Stmt) (_ : elemAt 7 = some x7) (x9 : Stmt) (_ : elemAt 9 = some x9) (x10 : Stmt) (_ : elemAt 10 = some x10) (x12 : Stmt) (_ : elemAt 12 = some x12) (x13 : Stmt) (_ : elemAt 13 = some x13) (x15 : Stmt) (_ : elemAt 15 = some x15) (x16 : Stmt) (_ : elemAt 16 = some x16) (x18 : Stmt) (_ : elemAt 18 = some x18) (x21 : Stmt) (_ : elemAt 21 = some x21) (x22 : Stmt) (_ : elemAt 22 = some x22) (x23 : Stmt) (_ : elemAt 23 = some x23) (x24 : Stmt) (_ : elemAt 24 = some x24) (x25 : Stmt) (_ : elemAt 25 = some x25) (x26 : Stmt) (_ : elemAt 26 = some x26) (x27 : Stmt) (_ : elemAt 27 = some x27) (x28 : Stmt) (_ : elemAt 28 = some x28) (x29 : Stmt) (_ : elemAt 29 = some x29) (x30 : Stmt) (_ : elemAt 30 = some x30) => ({ PySem.Challenge.pw_ik0163_01 with main := { PySem.Challenge.pw_ik0163_01.main with body := [x0, x2, x3, x4, x5, x6, x7, x9, x10, x12, x13, x15, x16, x18, x21, x22, x23, x24, x25, x26, x27, x28, x29, x30] } } : Program)) _ rfl _ rfl _ rfl _ rfl _ rfl _ rfl _ rfl _ rfl _ rfl _ rfl _ rfl _ rfl _ rfl _ rfl _ rfl _ rfl _ rfl _ rfl _ rfl _ rfl _ rfl _ rfl _ rfl _ rfl
noncomputable abbrev rowX : OpenRow := OpenLaw.row PySem.Challenge.rw_ik0163_01
noncomputable abbrev asX : List Addr := [2, 3, 32, 34, 35, 37, 38, 39, 41, 42, 44, 45, 46, 48, 49, 51, 52, 53, 55, 56, 58, 59, 60, 62, 63, 65, 66, 67, 69, 70, 72, 73, 77, 78, 79, 81, 82, 84, 85, 87, 91, 93, 94, 96, 97, 98, 100, 101, 103, 104, 105, 107, 108, 110, 111, 112, 113, 114, 116, 117, 119, 120, 121, 123, 124, 126, 127, 128, 130, 131, 133, 134, 135, 138, 139, 140, 142, 143, 145, 146, 147, 149, 150, 152, 153, 154, 157, 158, 159, 162, 163, 164, 166, 167, 169, 170, 171, 173, 174, 176, 177, 178, 181, 182]
theorem asX_ok : ∀ P, asX = (hd.heap_39 P).map (·.1) := fun _ => by kernel_rfl
noncomputable abbrev hookX : Hook := kmHook hd.heap_39 asX asX_ok [99]
noncomputable abbrev looseX : List Str := [Str.ofString "_twin_re_1", Str.ofString "_special_chars_map", Str.ofString "_initial_missing", Str.ofString "reduce"]
noncomputable abbrev xtX : Shared → Bool := fun s => xlAt hd.view_39 [] s && recOk (RowW.records (OpenRow.toRowW rowX)) s
theorem fill0 : PySem.Challenge.rw_ik0163_01.Holds → hd.heap_39 = hd.heap_39 := by k_fill; intro _; rfl
theorem sayX : PySem.Challenge.rw_ik0163_01.wellSaid = true := by decide +kernel
end
section
set_option linter.unusedVariables false
noncomputable def ob0 (P : Params) : Obj := { cls := Value.type "dict", data := Data.dict #[{ hash := PyData.keyHash P (Str.ofString "__name__"), key := Value.str (Str.ofString "__name__") 1, val := Value.str (Str.ofString "builtins") 160 }, { hash := PyData.keyHash P (Str.ofString "__doc__"), key := Value.str (Str.ofString "__doc__") 2, val := Value.builtin "builtins.__doc__:str#opaque" }, { hash := PyData.keyHash P (Str.ofString "__package__"), key := Value.str (Str.ofString "__package__") 3, val := Value.builtin "builtins.__package__:str#opaque" }, { hash := PyData.keyHash P (Str.ofString "__loader__"), key := Value.str (Str.ofString "__loader__") 4, val := Value.builtin "builtins.__loader__:shared#opaque" }, { hash := PyData.keyHash P (Str.ofString "__spec__"), key := Value.str (Str.ofString "__spec__") 5, val := Value.builtin "builtins.__spec__#opaque" }, { hash := PyData.keyHash P (Str.ofString "__build_class__"), key := Value.str (Str.ofString "__build_class__") 6, val := Value.builtin "__build_class__" }, { hash := PyData.keyHash P (Str.ofString "__import__"), key := Value.str (Str.ofString "__import__") 7, val := Value.builtin "__import__" }, { hash := PyData.keyHash P (Str.ofString "abs"), key := Value.str (Str.ofString "abs") 8, val := Value.builtin "abs" }, { hash := PyData.keyHash P (Str.ofString "all"), key := Value.str (Str.ofString "all") 9, val := Value.builtin "all" }, { hash := PyData.keyHash P (Str.ofString "any"), key := Value.str (Str.ofString "any") 10, val := Value.builtin "any" }, { hash := PyData.keyHash P (Str.ofString "ascii"), key := Value.str (Str.ofString "ascii") 11, val := Value.builtin "ascii" }, { hash := PyData.keyHash P (Str.ofString "bin"), key := Value.str (Str.ofString "bin") 12, val := Value.builtin "bin" }, { hash := PyData.keyHash P (Str.ofString "breakpoint"), key := Value.str (Str.ofString "breakpoint") 13, val := Value.builtin "breakpoint" }, { hash := PyData.keyHash P (Str.ofString "callable"), key := Value.str (Str.ofString "callable") 14, val := Value.builtin "callable" }, { hash := PyData.keyHash P (Str.ofString "chr"), key := Value.str (Str.ofString "chr") 15, val := Value.builtin "chr" }, { hash := PyData.keyHash P (Str.ofString "compile"), key := Value.str (Str.ofString "compile") 16, val := Value.builtin "compile" }, { hash := PyData.keyHash P (Str.ofString "delattr"), key := Value.str (Str.ofString "delattr") 17, val := Value.builtin "delattr" }, { hash := PyData.keyHash P (Str.ofString "dir"), key := Value.str (Str.ofString "dir") 18, val := Value.builtin "dir" }, { hash := PyData.keyHash P (Str.ofString "divmod"), key := Value.str (Str.ofString "divmod") 19, val := Value.builtin "divmod" }, { hash := PyData.keyHash P (Str.ofString "eval"), key := Value.str (Str.ofString "eval") 20, val := Value.builtin "eval" }, { hash := PyData.keyHash P (Str.ofString "exec"), key := Value.str (Str.ofString "exec") 21, val := Value.builtin "exec" }, { hash := PyData.keyHash P (Str.ofString "format"), key := Value.str (Str.ofString "format") 22, val := Value.builtin "format" }, { hash := PyData.keyHash P (Str.ofString "getattr"), key := Value.str (Str.ofString "getattr") 23, val := Value.builtin "getattr" }, { hash := PyData.keyHash P (Str.ofString "globals"), key := Value.str (Str.ofString "globals") 24, val := Value.builtin "globals" }, { hash := PyData.keyHash P (Str.ofString "hasattr"), key := Value.str (Str.ofString "hasattr") 25, val := Value.builtin "hasattr" }, { hash := PyData.keyHash P (Str.ofString "hash"), key := Value.str (Str.ofString "hash") 26, val := Value.builtin "hash" }, { hash := PyData.keyHash P (Str.ofString "hex"), key := Value.str (Str.ofString "hex") 27, val := Value.builtin "hex" }, { hash := PyData.keyHash P (Str.ofString "id"), key := Value.str (Str.ofString "id") 28, val := Value.builtin "id" }, { hash := PyData.keyHash P (Str.ofString "input"), key := Value.str (Str.ofString "input") 29, val := Value.builtin "input" }, { hash := PyData.keyHash P (Str.ofString "isinstance"), key := Value.str (Str.ofString "isinstance") 30, val := Value.builtin "isinstance" }, { hash := PyData.keyHash P (Str.ofString "issubclass"), key := Value.str (Str.ofString "issubclass") 31, val := Value.builtin "issubclass" }, { hash := PyData.keyHash P (Str.ofString "iter"), key := Value.str (Str.ofString "iter") 32, val := Value.builtin "iter" }, { hash := PyData.keyHash P (Str.ofString "aiter"), key := Value.str (Str.ofString "aiter") 33, val := Value.builtin "aiter" }, { hash := PyData.keyHash P (Str.ofString "len"), key := Value.str (Str.ofString "len") 34, val := Value.builtin "len" }, { hash := PyData.keyHash P (Str.ofString "locals"), key := Value.str (Str.ofString "locals") 35, val := Value.builtin "locals" }, { hash := PyData.keyHash P (Str.ofString "max"), key := Value.str (Str.ofString "max") 36, val := Value.builtin "max" }, { hash := PyData.keyHash P (Str.ofString "min"), key := Value.str (Str.ofString "min") 37, val := Value.builtin "min" }, { hash := PyData.keyHash P (Str.ofString "next"), key := Value.str (Str.ofString "next") 38, val := Value.builtin "next" }, { hash := PyData.keyHash P (Str.ofString "anext"), key := Value.str (Str.ofString "anext") 39, val := Value.builtin "anext" }, { hash := PyData.keyHash P (Str.ofString "oct"), key := Value.str (Str.ofString "oct") 40, val := Value.builtin "oct" }, { hash := PyData.keyHash P (Str.ofString "ord"), key := Value.str (Str.ofString "ord") 41, val := Value.builtin "ord" }, { hash := PyData.keyHash P (Str.ofString "pow"), key := Value.str (Str.ofString "pow") 42, val := Value.builtin "pow" }, { hash := PyData.keyHash P (Str.ofString "print"), key := Value.str (Str.ofString "print") 43, val := Value.builtin "print" }, { hash := PyData.keyHash P (Str.ofString "repr"), key := Value.str (Str.ofString "repr") 44, val := Value.builtin "repr" }, { hash := PyData.keyHash P (Str.ofString "round"), key := Value.str (Str.ofString "round") 45, val := Value.builtin "round" }, { hash := PyData.keyHash P (Str.ofString "setattr"), key := Value.str (Str.ofString "setattr") 46, val := Value.builtin "setattr" }, { hash := PyData.keyHash P (Str.ofString "sorted"), key := Value.str (Str.ofString "sorted") 47, val := Value.builtin "sorted" }, { hash := PyData.keyHash P (Str.ofString "sum"), key := Value.str (Str.ofString "sum") 48, val := Value.builtin "sum" }, { hash := PyData.keyHash P (Str.ofString "vars"), key := Value.str (Str.ofString "vars") 49, val := Value.builtin "vars" }, { hash := PyData.keyHash P (Str.ofString "None"), key := Value.str (Str.ofString "None") 50, val := Value.none }, { hash := PyData.keyHash P (Str.ofString "Ellipsis"), key := Value.str (Str.ofString "Ellipsis") 51, val := Value.ellipsis }, { hash := PyData.keyHash P (Str.ofString "NotImplemented"), key := Value.str (Str.ofString "NotImplemented") 52, val := Value.notImplemented }, { hash := PyData.keyHash P (Str.ofString "False"), key := Value.str (Str.ofString "False") 53, val := Value.bool false }, { hash := PyData.keyHash P (Str.ofString "True"), key := Value.str (Str.ofString "True") 54, val := Value.bool true }, { hash := PyData.keyHash P (Str.ofString "bool"), key := Value.str (Str.ofString "bool") 55, val := Value.type "bool" }, { hash := PyData.keyHash P (Str.ofString "memoryview"), key := Value.str (Str.ofString "memoryview") 56, val := Value.type "memoryview" }, { hash := PyData.keyHash P (Str.ofString "bytearray"), key := Value.str (Str.ofString "bytearray") 57, val := Value.type "bytearray" }, { hash := PyData.keyHash P (Str.ofString "bytes"), key := Value.str (Str.ofString "bytes") 58, val := Value.type "bytes" }, { hash := PyData.keyHash P (Str.ofString "classmethod"), key := Value.str (Str.ofString "classmethod") 59, val := Value.type "classmethod" }, { hash := PyData.keyHash P (Str.ofString "complex"), key := Value.str (Str.ofString "complex") 60, val := Value.type "complex" }, { hash := PyData.keyHash P (Str.ofString "dict"), key := Value.str (Str.ofString "dict") 61, val := Value.type "dict" }, { hash := PyData.keyHash P (Str.ofString "enumerate"), key := Value.str (Str.ofString "enumerate") 62, val := Value.type "enumerate" }, { hash := PyData.keyHash P (Str.ofString "filter"), key := Value.str (Str.ofString "filter") 63, val := Value.type "filter" }, { hash := PyData.keyHash P (Str.ofString "float"), key := Value.str (Str.ofString "float") 64, val := Value.type "float" }, { hash := PyData.keyHash P (Str.ofString "frozenset"), key := Value.str (Str.ofString "frozenset") 65, val := Value.type "frozenset" }, { hash := PyData.keyHash P (Str.ofString "property"), key := Value.str (Str.ofString "property") 66, val := Value.type "property" }, { hash := PyData.keyHash P (Str.ofString "int"), key := Value.str (Str.ofString "int") 67, val := Value.type "int" }, { hash := PyData.keyHash P (Str.ofString "list"), key := Value.str (Str.ofString "list") 68, val := Value.type "list" }, { hash := PyData.keyHash P (Str.ofString "map"), key := Value.str (Str.ofString "map") 69, val := Value.type "map" }, { hash := PyData.keyHash P (Str.ofString "object"), key := Value.str (Str.ofString "object") 70, val := Value.type "object" }, { hash := PyData.keyHash P (Str.ofString "range"), key := Value.str (Str.ofString "range") 71, val := Value.type "range" }, { hash := PyData.keyHash P (Str.ofString "reversed"), key := Value.str (Str.ofString "reversed") 72, val := Value.type "reversed" }, { hash := PyData.keyHash P (Str.ofString "set"), key := Value.str (Str.ofString "set") 73, val := Value.type "set" }, { hash := PyData.keyHash P (Str.ofString "slice"), key := Value.str (Str.ofString "slice") 74, val := Value.type "slice" }, { hash := PyData.keyHash P (Str.ofString "staticmethod"), key := Value.str (Str.ofString "staticmethod") 75, val := Value.type "staticmethod" }, { hash := PyData.keyHash P (Str.ofString "str"), key := Value.str (Str.ofString "str") 76, val := Value.type "str" }, { hash := PyData.keyHash P (Str.ofString "super"), key := Value.str (Str.ofString "super") 77, val := Value.type "super" }, { hash := PyData.keyHash P (Str.ofString "tuple"), key := Value.str (Str.ofString "tuple") 78, val := Value.type "tuple" }, { hash := PyData.keyHash P (Str.ofString "type"), key := Value.str (Str.ofString "type") 79, val := Value.type "type" }, { hash := PyData.keyHash P (Str.ofString "zip"), key := Value.str (Str.ofString "zip") 80, val := Value.type "zip" }, { hash := PyData.keyHash P (Str.ofString "__debug__"), key := Value.str (Str.ofString "__debug__") 81, val := Value.bool true }, { hash := PyData.keyHash P (Str.ofString "BaseException"), key := Value.str (Str.ofString "BaseException") 82, val := Value.type "BaseException" }, { hash := PyData.keyHash P (Str.ofString "BaseExceptionGroup"), key := Value.str (Str.ofString "BaseExceptionGroup") 83, val := Value.type "BaseExceptionGroup" }, { hash := PyData.keyHash P (Str.ofString "Exception"), key := Value.str (Str.ofString "Exception") 84, val := Value.type "Exception" }, { hash := PyData.keyHash P (Str.ofString "GeneratorExit"), key := Value.str (Str.ofString "GeneratorExit") 85, val := Value.type "GeneratorExit" }, { hash := PyData.keyHash P (Str.ofString "KeyboardInterrupt"), key := Value.str (Str.ofString "KeyboardInterrupt") 86, val := Value.type "KeyboardInterrupt" }, { hash := PyData.keyHash P (Str.ofString "SystemExit"), key := Value.str (Str.ofString "SystemExit") 87, val := Value.type "SystemExit" }, { hash := PyData.keyHash P (Str.ofString "ArithmeticError"), key := Value.str (Str.ofString "ArithmeticError") 88, val := Value.type "ArithmeticError" }, { hash := PyData.keyHash P (Str.ofString "AssertionError"), key := Value.str (Str.ofString "AssertionError") 89, val := Value.type "AssertionError" }, { hash := PyData.keyHash P (Str.ofString "AttributeError"), key := Value.str (Str.ofString "AttributeError") 90, val := Value.type "AttributeError" }, { hash := PyData.keyHash P (Str.ofString "BufferError"), key := Value.str (Str.ofString "BufferError") 91, val := Value.type "BufferError" }, { hash := PyData.keyHash P (Str.ofString "EOFError"), key := Value.str (Str.ofString "EOFError") 92, val := Value.type "EOFError" }, { hash := PyData.keyHash P (Str.ofString "ImportError"), key := Value.str (Str.ofString "ImportError") 93, val := Value.type "ImportError" }, { hash := PyData.keyHash P (Str.ofString "LookupError"), key := Value.str (Str.ofString "LookupError") 94, val := Value.type "LookupError" }, { hash := PyData.keyHash P (Str.ofString "MemoryError"), key := Value.str (Str.ofString "MemoryError") 95, val := Value.type "MemoryError" }, { hash := PyData.keyHash P (Str.ofString "NameError"), key := Value.str (Str.ofString "NameError") 96, val := Value.type "NameError" }, { hash := PyData.keyHash P (Str.ofString "OSError"), key := Value.str (Str.ofString "OSError") 97, val := Value.type "OSError" }, { hash := PyData.keyHash P (Str.ofString "ReferenceError"), key := Value.str (Str.ofString "ReferenceError") 98, val := Value.type "ReferenceError" }, { hash := PyData.keyHash P (Str.ofString "RuntimeError"), key := Value.str (Str.ofString "RuntimeError") 99, val := Value.type "RuntimeError" }, { hash := PyData.keyHash P (Str.ofString "StopAsyncIteration"), key := Value.str (Str.ofString "StopAsyncIteration") 100, val := Value.type "StopAsyncIteration" }, { hash := PyData.keyHash P (Str.ofString "StopIteration"), key := Value.str (Str.ofString "StopIteration") 101, val := Value.type "StopIteration" }, { hash := PyData.keyHash P (Str.ofString "SyntaxError"), key := Value.str (Str.ofString "SyntaxError") 102, val := Value.type "SyntaxError" }, { hash := PyData.keyHash P (Str.ofString "SystemError"), key := Value.str (Str.ofString "SystemError") 103, val := Value.type "SystemError" }, { hash := PyData.keyHash P (Str.ofString "TypeError"), key := Value.str (Str.ofString "TypeError") 104, val := Value.type "TypeError" }, { hash := PyData.keyHash P (Str.ofString "ValueError"), key := Value.str (Str.ofString "ValueError") 105, val := Value.type "ValueError" }, { hash := PyData.keyHash P (Str.ofString "Warning"), key := Value.str (Str.ofString "Warning") 106, val := Value.type "Warning" }, { hash := PyData.keyHash P (Str.ofString "FloatingPointError"), key := Value.str (Str.ofString "FloatingPointError") 107, val := Value.type "FloatingPointError" }, { hash := PyData.keyHash P (Str.ofString "OverflowError"), key := Value.str (Str.ofString "OverflowError") 108, val := Value.type "OverflowError" }, { hash := PyData.keyHash P (Str.ofString "ZeroDivisionError"), key := Value.str (Str.ofString "ZeroDivisionError") 109, val := Value.type "ZeroDivisionError" }, { hash := PyData.keyHash P (Str.ofString "BytesWarning"), key := Value.str (Str.ofString "BytesWarning") 110, val := Value.type "BytesWarning" }, { hash := PyData.keyHash P (Str.ofString "DeprecationWarning"), key := Value.str (Str.ofString "DeprecationWarning") 111, val := Value.type "DeprecationWarning" }, { hash := PyData.keyHash P (Str.ofString "EncodingWarning"), key := Value.str (Str.ofString "EncodingWarning") 112, val := Value.type "EncodingWarning" }, { hash := PyData.keyHash P (Str.ofString "FutureWarning"), key := Value.str (Str.ofString "FutureWarning") 113, val := Value.type "FutureWarning" }, { hash := PyData.keyHash P (Str.ofString "ImportWarning"), key := Value.str (Str.ofString "ImportWarning") 114, val := Value.type "ImportWarning" }, { hash := PyData.keyHash P (Str.ofString "PendingDeprecationWarning"), key := Value.str (Str.ofString "PendingDeprecationWarning") 115, val := Value.type "PendingDeprecationWarning" }, { hash := PyData.keyHash P (Str.ofString "ResourceWarning"), key := Value.str (Str.ofString "ResourceWarning") 116, val := Value.type "ResourceWarning" }, { hash := PyData.keyHash P (Str.ofString "RuntimeWarning"), key := Value.str (Str.ofString "RuntimeWarning") 117, val := Value.type "RuntimeWarning" }, { hash := PyData.keyHash P (Str.ofString "SyntaxWarning"), key := Value.str (Str.ofString "SyntaxWarning") 118, val := Value.type "SyntaxWarning" }, { hash := PyData.keyHash P (Str.ofString "UnicodeWarning"), key := Value.str (Str.ofString "UnicodeWarning") 119, val := Value.type "UnicodeWarning" }, { hash := PyData.keyHash P (Str.ofString "UserWarning"), key := Value.str (Str.ofString "UserWarning") 120, val := Value.type "UserWarning" }, { hash := PyData.keyHash P (Str.ofString "BlockingIOError"), key := Value.str (Str.ofString "BlockingIOError") 121, val := Value.type "BlockingIOError" }, { hash := PyData.keyHash P (Str.ofString "ChildProcessError"), key := Value.str (Str.ofString "ChildProcessError") 122, val := Value.type "ChildProcessError" }, { hash := PyData.keyHash P (Str.ofString "ConnectionError"), key := Value.str (Str.ofString "ConnectionError") 123, val := Value.type "ConnectionError" }, { hash := PyData.keyHash P (Str.ofString "FileExistsError"), key := Value.str (Str.ofString "FileExistsError") 124, val := Value.type "FileExistsError" }, { hash := PyData.keyHash P (Str.ofString "FileNotFoundError"), key := Value.str (Str.ofString "FileNotFoundError") 125, val := Value.type "FileNotFoundError" }, { hash := PyData.keyHash P (Str.ofString "InterruptedError"), key := Value.str (Str.ofString "InterruptedError") 126, val := Value.type "InterruptedError" }, { hash := PyData.keyHash P (Str.ofString "IsADirectoryError"), key := Value.str (Str.ofString "IsADirectoryError") 127, val := Value.type "IsADirectoryError" }, { hash := PyData.keyHash P (Str.ofString "NotADirectoryError"), key := Value.str (Str.ofString "NotADirectoryError") 128, val := Value.type "NotADirectoryError" }, { hash := PyData.keyHash P (Str.ofString "PermissionError"), key := Value.str (Str.ofString "PermissionError") 129, val := Value.type "PermissionError" }, { hash := PyData.keyHash P (Str.ofString "ProcessLookupError"), key := Value.str (Str.ofString "ProcessLookupError") 130, val := Value.type "ProcessLookupError" }, { hash := PyData.keyHash P (Str.ofString "TimeoutError"), key := Value.str (Str.ofString "TimeoutError") 131, val := Value.type "TimeoutError" }, { hash := PyData.keyHash P (Str.ofString "IndentationError"), key := Value.str (Str.ofString "IndentationError") 132, val := Value.type "IndentationError" }, { hash := PyData.keyHash P (Str.ofString "_IncompleteInputError"), key := Value.str (Str.ofString "_IncompleteInputError") 133, val := Value.type "_IncompleteInputError" }, { hash := PyData.keyHash P (Str.ofString "IndexError"), key := Value.str (Str.ofString "IndexError") 134, val := Value.type "IndexError" }, { hash := PyData.keyHash P (Str.ofString "KeyError"), key := Value.str (Str.ofString "KeyError") 135, val := Value.type "KeyError" }, { hash := PyData.keyHash P (Str.ofString "ModuleNotFoundError"), key := Value.str (Str.ofString "ModuleNotFoundError") 136, val := Value.type "ModuleNotFoundError" }, { hash := PyData.keyHash P (Str.ofString "NotImplementedError"), key := Value.str (Str.ofString "NotImplementedError") 137, val := Value.type "NotImplementedError" }, { hash := PyData.keyHash P (Str.ofString "PythonFinalizationError"), key := Value.str (Str.ofString "PythonFinalizationError") 138, val := Value.type "PythonFinalizationError" }, { hash := PyData.keyHash P (Str.ofString "RecursionError"), key := Value.str (Str.ofString "RecursionError") 139, val := Value.type "RecursionError" }, { hash := PyData.keyHash P (Str.ofString "UnboundLocalError"), key := Value.str (Str.ofString "UnboundLocalError") 140, val := Value.type "UnboundLocalError" }, { hash := PyData.keyHash P (Str.ofString "UnicodeError"), key := Value.str (Str.ofString "UnicodeError") 141, val := Value.type "UnicodeError" }, { hash := PyData.keyHash P (Str.ofString "BrokenPipeError"), key := Value.str (Str.ofString "BrokenPipeError") 142, val := Value.type "BrokenPipeError" }, { hash := PyData.keyHash P (Str.ofString "ConnectionAbortedError"), key := Value.str (Str.ofString "ConnectionAbortedError") 143, val := Value.type "ConnectionAbortedError" }, { hash := PyData.keyHash P (Str.ofString "ConnectionRefusedError"), key := Value.str (Str.ofString "ConnectionRefusedError") 144, val := Value.type "ConnectionRefusedError" }, { hash := PyData.keyHash P (Str.ofString "ConnectionResetError"), key := Value.str (Str.ofString "ConnectionResetError") 145, val := Value.type "ConnectionResetError" }, { hash := PyData.keyHash P (Str.ofString "TabError"), key := Value.str (Str.ofString "TabError") 146, val := Value.type "TabError" }, { hash := PyData.keyHash P (Str.ofString "UnicodeDecodeError"), key := Value.str (Str.ofString "UnicodeDecodeError") 147, val := Value.type "UnicodeDecodeError" }, { hash := PyData.keyHash P (Str.ofString "UnicodeEncodeError"), key := Value.str (Str.ofString "UnicodeEncodeError") 148, val := Value.type "UnicodeEncodeError" }, { hash := PyData.keyHash P (Str.ofString "UnicodeTranslateError"), key := Value.str (Str.ofString "UnicodeTranslateError") 149, val := Value.type "UnicodeTranslateError" }, { hash := PyData.keyHash P (Str.ofString "ExceptionGroup"), key := Value.str (Str.ofString "ExceptionGroup") 150, val := Value.type "ExceptionGroup" }, { hash := PyData.keyHash P (Str.ofString "EnvironmentError"), key := Value.str (Str.ofString "EnvironmentError") 151, val := Value.type "OSError" }, { hash := PyData.keyHash P (Str.ofString "IOError"), key := Value.str (Str.ofString "IOError") 152, val := Value.type "OSError" }, { hash := PyData.keyHash P (Str.ofString "open"), key := Value.str (Str.ofString "open") 153, val := Value.builtin "open" }, { hash := PyData.keyHash P (Str.ofString "quit"), key := Value.str (Str.ofString "quit") 154, val := Value.builtin "builtins.quit#opaque" }, { hash := PyData.keyHash P (Str.ofString "exit"), key := Value.str (Str.ofString "exit") 155, val := Value.builtin "builtins.exit#opaque" }, { hash := PyData.keyHash P (Str.ofString "copyright"), key := Value.str (Str.ofString "copyright") 156, val := Value.builtin "builtins.copyright#opaque" }, { hash := PyData.keyHash P (Str.ofString "credits"), key := Value.str (Str.ofString "credits") 157, val := Value.builtin "builtins.credits#opaque" }, { hash := PyData.keyHash P (Str.ofString "license"), key := Value.str (Str.ofString "license") 158, val := Value.builtin "builtins.license#opaque" }, { hash := PyData.keyHash P (Str.ofString "help"), key := Value.str (Str.ofString "help") 159, val := Value.builtin "builtins.help#opaque" }] 159 }
noncomputable def ob1 (P : Params) : Obj := { cls := Value.type "dict", data := Data.dict #[{ hash := PyData.keyHash P (Str.ofString "builtins"), key := Value.str (Str.ofString "builtins") 162, val := Value.ref 4 }, { hash := PyData.keyHash P (Str.ofString "__main__"), key := Value.str (Str.ofString "__main__") 163, val := Value.ref 5 }, { hash := PyData.keyHash P (Str.ofString "_sre"), key := Value.str (Str.ofString "_sre") 244, val := Value.ref 12 }] 3 }
noncomputable def ob2 (P : Params) : Obj := { cls := Value.none, data := Data.dict #[{ hash := PyData.keyHash P (Str.ofString "\x69mport.loaded._sre"), key := Value.str (Str.ofString "\x69mport.loaded._sre") 183, val := Value.bool true }, { hash := PyData.keyHash P (Str.ofString "class._frozen_importlib.BuiltinImporter"), key := Value.str (Str.ofString "class._frozen_importlib.BuiltinImporter") 185, val := Value.ref 14 }, { hash := PyData.keyHash P (Str.ofString "watched.\x69mport"), key := Value.str (Str.ofString "watched.\x69mport") 206, val := Value.ref 18 }, { hash := PyData.keyHash P (Str.ofString "class._frozen_importlib.ModuleSpec"), key := Value.str (Str.ofString "class._frozen_importlib.ModuleSpec") 216, val := Value.ref 22 }, { hash := PyData.keyHash P (Str.ofString "sys.modules.booked-epoch"), key := Value.str (Str.ofString "sys.modules.booked-epoch") 245, val := Value.int 3 0 }, { hash := PyData.keyHash P (Str.ofString "\x69mport.later-laid._sre"), key := Value.str (Str.ofString "\x69mport.later-laid._sre") 270, val := Value.bool true }, { hash := PyData.keyHash P (Str.ofString "watched.library"), key := Value.str (Str.ofString "watched.library") 272, val := Value.ref 27 }, { hash := PyData.keyHash P (Str.ofString "watched.library-objects"), key := Value.str (Str.ofString "watched.library-objects") 0, val := Value.str (Str.ofString "\x0c") 0 }, { hash := PyData.keyHash P (Str.ofString "watched.library-deep._sre"), key := Value.str (Str.ofString "watched.library-deep._sre") 273, val := Value.str (Str.ofString "\x04\x00\x00\x0b\x04\x00\x00\x0b\x04\x00\x00\x03\x04\x00\x00\x0b\x08\x04dict\x02") 0 }] 9 }
noncomputable def ob3 (P : Params) : Obj := { cls := Value.type "dict", data := Data.dict #[{ hash := PyData.keyHash P (Str.ofString "__name__"), key := Value.str (Str.ofString "__name__") 165, val := Value.str (Str.ofString "__main__") 164 }, { hash := PyData.keyHash P (Str.ofString "__doc__"), key := Value.str (Str.ofString "__doc__") 166, val := Value.none }, { hash := PyData.keyHash P (Str.ofString "__package__"), key := Value.str (Str.ofString "__package__") 167, val := Value.none }, { hash := PyData.keyHash P (Str.ofString "__loader__"), key := Value.str (Str.ofString "__loader__") 168, val := Value.builtin "__main__.__loader__#opaque" }, { hash := PyData.keyHash P (Str.ofString "__spec__"), key := Value.str (Str.ofString "__spec__") 169, val := Value.none }, { hash := PyData.keyHash P (Str.ofString "__annotations__"), key := Value.str (Str.ofString "__annotations__") 170, val := Value.ref 6 }, { hash := PyData.keyHash P (Str.ofString "__builtins__"), key := Value.str (Str.ofString "__builtins__") 171, val := Value.ref 4 }, { hash := PyData.keyHash P (Str.ofString "__file__"), key := Value.str (Str.ofString "__file__") 173, val := Value.str (Str.ofString "/claim/cut.py") 172 }, { hash := PyData.keyHash P (Str.ofString "__cached__"), key := Value.str (Str.ofString "__cached__") 174, val := Value.none }, { hash := PyData.keyHash P (Str.ofString "_sre"), key := Value.str (Str.ofString "_sre") 275, val := Value.ref 12 }] 10 }
noncomputable def ob4 (P : Params) : Obj := { cls := Value.type "module", dict := some 0 }
noncomputable def ob5 (P : Params) : Obj := { cls := Value.type "module", dict := some 3 }
noncomputable def ob6 (P : Params) : Obj := { cls := Value.type "dict", data := Data.dict #[] }
noncomputable def ob7 (P : Params) : Obj := { cls := Value.type "tuple", data := Data.seq #[] }
noncomputable def ob8 (P : Params) : Obj := { cls := Value.none, data := Data.fields #[] }
noncomputable def ob9 (P : Params) : Obj := { cls := Value.type "code", data := Data.fields #[Value.str (Str.ofString "<module>") 176, Value.str (Str.ofString "<module>") 177, Value.str (Str.ofString "/claim/cut.py") 178, Value.int 1 0, Value.int 0 0, Value.int 0 0, Value.int 0 0, Value.int 0 0, Value.ref 7, Value.bool false, Value.int 175 0, Value.ref 8, Value.none, Value.none, Value.none, Value.none, Value.int 179 0, Value.int 1 0, Value.str (Str.ofString "/claim/cut.py") 180] }
noncomputable def ob10 (P : Params) : Obj := { cls := Value.type "frame", slots := #[some (Value.ref 9), some (Value.ref 3), some (Value.ref 3), none, some (Value.str (Str.ofString "__main__") 164), none, some (Value.ref 0)] }
noncomputable def ob11 (P : Params) : Obj := { cls := Value.type "dict", data := Data.dict #[{ hash := PyData.keyHash P (Str.ofString "__name__"), key := Value.str (Str.ofString "__name__") 247, val := Value.str (Str.ofString "_sre") 246 }, { hash := PyData.keyHash P (Str.ofString "__doc__"), key := Value.str (Str.ofString "__doc__") 248, val := Value.none }, { hash := PyData.keyHash P (Str.ofString "__package__"), key := Value.str (Str.ofString "__package__") 250, val := Value.str (Str.ofString "") 249 }, { hash := PyData.keyHash P (Str.ofString "__loader__"), key := Value.str (Str.ofString "__loader__") 251, val := Value.builtin "off-the-table:_sre.__loader__:shared#opaque" }, { hash := PyData.keyHash P (Str.ofString "__spec__"), key := Value.str (Str.ofString "__spec__") 252, val := Value.builtin "off-the-table:_sre.__spec__:shared#opaque" }, { hash := PyData.keyHash P (Str.ofString "compile"), key := Value.str (Str.ofString "compile") 253, val := Value.builtin "_sre.compile" }, { hash := PyData.keyHash P (Str.ofString "template"), key := Value.str (Str.ofString "template") 254, val := Value.builtin "off-the-table:_sre.template:shared#opaque" }, { hash := PyData.keyHash P (Str.ofString "getcodesize"), key := Value.str (Str.ofString "getcodesize") 255, val := Value.builtin "off-the-table:_sre.getcodesize:shared#opaque" }, { hash := PyData.keyHash P (Str.ofString "ascii_iscased"), key := Value.str (Str.ofString "ascii_iscased") 256, val := Value.builtin "off-the-table:_sre.ascii_iscased:shared#opaque" }, { hash := PyData.keyHash P (Str.ofString "unicode_iscased"), key := Value.str (Str.ofString "unicode_iscased") 257, val := Value.builtin "off-the-table:_sre.unicode_iscased:shared#opaque" }, { hash := PyData.keyHash P (Str.ofString "ascii_tolower"), key := Value.str (Str.ofString "ascii_tolower") 258, val := Value.builtin "off-the-table:_sre.ascii_tolower:shared#opaque" }, { hash := PyData.keyHash P (Str.ofString "unicode_tolower"), key := Value.str (Str.ofString "unicode_tolower") 259, val := Value.builtin "off-the-table:_sre.unicode_tolower:shared#opaque" }, { hash := PyData.keyHash P (Str.ofString "MAGIC"), key := Value.str (Str.ofString "MAGIC") 261, val := Value.int 20230612 260 }, { hash := PyData.keyHash P (Str.ofString "CODESIZE"), key := Value.str (Str.ofString "CODESIZE") 263, val := Value.int 4 262 }, { hash := PyData.keyHash P (Str.ofString "MAXREPEAT"), key := Value.str (Str.ofString "MAXREPEAT") 265, val := Value.int 4294967295 264 }, { hash := PyData.keyHash P (Str.ofString "MAXGROUPS"), key := Value.str (Str.ofString "MAXGROUPS") 267, val := Value.int 1073741823 266 }, { hash := PyData.keyHash P (Str.ofString "copyright"), key := Value.str (Str.ofString "copyright") 269, val := Value.str (Str.ofString " SRE 2.2.2 Copyright (c) 1997-2002 by Secret Labs AB ") 268 }] 17 }
noncomputable def ob12 (P : Params) : Obj := { cls := Value.type "module", dict := some 11 }
noncomputable def ob13 (P : Params) : Obj := { cls := Value.type "dict", data := Data.dict #[{ hash := PyData.keyHash P (Str.ofString "__module__"), key := Value.str (Str.ofString "__module__") 189, val := Value.str (Str.ofString "_frozen_importlib") 186 }, { hash := PyData.keyHash P (Str.ofString "__firstlineno__"), key := Value.str (Str.ofString "__firstlineno__") 190, val := Value.int 971 187 }, { hash := PyData.keyHash P (Str.ofString "__doc__"), key := Value.str (Str.ofString "__doc__") 191, val := Value.builtin "_frozen_importlib.BuiltinImporter.__doc__:str#opaque" }, { hash := PyData.keyHash P (Str.ofString "_ORIGIN"), key := Value.str (Str.ofString "_ORIGIN") 192, val := Value.str (Str.ofString "built-in") 188 }, { hash := PyData.keyHash P (Str.ofString "find_spec"), key := Value.str (Str.ofString "find_spec") 193, val := Value.builtin "_frozen_importlib.BuiltinImporter.find_spec#opaque" }, { hash := PyData.keyHash P (Str.ofString "create_module"), key := Value.str (Str.ofString "create_module") 194, val := Value.builtin "_frozen_importlib.BuiltinImporter.create_module#opaque" }, { hash := PyData.keyHash P (Str.ofString "exec_module"), key := Value.str (Str.ofString "exec_module") 195, val := Value.builtin "_frozen_importlib.BuiltinImporter.exec_module#opaque" }, { hash := PyData.keyHash P (Str.ofString "get_code"), key := Value.str (Str.ofString "get_code") 196, val := Value.builtin "_frozen_importlib.BuiltinImporter.get_code#opaque" }, { hash := PyData.keyHash P (Str.ofString "get_source"), key := Value.str (Str.ofString "get_source") 197, val := Value.builtin "_frozen_importlib.BuiltinImporter.get_source#opaque" }, { hash := PyData.keyHash P (Str.ofString "is_package"), key := Value.str (Str.ofString "is_package") 198, val := Value.builtin "_frozen_importlib.BuiltinImporter.is_package#opaque" }, { hash := PyData.keyHash P (Str.ofString "load_module"), key := Value.str (Str.ofString "load_module") 199, val := Value.builtin "_frozen_importlib.BuiltinImporter.load_module#opaque" }, { hash := PyData.keyHash P (Str.ofString "__static_attributes__"), key := Value.str (Str.ofString "__static_attributes__") 200, val := Value.ref 15 }, { hash := PyData.keyHash P (Str.ofString "__dict__"), key := Value.str (Str.ofString "__dict__") 202, val := Value.ref 16 }, { hash := PyData.keyHash P (Str.ofString "__weakref__"), key := Value.str (Str.ofString "__weakref__") 204, val := Value.ref 17 }] 14 }
noncomputable def ob14 (P : Params) : Obj := { cls := Value.type "type", data := Data.cls { name := Str.ofString "BuiltinImporter", bases := [Value.type "object"], mro := [Value.ref 14, Value.type "object"], ns := 13, qualname := Str.ofString "BuiltinImporter" } }
noncomputable def ob15 (P : Params) : Obj := { cls := Value.type "getset_descriptor", data := Data.fields #[Value.str (Str.ofString "__dict__") 201, Value.ref 14, Value.builtin "function.__dict__", Value.builtin "function.__dict__#set"] }
noncomputable def ob16 (P : Params) : Obj := { cls := Value.type "getset_descriptor", data := Data.fields #[Value.str (Str.ofString "__weakref__") 203, Value.ref 14, Value.builtin "ExceptionGroup.__weakref__", Value.none] }
noncomputable def ob17 (P : Params) : Obj := { cls := Value.none, data := Data.seq #[Value.int 13 0, Value.str (Str.ofString "\x06½\n__module__\x06º\x11_frozen_importlib\x06¾\x0f__firstlineno__\x04»\x00ϋ\x06¿\x07__doc__\t4_frozen_importlib.BuiltinImporter.__doc__:str#opaque\x06À\x07_ORIGIN\x06¼\x08built-in\x06Á\tfind_spec\t2_frozen_importlib.BuiltinImporter.find_spec#opaque\x06Â\x0dcreate_module\t6_frozen_importlib.BuiltinImporter.create_module#opaque\x06Ã\x0bexec_module\t4_frozen_importlib.BuiltinImporter.exec_module#opaque\x06Ä\x08get_code\t1_frozen_importlib.BuiltinImporter.get_code#opaque\x06Å\nget_source\t3_frozen_importlib.BuiltinImporter.get_source#opaque\x06Æ\nis_package\t3_frozen_importlib.BuiltinImporter.is_package#opaque\x06Ç\x0bload_module\t4_frozen_importlib.BuiltinImporter.load_module#opaque\x06È\x15__static_attributes__\x04\x00\x00\x0f\x06Ê\x08__dict__\x04\x00\x00\x10\x06Ì\x0b__weakref__\x04\x00\x00\x11") 0, Value.bool true, Value.bool true, Value.str (Str.ofString "") 205, Value.int 21 0, Value.str (Str.ofString "\x06ã\n__module__\x06Ù\x11_frozen_importlib\x06ä\x0f__firstlineno__\x04Ú\x00Ȳ\x06å\x07__doc__\t/_frozen_importlib.ModuleSpec.__doc__:str#opaque\x06æ\x08__init__\t,_frozen_importlib.ModuleSpec.__init__#opaque\x06ç\x08__repr__\t,_frozen_importlib.ModuleSpec.__repr__#opaque\x06è\x06__eq__\t*_frozen_importlib.ModuleSpec.__eq__#opaque\x06é\x06cached\t*_frozen_importlib.ModuleSpec.cached#opaque\x06ê\x06parent\t*_frozen_importlib.ModuleSpec.parent#opaque\x06ë\x0chas_location\t0_frozen_importlib.ModuleSpec.has_location#opaque\x06ì\x15__static_attributes__\x04\x00\x00\x17\x06î\x08__dict__\x04\x00\x00\x18\x06ð\x0b__weakref__\x04\x00\x00\x19\x06ñ\x08__hash__\x00") 0, Value.bool true, Value.bool true, Value.str (Str.ofString "") 242] 1 }
noncomputable def ob18 (P : Params) : Obj := { cls := Value.type "list", data := Data.seq #[] }
noncomputable def ob19 (P : Params) : Obj := { cls := Value.type "dict", data := Data.dict #[{ hash := PyData.keyHash P (Str.ofString "name"), key := Value.str (Str.ofString "name") 208, val := Value.str (Str.ofString "_sre") 207 }, { hash := PyData.keyHash P (Str.ofString "loader"), key := Value.str (Str.ofString "loader") 209, val := Value.ref 14 }, { hash := PyData.keyHash P (Str.ofString "origin"), key := Value.str (Str.ofString "origin") 210, val := Value.str (Str.ofString "built-in") 184 }, { hash := PyData.keyHash P (Str.ofString "loader_state"), key := Value.str (Str.ofString "loader_state") 211, val := Value.none }, { hash := PyData.keyHash P (Str.ofString "submodule_search_locations"), key := Value.str (Str.ofString "submodule_search_locations") 212, val := Value.none }, { hash := PyData.keyHash P (Str.ofString "_uninitialized_submodules"), key := Value.str (Str.ofString "_uninitialized_submodules") 213, val := Value.ref 19 }, { hash := PyData.keyHash P (Str.ofString "_set_fileattr"), key := Value.str (Str.ofString "_set_fileattr") 214, val := Value.bool false }, { hash := PyData.keyHash P (Str.ofString "_cached"), key := Value.str (Str.ofString "_cached") 215, val := Value.none }, { hash := PyData.keyHash P (Str.ofString "_initializing"), key := Value.str (Str.ofString "_initializing") 243, val := Value.bool false }] 9 }
noncomputable def ob20 (P : Params) : Obj := { cls := Value.type "dict", data := Data.dict #[{ hash := PyData.keyHash P (Str.ofString "__module__"), key := Value.str (Str.ofString "__module__") 227, val := Value.str (Str.ofString "_frozen_importlib") 217 }, { hash := PyData.keyHash P (Str.ofString "__firstlineno__"), key := Value.str (Str.ofString "__firstlineno__") 228, val := Value.int 562 218 }, { hash := PyData.keyHash P (Str.ofString "__doc__"), key := Value.str (Str.ofString "__doc__") 229, val := Value.builtin "_frozen_importlib.ModuleSpec.__doc__:str#opaque" }, { hash := PyData.keyHash P (Str.ofString "__init__"), key := Value.str (Str.ofString "__init__") 230, val := Value.builtin "_frozen_importlib.ModuleSpec.__init__#opaque" }, { hash := PyData.keyHash P (Str.ofString "__repr__"), key := Value.str (Str.ofString "__repr__") 231, val := Value.builtin "_frozen_importlib.ModuleSpec.__repr__#opaque" }, { hash := PyData.keyHash P (Str.ofString "__eq__"), key := Value.str (Str.ofString "__eq__") 232, val := Value.builtin "_frozen_importlib.ModuleSpec.__eq__#opaque" }, { hash := PyData.keyHash P (Str.ofString "cached"), key := Value.str (Str.ofString "cached") 233, val := Value.builtin "_frozen_importlib.ModuleSpec.cached#opaque" }, { hash := PyData.keyHash P (Str.ofString "parent"), key := Value.str (Str.ofString "parent") 234, val := Value.builtin "_frozen_importlib.ModuleSpec.parent#opaque" }, { hash := PyData.keyHash P (Str.ofString "has_location"), key := Value.str (Str.ofString "has_location") 235, val := Value.builtin "_frozen_importlib.ModuleSpec.has_location#opaque" }, { hash := PyData.keyHash P (Str.ofString "__static_attributes__"), key := Value.str (Str.ofString "__static_attributes__") 236, val := Value.ref 23 }, { hash := PyData.keyHash P (Str.ofString "__dict__"), key := Value.str (Str.ofString "__dict__") 238, val := Value.ref 24 }, { hash := PyData.keyHash P (Str.ofString "__weakref__"), key := Value.str (Str.ofString "__weakref__") 240, val := Value.ref 25 }, { hash := PyData.keyHash P (Str.ofString "__hash__"), key := Value.str (Str.ofString "__hash__") 241, val := Value.none }] 13 }
noncomputable def ob21 (P : Params) : Obj := { cls := Value.type "type", data := Data.cls { name := Str.ofString "ModuleSpec", bases := [Value.type "object"], mro := [Value.ref 22, Value.type "object"], ns := 21, qualname := Str.ofString "ModuleSpec" } }
noncomputable def ob22 (P : Params) : Obj := { cls := Value.type "tuple", data := Data.seq #[Value.str (Str.ofString "_cached") 219, Value.str (Str.ofString "_set_fileattr") 220, Value.str (Str.ofString "_uninitialized_submodules") 221, Value.str (Str.ofString "loader") 222, Value.str (Str.ofString "loader_state") 223, Value.str (Str.ofString "name") 224, Value.str (Str.ofString "origin") 225, Value.str (Str.ofString "submodule_search_locations") 226] }
noncomputable def ob23 (P : Params) : Obj := { cls := Value.type "getset_descriptor", data := Data.fields #[Value.str (Str.ofString "__dict__") 237, Value.ref 22, Value.builtin "function.__dict__", Value.builtin "function.__dict__#set"] }
noncomputable def ob24 (P : Params) : Obj := { cls := Value.type "getset_descriptor", data := Data.fields #[Value.str (Str.ofString "__weakref__") 239, Value.ref 22, Value.builtin "ExceptionGroup.__weakref__", Value.none] }
noncomputable def ob25 (P : Params) : Obj := { cls := Value.ref 22, dict := some 20 }
noncomputable def ob26 (P : Params) : Obj := { cls := Value.none, data := Data.seq #[Value.int 11 0, Value.str { cps := #[6, 247, 8, 95, 95, 110, 97, 109, 101, 95, 95, 6, 246, 4, 95, 115, 114, 101, 6, 248, 7, 95, 95, 100, 111, 99, 95, 95, 0, 6, 250, 11, 95, 95, 112, 97, 99, 107, 97, 103, 101, 95, 95, 6, 249, 0, 6, 251, 10, 95, 95, 108, 111, 97, 100, 101, 114, 95, 95, 4, 0, 0, 14, 6, 252, 8, 95, 95, 115, 112, 101, 99, 95, 95, 4, 0, 0, 26, 6, 253, 7, 99, 111, 109, 112, 105, 108, 101, 9, 12, 95, 115, 114, 101, 46, 99, 111, 109, 112, 105, 108, 101, 6, 254, 8, 116, 101, 109, 112, 108, 97, 116, 101, 9, 13, 95, 115, 114, 101, 46, 116, 101, 109, 112, 108, 97, 116, 101, 6, 255, 11, 103, 101, 116, 99, 111, 100, 101, 115, 105, 122, 101, 9, 16, 95, 115, 114, 101, 46, 103, 101, 116, 99, 111, 100, 101, 115, 105, 122, 101, 6, 256, 13, 97, 115, 99, 105, 105, 95, 105, 115, 99, 97, 115, 101, 100, 9, 18, 95, 115, 114, 101, 46, 97, 115, 99, 105, 105, 95, 105, 115, 99, 97, 115, 101, 100, 6, 257, 15, 117, 110, 105, 99, 111, 100, 101, 95, 105, 115, 99, 97, 115, 101, 100, 9, 20, 95, 115, 114, 101, 46, 117, 110, 105, 99, 111, 100, 101, 95, 105, 115, 99, 97, 115, 101, 100, 6, 258, 13, 97, 115, 99, 105, 105, 95, 116, 111, 108, 111, 119, 101, 114, 9, 18, 95, 115, 114, 101, 46, 97, 115, 99, 105, 105, 95, 116, 111, 108, 111, 119, 101, 114, 6, 259, 15, 117, 110, 105, 99, 111, 100, 101, 95, 116, 111, 108, 111, 119, 101, 114, 9, 20, 95, 115, 114, 101, 46, 117, 110, 105, 99, 111, 100, 101, 95, 116, 111, 108, 111, 119, 101, 114, 6, 261, 5, 77, 65, 71, 73, 67, 4, 260, 0, 20230612, 6, 263, 8, 67, 79, 68, 69, 83, 73, 90, 69, 4, 262, 0, 4, 6, 265, 9, 77, 65, 88, 82, 69, 80, 69, 65, 84, 4, 264, 0, 4294967295, 6, 267, 9, 77, 65, 88, 71, 82, 79, 85, 80, 83, 4, 266, 0, 1073741823, 6, 269, 9, 99, 111, 112, 121, 114, 105, 103, 104, 116, 6, 268, 53, 32, 83, 82, 69, 32, 50, 46, 50, 46, 50, 32, 67, 111, 112, 121, 114, 105, 103, 104, 116, 32, 40, 99, 41, 32, 49, 57, 57, 55, 45, 50, 48, 48, 50, 32, 98, 121, 32, 83, 101, 99, 114, 101, 116, 32, 76, 97, 98, 115, 32, 65, 66, 32] } 0, Value.bool true, Value.bool false, Value.str (Str.ofString "_sre") 271] }
noncomputable def ob27 (P : Params) : Obj := { cls := Value.type "code", data := Data.fields #[Value.str (Str.ofString "<module>") 277, Value.str (Str.ofString "<module>") 278, Value.str (Str.ofString "/claim/cut.py") 279, Value.int 1 0, Value.int 0 0, Value.int 0 0, Value.int 0 0, Value.int 0 0, Value.ref 28, Value.bool false, Value.int 276 0, Value.ref 29, Value.none, Value.none, Value.none, Value.none, Value.int 280 0, Value.int 1 0, Value.str (Str.ofString "/claim/cut.py") 281] }
noncomputable def ob28 (P : Params) : Obj := { cls := Value.type "frame", slots := #[some (Value.ref 30), some (Value.ref 3), some (Value.ref 3), none, some (Value.str (Str.ofString "__main__") 164), none, some (Value.ref 0)] }
noncomputable def ob29 (P : Params) : Obj := { cls := Value.type "dict", data := Data.dict #[{ hash := PyData.keyHash P (Str.ofString "__name__"), key := Value.str (Str.ofString "__name__") 165, val := Value.str (Str.ofString "re") 375 }, { hash := PyData.keyHash P (Str.ofString "__doc__"), key := Value.str (Str.ofString "__doc__") 166, val := Value.none }, { hash := PyData.keyHash P (Str.ofString "__package__"), key := Value.str (Str.ofString "__package__") 167, val := Value.none }, { hash := PyData.keyHash P (Str.ofString "__loader__"), key := Value.str (Str.ofString "__loader__") 168, val := Value.builtin "__main__.__loader__#opaque" }, { hash := PyData.keyHash P (Str.ofString "__spec__"), key := Value.str (Str.ofString "__spec__") 169, val := Value.none }, { hash := PyData.keyHash P (Str.ofString "__annotations__"), key := Value.str (Str.ofString "__annotations__") 170, val := Value.ref 6 }, { hash := PyData.keyHash P (Str.ofString "__builtins__"), key := Value.str (Str.ofString "__builtins__") 171, val := Value.ref 4 }, { hash := PyData.keyHash P (Str.ofString "__file__"), key := Value.str (Str.ofString "__file__") 173, val := Value.str (Str.ofString "/claim/cut.py") 172 }, { hash := PyData.keyHash P (Str.ofString "__cached__"), key := Value.str (Str.ofString "__cached__") 174, val := Value.none }, { hash := PyData.keyHash P (Str.ofString "_sre"), key := Value.str (Str.ofString "_sre") 275, val := Value.ref 12 }, { hash := PyData.keyHash P (Str.ofString "_raise_serialization_error"), key := Value.str (Str.ofString "_raise_serialization_error") 290, val := Value.ref 38 }, { hash := PyData.keyHash P (Str.ofString "_escape_cdata"), key := Value.str (Str.ofString "_escape_cdata") 297, val := Value.ref 45 }, { hash := PyData.keyHash P (Str.ofString "_escape_attrib"), key := Value.str (Str.ofString "_escape_attrib") 304, val := Value.ref 52 }, { hash := PyData.keyHash P (Str.ofString "_escape_attrib_html"), key := Value.str (Str.ofString "_escape_attrib_html") 311, val := Value.ref 59 }, { hash := PyData.keyHash P (Str.ofString "_escape_cdata_c14n"), key := Value.str (Str.ofString "_escape_cdata_c14n") 318, val := Value.ref 66 }, { hash := PyData.keyHash P (Str.ofString "_escape_attrib_c14n"), key := Value.str (Str.ofString "_escape_attrib_c14n") 325, val := Value.ref 73 }, { hash := PyData.keyHash P (Str.ofString "_twin_re_1"), key := Value.str (Str.ofString "_twin_re_1") 365, val := Value.ref 78 }, { hash := PyData.keyHash P (Str.ofString "translate"), key := Value.str (Str.ofString "translate") 374, val := Value.ref 85 }] 18 }
noncomputable def ob30 (P : Params) : Obj := { cls := Value.none, data := Data.fields #[Value.int 3 0, Value.int 0 0, Value.ref 37, Value.int 5 0, Value.int 0 0, Value.ref 44, Value.int 16 0, Value.int 0 0, Value.ref 51, Value.int 35 0, Value.int 0 0, Value.ref 58, Value.int 46 0, Value.int 0 0, Value.ref 65, Value.int 59 0, Value.int 0 0, Value.ref 72, Value.int 78 0, Value.int 0 0, Value.ref 84] }
noncomputable def ob31 (P : Params) : Obj := { cls := Value.type "tuple", data := Data.seq #[Value.str (Str.ofString "text") 287] }
noncomputable def ob32 : Params → Obj := (fun (a2 : Arguments) (b2 : List Stmt) (s2 : Scope) (_ : stmtAt 2 = some (a2, b2, s2)) (P : Params) => ({ cls := Value.none, data := Data.func { name := Str.ofString "_raise_serialization_error", qualname := Str.ofString "_raise_serialization_error", params := a2, body := FuncBody.stmts b2, scope := s2, globals := 0, closure := [], defaults := Value.none, kwdefaults := Value.none } } : Obj)) _ _ _ rfl
noncomputable def ob33 (P : Params) : Obj := { cls := Value.type "code", data := Data.fields #[Value.str (Str.ofString "_raise_serialization_error") 284, Value.str (Str.ofString "_raise_serialization_error") 285, Value.str (Str.ofString "/claim/cut.py") 286, Value.int 3 0, Value.int 1 0, Value.int 0 0, Value.int 0 0, Value.int 3 0, Value.ref 32, Value.bool true, Value.int 276 0, Value.ref 33, Value.none, Value.ref 34, Value.ref 35, Value.ref 36, Value.int 288 0, Value.int 3 0, Value.str (Str.ofString "/claim/cut.py") 289] }
noncomputable def ob34 : Params → Obj := (fun (a2 : Arguments) (b2 : List Stmt) (s2 : Scope) (_ : stmtAt 2 = some (a2, b2, s2)) (P : Params) => ({ cls := Value.type "function", data := Data.func { name := Str.ofString "_raise_serialization_error", qualname := Str.ofString "_raise_serialization_error", params := a2, body := FuncBody.stmts b2, scope := s2, globals := 3, closure := [], defaults := Value.none, kwdefaults := Value.none, pyModule := Value.str (Str.ofString "cpy313.xml.etree.ElementTree") 282, code := Value.ref 37 } } : Obj)) _ _ _ rfl
noncomputable def ob35 (P : Params) : Obj := { cls := Value.type "tuple", data := Data.seq #[Value.str (Str.ofString "text") 294] }
noncomputable def ob36 : Params → Obj := (fun (a3 : Arguments) (b3 : List Stmt) (s3 : Scope) (_ : stmtAt 3 = some (a3, b3, s3)) (P : Params) => ({ cls := Value.none, data := Data.func { name := Str.ofString "_escape_cdata", qualname := Str.ofString "_escape_cdata", params := a3, body := FuncBody.stmts b3, scope := s3, globals := 0, closure := [], defaults := Value.none, kwdefaults := Value.none } } : Obj)) _ _ _ rfl
noncomputable def ob37 (P : Params) : Obj := { cls := Value.type "code", data := Data.fields #[Value.str (Str.ofString "_escape_cdata") 291, Value.str (Str.ofString "_escape_cdata") 292, Value.str (Str.ofString "/claim/cut.py") 293, Value.int 5 0, Value.int 1 0, Value.int 0 0, Value.int 0 0, Value.int 3 0, Value.ref 39, Value.bool true, Value.int 276 0, Value.ref 40, Value.none, Value.ref 41, Value.ref 42, Value.ref 43, Value.int 295 0, Value.int 5 0, Value.str (Str.ofString "/claim/cut.py") 296] }
noncomputable def ob38 : Params → Obj := (fun (a3 : Arguments) (b3 : List Stmt) (s3 : Scope) (_ : stmtAt 3 = some (a3, b3, s3)) (P : Params) => ({ cls := Value.type "function", data := Data.func { name := Str.ofString "_escape_cdata", qualname := Str.ofString "_escape_cdata", params := a3, body := FuncBody.stmts b3, scope := s3, globals := 3, closure := [], defaults := Value.none, kwdefaults := Value.none, pyModule := Value.str (Str.ofString "cpy313.xml.etree.ElementTree") 282, code := Value.ref 44 } } : Obj)) _ _ _ rfl
noncomputable def ob39 (P : Params) : Obj := { cls := Value.type "tuple", data := Data.seq #[Value.str (Str.ofString "text") 301] }
noncomputable def ob40 : Params → Obj := (fun (a4 : Arguments) (b4 : List Stmt) (s4 : Scope) (_ : stmtAt 4 = some (a4, b4, s4)) (P : Params) => ({ cls := Value.none, data := Data.func { name := Str.ofString "_escape_attrib", qualname := Str.ofString "_escape_attrib", params := a4, body := FuncBody.stmts b4, scope := s4, globals := 0, closure := [], defaults := Value.none, kwdefaults := Value.none } } : Obj)) _ _ _ rfl
noncomputable def ob41 (P : Params) : Obj := { cls := Value.type "code", data := Data.fields #[Value.str (Str.ofString "_escape_attrib") 298, Value.str (Str.ofString "_escape_attrib") 299, Value.str (Str.ofString "/claim/cut.py") 300, Value.int 16 0, Value.int 1 0, Value.int 0 0, Value.int 0 0, Value.int 3 0, Value.ref 46, Value.bool true, Value.int 276 0, Value.ref 47, Value.none, Value.ref 48, Value.ref 49, Value.ref 50, Value.int 302 0, Value.int 16 0, Value.str (Str.ofString "/claim/cut.py") 303] }
noncomputable def ob42 : Params → Obj := (fun (a4 : Arguments) (b4 : List Stmt) (s4 : Scope) (_ : stmtAt 4 = some (a4, b4, s4)) (P : Params) => ({ cls := Value.type "function", data := Data.func { name := Str.ofString "_escape_attrib", qualname := Str.ofString "_escape_attrib", params := a4, body := FuncBody.stmts b4, scope := s4, globals := 3, closure := [], defaults := Value.none, kwdefaults := Value.none, pyModule := Value.str (Str.ofString "cpy313.xml.etree.ElementTree") 282, code := Value.ref 51 } } : Obj)) _ _ _ rfl
noncomputable def ob43 (P : Params) : Obj := { cls := Value.type "tuple", data := Data.seq #[Value.str (Str.ofString "text") 308] }
noncomputable def ob44 : Params → Obj := (fun (a5 : Arguments) (b5 : List Stmt) (s5 : Scope) (_ : stmtAt 5 = some (a5, b5, s5)) (P : Params) => ({ cls := Value.none, data := Data.func { name := Str.ofString "_escape_attrib_html", qualname := Str.ofString "_escape_attrib_html", params := a5, body := FuncBody.stmts b5, scope := s5, globals := 0, closure := [], defaults := Value.none, kwdefaults := Value.none } } : Obj)) _ _ _ rfl
noncomputable def ob45 (P : Params) : Obj := { cls := Value.type "code", data := Data.fields #[Value.str (Str.ofString "_escape_attrib_html") 305, Value.str (Str.ofString "_escape_attrib_html") 306, Value.str (Str.ofString "/claim/cut.py") 307, Value.int 35 0, Value.int 1 0, Value.int 0 0, Value.int 0 0, Value.int 3 0, Value.ref 53, Value.bool true, Value.int 276 0, Value.ref 54, Value.none, Value.ref 55, Value.ref 56, Value.ref 57, Value.int 309 0, Value.int 35 0, Value.str (Str.ofString "/claim/cut.py") 310] }
noncomputable def ob46 : Params → Obj := (fun (a5 : Arguments) (b5 : List Stmt) (s5 : Scope) (_ : stmtAt 5 = some (a5, b5, s5)) (P : Params) => ({ cls := Value.type "function", data := Data.func { name := Str.ofString "_escape_attrib_html", qualname := Str.ofString "_escape_attrib_html", params := a5, body := FuncBody.stmts b5, scope := s5, globals := 3, closure := [], defaults := Value.none, kwdefaults := Value.none, pyModule := Value.str (Str.ofString "cpy313.xml.etree.ElementTree") 282, code := Value.ref 58 } } : Obj)) _ _ _ rfl
noncomputable def ob47 (P : Params) : Obj := { cls := Value.type "tuple", data := Data.seq #[Value.str (Str.ofString "text") 315] }
noncomputable def ob48 : Params → Obj := (fun (a6 : Arguments) (b6 : List Stmt) (s6 : Scope) (_ : stmtAt 6 = some (a6, b6, s6)) (P : Params) => ({ cls := Value.none, data := Data.func { name := Str.ofString "_escape_cdata_c14n", qualname := Str.ofString "_escape_cdata_c14n", params := a6, body := FuncBody.stmts b6, scope := s6, globals := 0, closure := [], defaults := Value.none, kwdefaults := Value.none } } : Obj)) _ _ _ rfl
noncomputable def ob49 (P : Params) : Obj := { cls := Value.type "code", data := Data.fields #[Value.str (Str.ofString "_escape_cdata_c14n") 312, Value.str (Str.ofString "_escape_cdata_c14n") 313, Value.str (Str.ofString "/claim/cut.py") 314, Value.int 46 0, Value.int 1 0, Value.int 0 0, Value.int 0 0, Value.int 3 0, Value.ref 60, Value.bool true, Value.int 276 0, Value.ref 61, Value.none, Value.ref 62, Value.ref 63, Value.ref 64, Value.int 316 0, Value.int 46 0, Value.str (Str.ofString "/claim/cut.py") 317] }
noncomputable def ob50 : Params → Obj := (fun (a6 : Arguments) (b6 : List Stmt) (s6 : Scope) (_ : stmtAt 6 = some (a6, b6, s6)) (P : Params) => ({ cls := Value.type "function", data := Data.func { name := Str.ofString "_escape_cdata_c14n", qualname := Str.ofString "_escape_cdata_c14n", params := a6, body := FuncBody.stmts b6, scope := s6, globals := 3, closure := [], defaults := Value.none, kwdefaults := Value.none, pyModule := Value.str (Str.ofString "cpy313.xml.etree.ElementTree") 282, code := Value.ref 65 } } : Obj)) _ _ _ rfl
noncomputable def ob51 (P : Params) : Obj := { cls := Value.type "tuple", data := Data.seq #[Value.str (Str.ofString "text") 322] }
noncomputable def ob52 : Params → Obj := (fun (a7 : Arguments) (b7 : List Stmt) (s7 : Scope) (_ : stmtAt 7 = some (a7, b7, s7)) (P : Params) => ({ cls := Value.none, data := Data.func { name := Str.ofString "_escape_attrib_c14n", qualname := Str.ofString "_escape_attrib_c14n", params := a7, body := FuncBody.stmts b7, scope := s7, globals := 0, closure := [], defaults := Value.none, kwdefaults := Value.none } } : Obj)) _ _ _ rfl
noncomputable def ob53 (P : Params) : Obj := { cls := Value.type "code", data := Data.fields #[Value.str (Str.ofString "_escape_attrib_c14n") 319, Value.str (Str.ofString "_escape_attrib_c14n") 320, Value.str (Str.ofString "/claim/cut.py") 321, Value.int 59 0, Value.int 1 0, Value.int 0 0, Value.int 0 0, Value.int 3 0, Value.ref 67, Value.bool true, Value.int 276 0, Value.ref 68, Value.none, Value.ref 69, Value.ref 70, Value.ref 71, Value.int 323 0, Value.int 59 0, Value.str (Str.ofString "/claim/cut.py") 324] }
noncomputable def ob54 : Params → Obj := (fun (a7 : Arguments) (b7 : List Stmt) (s7 : Scope) (_ : stmtAt 7 = some (a7, b7, s7)) (P : Params) => ({ cls := Value.type "function", data := Data.func { name := Str.ofString "_escape_attrib_c14n", qualname := Str.ofString "_escape_attrib_c14n", params := a7, body := FuncBody.stmts b7, scope := s7, globals := 3, closure := [], defaults := Value.none, kwdefaults := Value.none, pyModule := Value.str (Str.ofString "cpy313.xml.etree.ElementTree") 282, code := Value.ref 72 } } : Obj)) _ _ _ rfl
noncomputable def ob55 (P : Params) : Obj := { cls := Value.type "list", data := Data.seq #[Value.int 14 331, Value.int 14 332, Value.int 4 333, Value.int 1 334, Value.int 1 335, Value.int 9 336, Value.int 0 337, Value.int 64 338, Value.int 0 339, Value.int 1342177280 340, Value.int 0 341, Value.int 0 342, Value.int 0 343, Value.int 0 344, Value.int 0 345, Value.int 17 346, Value.int 0 347, Value.int 13 348, Value.int 11 349, Value.int 9 350, Value.int 0 351, Value.int 64 352, Value.int 0 353, Value.int 1342177280 354, Value.int 0 355, Value.int 0 356, Value.int 0 357, Value.int 0 358, Value.int 0 359, Value.int 17 360, Value.int 1 361, Value.int 1 362] }
noncomputable def ob56 (P : Params) : Obj := { cls := Value.type "tuple", data := Data.seq #[Value.none, Value.none] }
noncomputable def ob57 (P : Params) : Obj := { cls := Value.type "tuple", data := Data.seq #[Value.int 14 0, Value.int 14 0, Value.int 4 0, Value.int 1 0, Value.int 1 0, Value.int 9 0, Value.int 0 0, Value.int 64 0, Value.int 0 0, Value.int 1342177280 0, Value.int 0 0, Value.int 0 0, Value.int 0 0, Value.int 0 0, Value.int 0 0, Value.int 17 0, Value.int 0 0, Value.int 13 0, Value.int 11 0, Value.int 9 0, Value.int 0 0, Value.int 64 0, Value.int 0 0, Value.int 1342177280 0, Value.int 0 0, Value.int 0 0, Value.int 0 0, Value.int 0 0, Value.int 0 0, Value.int 17 0, Value.int 1 0, Value.int 1 0] }
noncomputable def ob58 (P : Params) : Obj := { cls := Value.type "re.Pattern", data := Data.fields #[Value.str (Str.ofString "([&~|])") 329, Value.int 32 364, Value.int 1 0, Value.none, Value.none, Value.ref 77, Value.int 0 0] }
noncomputable def ob59 (P : Params) : Obj := { cls := Value.type "tuple", data := Data.seq #[Value.str (Str.ofString "pat") 369, Value.str (Str.ofString "STAR") 370, Value.str (Str.ofString "parts") 371] }
noncomputable def ob60 : Params → Obj := (fun (a10 : Arguments) (b10 : List Stmt) (s10 : Scope) (_ : stmtAt 10 = some (a10, b10, s10)) (P : Params) => ({ cls := Value.none, data := Data.func { name := Str.ofString "translate", qualname := Str.ofString "translate", params := a10, body := FuncBody.stmts b10, scope := s10, globals := 0, closure := [], defaults := Value.none, kwdefaults := Value.none } } : Obj)) _ _ _ rfl
noncomputable def ob61 (P : Params) : Obj := { cls := Value.type "code", data := Data.fields #[Value.str (Str.ofString "translate") 366, Value.str (Str.ofString "translate") 367, Value.str (Str.ofString "/claim/cut.py") 368, Value.int 78 0, Value.int 1 0, Value.int 0 0, Value.int 0 0, Value.int 3 0, Value.ref 79, Value.bool true, Value.int 276 0, Value.ref 80, Value.none, Value.ref 81, Value.ref 82, Value.ref 83, Value.int 372 0, Value.int 78 0, Value.str (Str.ofString "/claim/cut.py") 373] }
noncomputable def ob62 : Params → Obj := (fun (a10 : Arguments) (b10 : List Stmt) (s10 : Scope) (_ : stmtAt 10 = some (a10, b10, s10)) (P : Params) => ({ cls := Value.type "function", data := Data.func { name := Str.ofString "translate", qualname := Str.ofString "translate", params := a10, body := FuncBody.stmts b10, scope := s10, globals := 3, closure := [], defaults := Value.none, kwdefaults := Value.none, pyModule := Value.str (Str.ofString "cpy313.fnmatch") 326, code := Value.ref 84 } } : Obj)) _ _ _ rfl
noncomputable def ob63 (P : Params) : Obj := { cls := Value.type "dict", data := Data.dict #[{ hash := PyData.keyHash P (Str.ofString "__name__"), key := Value.str (Str.ofString "__name__") 165, val := Value.str (Str.ofString "re") 375 }, { hash := PyData.keyHash P (Str.ofString "__doc__"), key := Value.str (Str.ofString "__doc__") 166, val := Value.none }, { hash := PyData.keyHash P (Str.ofString "__package__"), key := Value.str (Str.ofString "__package__") 167, val := Value.none }, { hash := PyData.keyHash P (Str.ofString "__loader__"), key := Value.str (Str.ofString "__loader__") 168, val := Value.builtin "__main__.__loader__#opaque" }, { hash := PyData.keyHash P (Str.ofString "__spec__"), key := Value.str (Str.ofString "__spec__") 169, val := Value.none }, { hash := PyData.keyHash P (Str.ofString "__annotations__"), key := Value.str (Str.ofString "__annotations__") 170, val := Value.ref 6 }, { hash := PyData.keyHash P (Str.ofString "__builtins__"), key := Value.str (Str.ofString "__builtins__") 171, val := Value.ref 4 }, { hash := PyData.keyHash P (Str.ofString "__file__"), key := Value.str (Str.ofString "__file__") 173, val := Value.str (Str.ofString "/claim/cut.py") 172 }, { hash := PyData.keyHash P (Str.ofString "__cached__"), key := Value.str (Str.ofString "__cached__") 174, val := Value.none }, { hash := PyData.keyHash P (Str.ofString "_sre"), key := Value.str (Str.ofString "_sre") 275, val := Value.ref 12 }, { hash := PyData.keyHash P (Str.ofString "_raise_serialization_error"), key := Value.str (Str.ofString "_raise_serialization_error") 290, val := Value.ref 38 }, { hash := PyData.keyHash P (Str.ofString "_escape_cdata"), key := Value.str (Str.ofString "_escape_cdata") 297, val := Value.ref 45 }, { hash := PyData.keyHash P (Str.ofString "_escape_attrib"), key := Value.str (Str.ofString "_escape_attrib") 304, val := Value.ref 52 }, { hash := PyData.keyHash P (Str.ofString "_escape_attrib_html"), key := Value.str (Str.ofString "_escape_attrib_html") 311, val := Value.ref 59 }, { hash := PyData.keyHash P (Str.ofString "_escape_cdata_c14n"), key := Value.str (Str.ofString "_escape_cdata_c14n") 318, val := Value.ref 66 }, { hash := PyData.keyHash P (Str.ofString "_escape_attrib_c14n"), key := Value.str (Str.ofString "_escape_attrib_c14n") 325, val := Value.ref 73 }, { hash := PyData.keyHash P (Str.ofString "_twin_re_1"), key := Value.str (Str.ofString "_twin_re_1") 365, val := Value.ref 78 }, { hash := PyData.keyHash P (Str.ofString "translate"), key := Value.str (Str.ofString "translate") 374, val := Value.ref 85 }, { hash := PyData.keyHash P (Str.ofString "_special_chars_map"), key := Value.str (Str.ofString "_special_chars_map") 522, val := Value.ref 87 }] 19 }
noncomputable def ob64 (P : Params) : Obj := { cls := Value.type "bytes_iterator", data := Data.fields #[Value.none, Value.int 24 0] }
noncomputable def ob65 (P : Params) : Obj := { cls := Value.type "dict", data := Data.dict #[{ hash := 40, key := Value.int 40 378, val := Value.str (Str.ofString "\\(") 382 }, { hash := 41, key := Value.int 41 384, val := Value.str (Str.ofString "\\)") 388 }, { hash := 91, key := Value.int 91 390, val := Value.str (Str.ofString "\\[") 394 }, { hash := 93, key := Value.int 93 396, val := Value.str (Str.ofString "\\]") 400 }, { hash := 123, key := Value.int 123 402, val := Value.str (Str.ofString "\\{") 406 }, { hash := 125, key := Value.int 125 408, val := Value.str (Str.ofString "\\}") 412 }, { hash := 63, key := Value.int 63 414, val := Value.str (Str.ofString "\\?") 418 }, { hash := 42, key := Value.int 42 420, val := Value.str (Str.ofString "\\*") 424 }, { hash := 43, key := Value.int 43 426, val := Value.str (Str.ofString "\\+") 430 }, { hash := 45, key := Value.int 45 432, val := Value.str (Str.ofString "\\-") 436 }, { hash := 124, key := Value.int 124 438, val := Value.str (Str.ofString "\\|") 442 }, { hash := 94, key := Value.int 94 444, val := Value.str (Str.ofString "\\^") 448 }, { hash := 36, key := Value.int 36 450, val := Value.str (Str.ofString "\\$") 454 }, { hash := 92, key := Value.int 92 456, val := Value.str (Str.ofString "\\\\") 460 }, { hash := 46, key := Value.int 46 462, val := Value.str (Str.ofString "\\.") 466 }, { hash := 38, key := Value.int 38 468, val := Value.str (Str.ofString "\\&") 472 }, { hash := 126, key := Value.int 126 474, val := Value.str (Str.ofString "\\~") 478 }, { hash := 35, key := Value.int 35 480, val := Value.str (Str.ofString "\\#") 484 }, { hash := 32, key := Value.int 32 486, val := Value.str (Str.ofString "\\ ") 490 }, { hash := 9, key := Value.int 9 492, val := Value.str (Str.ofString "\\\t") 496 }, { hash := 10, key := Value.int 10 498, val := Value.str (Str.ofString "\\\n") 502 }, { hash := 13, key := Value.int 13 504, val := Value.str (Str.ofString "\\\x0d") 508 }, { hash := 11, key := Value.int 11 510, val := Value.str (Str.ofString "\\\x0b") 514 }, { hash := 12, key := Value.int 12 516, val := Value.str (Str.ofString "\\\x0c") 520 }] 24 }
noncomputable def ob66 (P : Params) : Obj := { cls := Value.type "dict", data := Data.dict #[] 2 }
noncomputable def ob67 (P : Params) : Obj := { cls := Value.type "StopIteration", data := Data.fields #[Value.ref 89, Value.none, Value.none, Value.none, Value.bool false, Value.none] }
noncomputable def hp0 (P : Params) : Heap := Heap.mk (Array.mk (ob0 P :: ob1 P :: ob2 P :: ob3 P :: ob4 P :: ob5 P :: ob6 P :: ob7 P :: ob8 P :: ob9 P :: ob10 P :: ob11 P :: ob12 P :: ob13 P :: ob14 P :: ob7 P :: ob15 P :: ob16 P :: ob17 P :: ob18 P :: ob19 P :: ob20 P :: ob21 P :: ob22 P :: ob23 P :: ob24 P :: ob25 P :: ob26 P :: [])) {}
noncomputable def hpP (P : Params) : Heap := Heap.mk (Array.mk (ob0 P :: ob1 P :: ob2 P :: ob3 P :: ob4 P :: ob5 P :: ob6 P :: ob7 P :: ob8 P :: ob9 P :: ob10 P :: ob11 P :: ob12 P :: ob13 P :: ob14 P :: ob7 P :: ob15 P :: ob16 P :: ob17 P :: ob18 P :: ob19 P :: ob20 P :: ob21 P :: ob22 P :: ob23 P :: ob24 P :: ob25 P :: ob26 P :: ob7 P :: ob8 P :: ob27 P :: ob28 P :: [])) {}
noncomputable def hpA (P : Params) : Heap := Heap.mk (Array.mk (ob0 P :: ob1 P :: ob2 P :: ob29 P :: ob4 P :: ob5 P :: ob6 P :: ob7 P :: ob8 P :: ob9 P :: ob10 P :: ob11 P :: ob12 P :: ob13 P :: ob14 P :: ob7 P :: ob15 P :: ob16 P :: ob17 P :: ob18 P :: ob19 P :: ob20 P :: ob21 P :: ob22 P :: ob23 P :: ob24 P :: ob25 P :: ob26 P :: ob7 P :: ob30 P :: ob27 P :: ob28 P :: ob7 P :: ob8 P :: ob31 P :: ob7 P :: ob32 P :: ob33 P :: ob34 P :: ob7 P :: ob8 P :: ob35 P :: ob7 P :: ob36 P :: ob37 P :: ob38 P :: ob7 P :: ob8 P :: ob39 P :: ob7 P :: ob40 P :: ob41 P :: ob42 P :: ob7 P :: ob8 P :: ob43 P :: ob7 P :: ob44 P :: ob45 P :: ob46 P :: ob7 P :: ob8 P :: ob47 P :: ob7 P :: ob48 P :: ob49 P :: ob50 P :: ob7 P :: ob8 P :: ob51 P :: ob7 P :: ob52 P :: ob53 P :: ob54 P :: ob55 P :: ob6 P :: ob56 P :: ob57 P :: ob58 P :: ob7 P :: ob8 P :: ob59 P :: ob7 P :: ob60 P :: ob61 P :: ob62 P :: [])) {}
noncomputable def hpB (P : Params) : Heap := Heap.mk (Array.mk (ob0 P :: ob1 P :: ob2 P :: ob63 P :: ob4 P :: ob5 P :: ob6 P :: ob7 P :: ob8 P :: ob9 P :: ob10 P :: ob11 P :: ob12 P :: ob13 P :: ob14 P :: ob7 P :: ob15 P :: ob16 P :: ob17 P :: ob18 P :: ob19 P :: ob20 P :: ob21 P :: ob22 P :: ob23 P :: ob24 P :: ob25 P :: ob26 P :: ob7 P :: ob30 P :: ob27 P :: ob28 P :: ob7 P :: ob8 P :: ob31 P :: ob7 P :: ob32 P :: ob33 P :: ob34 P :: ob7 P :: ob8 P :: ob35 P :: ob7 P :: ob36 P :: ob37 P :: ob38 P :: ob7 P :: ob8 P :: ob39 P :: ob7 P :: ob40 P :: ob41 P :: ob42 P :: ob7 P :: ob8 P :: ob43 P :: ob7 P :: ob44 P :: ob45 P :: ob46 P :: ob7 P :: ob8 P :: ob47 P :: ob7 P :: ob48 P :: ob49 P :: ob50 P :: ob7 P :: ob8 P :: ob51 P :: ob7 P :: ob52 P :: ob53 P :: ob54 P :: ob55 P :: ob6 P :: ob56 P :: ob57 P :: ob58 P :: ob7 P :: ob8 P :: ob59 P :: ob7 P :: ob60 P :: ob61 P :: ob62 P :: ob64 P :: ob65 P :: ob66 P :: ob7 P :: ob67 P :: [])) {}
noncomputable abbrev envT : Env := { scope := rowX.prog.main.scope, locals := mainNs, globals := mainNs, cells := [], code := Value.ref 30, frame := some 31 }
noncomputable abbrev codeT : Code := .body (behindTheImports rowX.prog) envT
noncomputable abbrev thB : Thread := restOf ((behindTheImports rowX.prog).drop 12) envT codeT ⟨83, 0, 83, 18⟩ [topFrame ⟨0, 0, 0, 0⟩]
theorem open0 : ∀ w : World, (fencedOpening treeTable rowX.prog w 4232).map (fun s => (s.heap, s.gens, s.drawn, s.toks)) = some (hp0 w.params, Array.mk [], {}, 276) := fun w => by kernel_rfl
theorem size0 : ∀ w : World, ((hp0 w.params).isNs mainGlobals && (Array.mk [] : Array GenState).size == 0, (hp0 w.params).objs.size, (hp0 w.params).nsMap mainGlobals "__annotations__") = (true, 28, some (Value.ref 6)) := fun w => by kernel_rfl
theorem runP : ∀ (w : World) (os : OsState), topGo treeTable rowX.prog w 28 (some (Value.ref 6)) 12 ⟨hp0 w.params, Array.mk [], {}, 276, os⟩ (topStub rowX.prog) = some (⟨hpP w.params, Array.mk [], {}, 282, os⟩, ⟨denote treeTable codeT, codeT, ⟨0, 0, 0, 0⟩, [topFrame ⟨0, 0, 0, 0⟩]⟩) := fun w os => by kernel_rfl
theorem runK : ∀ (w : World) (os : OsState), segRun treeTable rowX.prog w 28 (some (Value.ref 6)) 1 1 ⟨hpP w.params, Array.mk [], {}, 282, os⟩ (blockOf (behindTheImports rowX.prog) envT codeT ⟨0, 0, 0, 0⟩ [topFrame ⟨0, 0, 0, 0⟩]) = some (.next, ⟨hpP w.params, Array.mk [], {}, 282, os⟩, codeT, ⟨0, 0, 0, 0⟩) := fun w os => by kernel_rfl
noncomputable abbrev stA : List Stmt := (behindTheImports rowX.prog).take 11
noncomputable abbrev stB : List Stmt := ((behindTheImports rowX.prog).drop 11).take 1
theorem runA : ∀ (w : World) (os : OsState), segRun treeTable rowX.prog w 28 (some (Value.ref 6)) 1 314 ⟨hpP w.params, Array.mk [], {}, 282, os⟩ (piecesOf stA envT codeT ⟨0, 0, 0, 0⟩ [topFrame ⟨0, 0, 0, 0⟩]) = some (.next, ⟨hpA w.params, Array.mk [], {}, 377, os⟩, codeT, ⟨82, 0, 82, 8⟩) := fun w os => by kernel_rfl
noncomputable abbrev RunB (w : World) : Prop := ∀ os : OsState, segRun treeTable rowX.prog w 28 (some (Value.ref 6)) 1 2000 ⟨hpA w.params, Array.mk [], {}, 377, os⟩ (piecesOf stB envT codeT ⟨82, 0, 82, 8⟩ [topFrame ⟨0, 0, 0, 0⟩]) = some (.next, ⟨hpB w.params, Array.mk [], {}, 523, os⟩, codeT, ⟨83, 0, 83, 18⟩)
theorem runB0 : ∀ w : World, RunB ((w.withFollow "special-get-raises" false).withFollow "comprehension-iter-twice" false) := fun w os => by kernel_rfl
theorem runB1 : ∀ w : World, RunB ((w.withFollow "special-get-raises" true).withFollow "comprehension-iter-twice" false) := fun w os => by kernel_rfl
theorem runB2 : ∀ w : World, RunB ((w.withFollow "special-get-raises" false).withFollow "comprehension-iter-twice" true) := fun w os => by kernel_rfl
theorem runB3 : ∀ w : World, RunB ((w.withFollow "special-get-raises" true).withFollow "comprehension-iter-twice" true) := fun w os => by kernel_rfl
theorem runB : ∀ w : World, RunB w :=
  byRow2 (P := RunB) "comprehension-iter-twice" (byRow2 (P := fun w => RunB (w.withFollow "comprehension-iter-twice" false)) "special-get-raises" runB0 runB1) (byRow2 (P := fun w => RunB (w.withFollow "comprehension-iter-twice" true)) "special-get-raises" runB2 runB3)
noncomputable def chkT (h : Heap) (s₁ : Shared) : Option Shared := match staticsOk (importedModules rowX.prog.main.body) h s₁.heap && namesBound rowX.prog s₁.heap && gensDone s₁ && laidKept h s₁.heap with
  | true => some s₁
  | false => none
theorem runEnd : ∀ (w : World) (os : OsState), ((topRun treeTable rowX.prog w 28 (some (Value.ref 6)) 1000 ⟨hpB w.params, Array.mk [], {}, 523, os⟩ thB).bind (chkT (hp0 w.params))).map (fun s => (openSeen hd.view_39 looseX (importedModules rowX.prog.main.body) xtX true s, Hook.obs hookX s)) = some (openGood hd.view_39 looseX, Hook.val hookX w) := fun w os => by kernel_rfl
theorem leftX : LeftO rowX.prog hd.view_39 looseX xtX (Hook.obs hookX) (Hook.val hookX) 4232 := fun w => by
  obtain ⟨⟨h, gs, d, k, os⟩, e, e'⟩ := Option.map_eq_some_iff.mp (open0 w)
  have e1 := Prod.mk.inj e'
  have e2 := Prod.mk.inj e1.2
  have e3 := Prod.mk.inj e2.2
  obtain rfl : h = hp0 w.params := e1.1
  obtain rfl : gs = Array.mk [] := e2.1
  obtain rfl : d = {} := e3.1
  obtain rfl : k = 276 := e3.2
  have z := size0 w
  have z1 := (Prod.mk.inj z).1
  have z2 := (Prod.mk.inj (Prod.mk.inj z).2).1
  have z3 := (Prod.mk.inj (Prod.mk.inj z).2).2
  have c := runEnd w os
  cases hr : topRun treeTable rowX.prog w 28 (some (Value.ref 6)) 1000 ⟨hpB w.params, Array.mk [], {}, 523, os⟩ thB with
  | none => rw [hr] at c; cases c
  | some r =>
    rw [hr] at c
    have hb : stA ++ (stB ++ (behindTheImports rowX.prog).drop 12) = behindTheImports rowX.prog := by rfl
    have k1 := piece_app (runA w os) (piece_app (runB w os) hr)
    rw [hb] at k1
    have t := topRun_mono (4232 - 3327) _ _ _ _ (go_top (runP w os) (piece_block (runK w os) k1))
    unfold openEnds
    rw [e]
    show (topFrom treeTable rowX.prog w 4232 ⟨hp0 w.params, Array.mk [], {}, 276, os⟩).map _ = _
    unfold topFrom
    dsimp only
    rw [z1, z2, z3]
    have t' : topRun treeTable rowX.prog w 28 (some (Value.ref 6)) 4232 ⟨hp0 w.params, Array.mk [], {}, 276, os⟩ (topStub rowX.prog) = some r := t
    rw [t']
    exact c
end
section
theorem hdX {d : DefRec} {kwd : List (Str × Expr)} (hdef : defOf hd.view_39 rowX.name = some (d, kwd)) (hp : rowX.prog.theDef rowX.name = some (d.params, d.body, d.scope)) (hk : kwWritten? d.params.kwonlyargs d.params.kw_defaults = some kwd)
    (walk : WalkO hd.view_39 looseX (XL hd.view_39 []) (Hook.says (kmHook hd.heap_39 asX asX_ok [99])) (OpenRow.toRowW rowX) d kwd fun f vs => PySem.call f vs) : PySem.Challenge.rw_ik0163_01.Holds := by
  w_on
  refine holds_law sayX fun said => ?_
  refine holds_open (q := hd.view_39) (loose := looseX) (Xt := xtX) (XP := XL hd.view_39 []) (Yf := Hook.obs (kmHook hd.heap_39 asX asX_ok [99])) (Ya := Hook.val (kmHook hd.heap_39 asX asX_ok [99])) (YP := Hook.says (kmHook hd.heap_39 asX asX_ok [99])) (N := 4232) leftX (Hook.of (kmHook hd.heap_39 asX asX_ok [99])) (Hook.keeps (kmHook hd.heap_39 asX asX_ok [99])) (fun s e => xl_of s (Bool.and_eq_true_iff.mp e).1) XL.keeps hdef hp hk (fun s e => recFacts_of (Bool.and_eq_true_iff.mp e).2) (by rfl) (by first | assumption | decide +kernel) (by decide +kernel) ⟨rfl, rfl, rfl, rfl, rfl, by decide +kernel⟩ ?hw walk
  case hw => w_witness2
end
section
open PySem.Calls PySem.Spec
noncomputable abbrev PG : Program := PySem.Challenge.rw_ik0163_01.prog

noncomputable abbrev CallOf (w : World) (p : Program) (loose : List Str) (mean : ExcName → Option Value) (mg mb : Str → Option Value) (f : Addr) (news : List (Addr × Obj)) (vs : List Value) (R : Value → List (Addr × Obj) → List (Addr × Obj) → Prop) (deep : Nat) : Prop :=
  ∀ (dp un : Nat) (gd : Option (List Code)) (cn : Str) (cs : Scope) (a : Addr) (ccd : Value) (cl : List (Str × Addr)) (outer : List Env) (A₀ : Around) (base h₀ : Heap) (L : Addr) (m : Str → Option Value) (s : Shared) (Q E : Value → Shared → Prop),
    Below A₀ base outer h₀ → Fr h₀ L s.heap m → (hd.heap_39 w.params).In h₀ → News h₀ L s.heap news → Top p loose mean mg mb h₀ → cs.kind = .function →
    dp + deep < recursionLimit → un + 8 * deep < cLine →
    (∀ v add h' tk', R v add news → Fr h₀ L h' m → News h₀ L h' (add ++ news) → Q v { s with heap := h', toks := tk' }) →
      wpAny (model PG w) (ktrTop dp un gd cn cs L a ccd cl outer) (call (.ref f) vs) Q E s

noncomputable abbrev CallS (w : World) (p : Program) (loose : List Str) (mean : ExcName → Option Value) (mg mb : Str → Option Value) (f : Addr) (news : List (Addr × Obj)) (vs : List Value) (R : Value → Prop) (deep : Nat) : Prop :=
  ∀ (dp un : Nat) (gd : Option (List Code)) (cn : Str) (cs : Scope) (a : Addr) (ccd : Value) (cl : List (Str × Addr)) (outer : List Env) (A₀ : Around) (base h₀ : Heap) (L : Addr) (m : Str → Option Value) (s : Shared) (Q E : Value → Shared → Prop),
    Below A₀ base outer h₀ → Fr h₀ L s.heap m → (hd.heap_39 w.params).In h₀ → News h₀ L s.heap news → Top p loose mean mg mb h₀ → cs.kind = .function →
    dp + deep < recursionLimit → un + 8 * deep < cLine →
    (∀ v h' tk', R v → Fr h₀ L h' m → News h₀ L h' news → Q v { s with heap := h', toks := tk' }) →
      wpAny (model PG w) (ktrTop dp un gd cn cs L a ccd cl outer) (call (.ref f) vs) Q E s

section
variable {w : World} {p : Program} {loose : List Str} {mean : ExcName → Option Value} {mg mb : Str → Option Value} {f : Addr} {news : List (Addr × Obj)} {vs : List Value} {deep dp un : Nat} {gd : Option (List Code)} {cn : Str} {cs : Scope} {a : Addr} {ccd : Value} {cl : List (Str × Addr)} {outer : List Env} {A₀ : Around} {base h₀ : Heap} {L : Addr} {m : Str → Option Value} {s : Shared} {Q E : Value → Shared → Prop}
theorem useO {R : Value → List (Addr × Obj) → List (Addr × Obj) → Prop} (F : Fr h₀ L s.heap m) (N : News h₀ L s.heap news) (B : Below A₀ base outer h₀) (X : (hd.heap_39 w.params).In h₀) (T : Top p loose mean mg mb h₀) (hk : cs.kind = .function) (C : CallOf w p loose mean mg mb f news vs R deep)
    (hd : dp + deep < recursionLimit) (hu : un + 8 * deep < cLine) (h : ∀ v add h' tk', R v add news → Fr h₀ L h' m → News h₀ L h' (add ++ news) → Q v { s with heap := h', toks := tk' }) : wpAny (model PG w) (ktrTop dp un gd cn cs L a ccd cl outer) (call (.ref f) vs) Q E s :=
  C dp un gd cn cs a ccd cl outer A₀ base h₀ L m s Q E B F X N T hk hd hu h
theorem useS {R : Value → Prop} (F : Fr h₀ L s.heap m) (N : News h₀ L s.heap news) (B : Below A₀ base outer h₀) (X : (hd.heap_39 w.params).In h₀) (T : Top p loose mean mg mb h₀) (hk : cs.kind = .function) (C : CallS w p loose mean mg mb f news vs R deep)
    (hd : dp + deep < recursionLimit) (hu : un + 8 * deep < cLine) (h : ∀ v h' tk', R v → Fr h₀ L h' m → News h₀ L h' news → Q v { s with heap := h', toks := tk' }) : wpAny (model PG w) (ktrTop dp un gd cn cs L a ccd cl outer) (call (.ref f) vs) Q E s :=
  C dp un gd cn cs a ccd cl outer A₀ base h₀ L m s Q E B F X N T hk hd hu h
theorem ntl {x : Addr × Obj} {h : Heap} (N : News h₀ L h (x :: news)) : News h₀ L h news := fun p hp => N p (List.mem_cons_of_mem _ hp)
end

/-- a stop of the walk, by the number of the step that is done by hand there -/
structure PauseK (n : Nat) (P : Prop) : Prop where
  out : P
theorem PauseK.o (n : Nat) {P : Prop} (h : PauseK n P) : P := h.out
end
section
open PySem.Calls PySem.Spec

noncomputable abbrev S (l : List Nat) : Str := ⟨l.toArray⟩
theorem S_cps (l : List Nat) : (S l).cps.toList = l := by simp
theorem S_of (x : Str) : S x.cps.toList = x := by cases x; simp
theorem S_len (l : List Nat) : (S l).length = l.length := by simp [Str.length]
theorem S_app (a b : List Nat) : S a ++ S b = S (a ++ b) := by
  apply Str.ext'; simp [Str.cps_append]
theorem S_inj {a b : List Nat} (h : S a = S b) : a = b := by
  have := congrArg (fun x : Str => x.cps.toList) h
  simpa using this

noncomputable def escC (T : List (Nat × List Nat)) (c : Nat) : List Nat := (T.lookup c).getD [c]
noncomputable def esc (T : List (Nat × List Nat)) (l : List Nat) : List Nat := l.flatMap (escC T)
noncomputable def rep (c : Nat) (r : List Nat) (l : List Nat) : List Nat := l.flatMap fun d => if d = c then r else [d]

theorem rep_free (c : Nat) (r : List Nat) : ∀ l : List Nat, c ∉ l → rep c r l = l
  | [], _ => rfl
  | d :: l, h => by
    have h1 : ¬ d = c := fun e => h (e ▸ List.mem_cons_self ..)
    have h2 : c ∉ l := fun m => h (List.mem_cons_of_mem _ m)
    have ih := rep_free c r l h2
    unfold rep at ih ⊢
    rw [List.flatMap_cons, if_neg h1, ih]; rfl
theorem rep_app (c : Nat) (r a b : List Nat) : rep c r (a ++ b) = rep c r a ++ rep c r b := List.flatMap_append

theorem rep_join (c : Nat) (r : List Nat) : ∀ parts : List Str, (∀ p ∈ parts, c ∉ p.cps.toList) → rep c r (Str.join ⟨#[c]⟩ parts).cps.toList = (Str.join (S r) parts).cps.toList
  | [], _ => rfl
  | [p], h => rep_free c r _ (h p (List.mem_singleton.mpr rfl))
  | p :: q :: rest, h => by
    have ih := rep_join c r (q :: rest) fun a ha => h a (List.mem_cons_of_mem _ ha)
    show rep c r (p ++ ⟨#[c]⟩ ++ Str.join ⟨#[c]⟩ (q :: rest)).cps.toList = (p ++ S r ++ Str.join (S r) (q :: rest)).cps.toList
    simp only [Str.cps_append, Array.toList_append]
    rw [rep_app, rep_app, ih, rep_free c r _ (h p (List.mem_cons_self ..))]
    have : rep c r [c] = r := by simp [rep]
    show p.cps.toList ++ rep c r [c] ++ _ = _
    rw [this]

theorem replace_S (c : Nat) (r l : List Nat) : Txt.replace (S l) (S [c]) (S r) = S (rep c r l) := by
  apply Str.ext'
  have h := rep_join c r _ (StrLaws.split_free (S l) c)
  rw [StrLaws.join_split, S_cps] at h
  rw [h]
  show (Txt.replace (S l) ⟨#[c]⟩ (S r)).cps = _
  rw [StrLaws.replace_one]

theorem rep_esc {T : List (Nat × List Nat)} {c : Nat} {r : List Nat} (hk : T.lookup c = none) (hv : ∀ p ∈ T, c ∉ p.2) (l : List Nat) : rep c r (esc T l) = esc (T ++ [(c, r)]) l := by
  induction l with
  | nil => rfl
  | cons d l ih =>
    have e : rep c r (escC T d) = escC (T ++ [(c, r)]) d := by
      unfold escC
      rw [List.lookup_append]
      cases hd : T.lookup d with
      | none =>
        show rep c r [d] = _
        by_cases h : d = c
        · subst h; simp [rep]
        · have h' : (d == c) = false := by simpa using h
          simp [rep, h, List.lookup, h']
      | some v =>
        have hm : (d, v) ∈ T := by
          clear ih hv hk
          induction T with
          | nil => cases hd
          | cons p T ih =>
            obtain ⟨k, u⟩ := p
            rw [List.lookup_cons] at hd
            cases hkd : d == k with
            | true =>
              rw [hkd] at hd
              have e1 : d = k := by simpa using hkd
              cases hd; subst e1; exact List.mem_cons_self ..
            | false => rw [hkd] at hd; exact List.mem_cons_of_mem _ (ih hd)
        show rep c r v = v
        exact rep_free c r v (hv _ hm)
    show rep c r (escC T d ++ esc T l) = escC (T ++ [(c, r)]) d ++ esc (T ++ [(c, r)]) l
    rw [rep_app, e, ih]

theorem esc_len {T : List (Nat × List Nat)} (hv : ∀ p ∈ T, p.2.length ≤ 6) (l : List Nat) : (esc T l).length ≤ 6 * l.length := by
  have hc : ∀ d, (escC T d).length ≤ 6 := by
    intro d
    unfold escC
    cases hd : T.lookup d with
    | none => simp
    | some v =>
      have : ∃ k, (k, v) ∈ T := by
        clear hv
        induction T with
        | nil => cases hd
        | cons p T ih =>
          obtain ⟨k, u⟩ := p
          rw [List.lookup_cons] at hd
          cases hkd : d == k with
          | true => rw [hkd] at hd; cases hd; exact ⟨k, List.mem_cons_self ..⟩
          | false => rw [hkd] at hd; obtain ⟨k', h'⟩ := ih hd; exact ⟨k', List.mem_cons_of_mem _ h'⟩
      obtain ⟨k, hm⟩ := this
      exact hv _ hm
  induction l with
  | nil => simp [esc]
  | cons d l ih =>
    have e : esc T (d :: l) = escC T d ++ esc T l := rfl
    rw [e, List.length_append, List.length_cons]
    have := hc d
    lia

theorem esc_nil (l : List Nat) : esc [] l = l := by
  induction l with
  | nil => rfl
  | cons d l ih =>
    have e : esc [] (d :: l) = escC [] d ++ esc [] l := rfl
    rw [e, ih]; rfl
theorem esc_append (T : List (Nat × List Nat)) (a b : List Nat) : esc T (a ++ b) = esc T a ++ esc T b := List.flatMap_append

/-- checks for one more replacement -/
noncomputable def okT (T : List (Nat × List Nat)) (c : Nat) : Bool := (T.lookup c).isNone && T.all fun p => !p.2.contains c && p.2.length ≤ 6
theorem okT_k {T c} (h : okT T c = true) : T.lookup c = none := by
  unfold okT at h
  rw [Bool.and_eq_true] at h
  simpa using h.1
theorem okT_v {T c} (h : okT T c = true) : ∀ p ∈ T, c ∉ p.2 := by
  unfold okT at h
  rw [Bool.and_eq_true, List.all_eq_true] at h
  intro p hp
  have := h.2 p hp
  simp at this
  exact this.1
theorem okT_l {T c} (h : okT T c = true) : ∀ p ∈ T, p.2.length ≤ 6 := by
  unfold okT at h
  rw [Bool.and_eq_true, List.all_eq_true] at h
  intro p hp
  have := h.2 p hp
  simp at this
  exact this.2

theorem replace_esc {T : List (Nat × List Nat)} {c : Nat} {r l : List Nat} (h : okT T c = true) : Txt.replace (S (esc T l)) (S [c]) (S r) = S (esc (T ++ [(c, r)]) l) := by
  rw [replace_S, rep_esc (okT_k h) (okT_v h)]
theorem same_esc {T : List (Nat × List Nat)} {c : Nat} {r l : List Nat} (h : okT T c = true) (hn : (Builtin.Str.occurrences (S (esc T l)) (S [c]) 0 (S (esc T l)).length 1).isEmpty = true) : S (esc T l) = S (esc (T ++ [(c, r)]) l) := by
  have hm : c ∉ esc T l := by
    have h1 := StrLaws.found_one (S (esc T l)) c
    have e : (⟨#[c]⟩ : Str) = S [c] := rfl
    rw [e, hn] at h1
    intro hc
    rw [S_cps] at h1
    simp [hc] at h1
  rw [← rep_esc (okT_k h) (okT_v h), rep_free c r _ hm]

noncomputable def TA0 : List (Nat × List Nat) := [(38, [38,97,109,112,59]), (60, [38,108,116,59]), (34, [38,113,117,111,116,59]), (9, [38,35,120,57,59]), (10, [38,35,120,65,59]), (13, [38,35,120,68,59])]
noncomputable def T0 : List (Nat × List Nat) := [(38, [38,97,109,112,59]), (60, [38,108,116,59]), (34, [38,113,117,111,116,59]), (13, [38,35,120,68,59]), (10, [38,35,120,65,59]), (9, [38,35,120,57,59])]
noncomputable def T1 : List (Nat × List Nat) := [(38, [38,97,109,112,59]), (60, [38,108,116,59]), (62, [38,103,116,59])]
noncomputable def TA2 : List (Nat × List Nat) := [(38, [38,97,109,112,59]), (60, [38,108,116,59]), (62, [38,103,116,59]), (34, [38,113,117,111,116,59]), (13, [38,35,49,51,59]), (10, [38,35,49,48,59]), (9, [38,35,48,57,59])]
noncomputable def T2 := TA2
noncomputable def T3 : List (Nat × List Nat) := [(38, [38,97,109,112,59]), (62, [38,103,116,59]), (34, [38,113,117,111,116,59])]
noncomputable def T4 : List (Nat × List Nat) := [(38, [38,97,109,112,59]), (60, [38,108,116,59]), (62, [38,103,116,59]), (13, [38,35,120,68,59])]

theorem TA0_eq (l : List Nat) : esc TA0 l = esc T0 l := by
  have h : escC TA0 = escC T0 := by
    funext c
    unfold escC TA0 T0
    by_cases h1 : c = 38
    · subst h1; rfl
    by_cases h2 : c = 60
    · subst h2; rfl
    by_cases h3 : c = 34
    · subst h3; rfl
    by_cases h4 : c = 9
    · subst h4; rfl
    by_cases h5 : c = 10
    · subst h5; rfl
    by_cases h6 : c = 13
    · subst h6; rfl
    have e (k : Nat) (h : ¬ c = k) : (c == k) = false := by simpa using h
    simp only [List.lookup, e _ h1, e _ h2, e _ h3, e _ h4, e _ h5, e _ h6]
  unfold esc
  rw [h]
noncomputable def tab (h : Nat) : List (Nat × List Nat) := [T0, T1, T2, T3, T4].getD h T4
end
section
open PySem.Calls PySem.Spec

structure Pause (P : Prop) : Prop where
  out : P

noncomputable def MfJ {σ : Type} (Led : σ → List (Addr × Obj)) (ps : σ → List (Str × Value)) (x : Str) (stored : List Str) (m₀ : Str → Option Value) (P : σ → Prop) (m : Str → Option Value) (nx : List (Addr × Obj)) : Prop :=
  ∃ c : σ, nx = Led c ∧ (∀ p ∈ ps c, m p.1 = some p.2) ∧ (∀ z, z ≠ x → (∀ p ∈ ps c, z ≠ p.1) → stored.contains z = false → m z = m₀ z) ∧ P c

theorem mf_end {σ : Type} {Led : σ → List (Addr × Obj)} {ps : σ → List (Str × Value)} {x : Str} {stored : List Str} {m₀ m' : Str → Option Value} {P : σ → Prop} {L : Addr} {h₀ h' : Heap} {own news' : List (Addr × Obj)} {s₁ : Shared} {tk : Nat} (c : σ)
    (F : Fr h₀ L h' m') (N : News h₀ L h' news') (hn : ∀ p ∈ Led c, p ∈ news') (ho : ∀ p ∈ own, p ∈ news') (ha : OwnOff own ((Led c).map (·.1))) (hk : ∀ p ∈ ps c, m' p.1 = some p.2)
    (hr : ∀ z, z ≠ x → (∀ p ∈ ps c, z ≠ p.1) → stored.contains z = false → m' z = m₀ z) (hp : P c) :
    InvEndG h₀ L (MfJ Led ps x stored m₀ P) own s₁ { s₁ with heap := h', toks := tk } :=
  ⟨h', tk, m', news', Led c, rfl, F, N, hn, ho, ha, c, rfl, hk, hr, hp⟩

section
variable {prog : Program} {w : World} {A : Around} {E : Value → Shared → Prop} {s : Shared} {env : Env} {h₀ : Heap} {x : Str} {body : List Stmt} {Q : Flow → Shared → Prop}
theorem my_for {σ : Type} {l : Addr} {vs : List Value} {nn : Nat} {m₀ : Str → Option Value} {news : List (Addr × Obj)}
    (Led : σ → List (Addr × Obj)) (ps : σ → List (Str × Value)) (stored : List Str) (P : Nat → σ → Prop) (c₀ : σ)
    (hh : A.handled = none) (hl : (l, listOf vs.toArray nn) ∈ news) (F : Fr h₀ env.locals s.heap m₀) (N : News h₀ env.locals s.heap news)
    (hn : ∀ p ∈ Led c₀, p ∈ news) (hL : ∀ c, (l, listOf vs.toArray nn) ∈ Led c) (hk : ∀ p ∈ ps c₀, m₀ p.1 = some p.2) (hp : P 0 c₀)
    (turn : ∀ i v (c : σ) (u : Str → Option Value) h tk own, vs[i]? = some v → OwnOff own ((Led c).map (·.1)) → P i c →
      Fr h₀ env.locals h (fun y => if y = x then some v else kstB (fun z => if stored.contains z then u z else m₀ z) (ps c) y) → News h₀ env.locals h (Led c ++ own) →
      wpAny (model prog w) A (execs body env) (InvPostG h₀ env.locals (MfJ Led ps x stored m₀ (P (i + 1))) own { s with heap := h, toks := tk } Q) E { s with heap := h, toks := tk })
    (done : ∀ (c : σ) (u : Str → Option Value) h tk, P vs.length c → Fr h₀ env.locals h (fun y => if y = x then u y else kstB (fun z => if stored.contains z then u z else m₀ z) (ps c) y) → News h₀ env.locals h (Led c) → Q .next { s with heap := h, toks := tk }) :
    wpAny (model prog w) A (pyIter (.ref l)) (fun it s₂ => LoopAtV prog w A h₀ env x body Q E it s₂) E s := by
  refine kdl_iter (news := Led c₀) (fun i => MfJ Led ps x stored m₀ (P i)) hh (hL c₀) F (fun p hp => N p (hn p hp)) ⟨c₀, rfl, hk, fun _ _ _ _ => rfl, hp⟩ ?_ ?_
  · rintro i v m₁ nx h tk own hv hoff _ ⟨c, rfl, h1, h2, hp'⟩ F₁ N₁
    refine wpAny_mono (turn i v c m₁ h tk own hv hoff hp' (kst_fr h1 h2 F₁) N₁) (fun f s₂ p => ?_) fun _ _ x => x
    have up : InvEndG h₀ env.locals (MfJ Led ps x stored m₀ (P (i + 1))) own { s with heap := h, toks := tk } s₂ →
        InvEndG h₀ env.locals (fun m' nx => (l, listOf vs.toArray nn) ∈ nx ∧ MfJ Led ps x stored m₀ (P (i + 1)) m' nx) own { s with heap := h, toks := tk } s₂ := by
      rintro ⟨h', tk', m', news', nx', e', F', N', hn', ho', ha, hS⟩
      refine ⟨h', tk', m', news', nx', e', F', N', hn', ho', ha, ?_, hS⟩
      obtain ⟨c', rfl, _⟩ := hS
      exact hL c'
    cases f with
    | ret v => exact p
    | brk => exact p
    | next => exact up p
    | cont => exact up p
  · rintro m₁ nx h tk ⟨c, rfl, h1, h2, hp'⟩ F₁ N₁
    exact done c m₁ h tk hp' (kst_frOut h1 h2 F₁) N₁

theorem my_forS {σ : Type} {xt : PySem.Str} {tx : Tok} {m₀ : PySem.Str → Option Value} {news : List (Addr × Obj)}
    (Led : σ → List (Addr × Obj)) (ps : σ → List (PySem.Str × Value)) (stored : List PySem.Str) (P : Nat → σ → Prop) (c₀ : σ)
    (hh : A.handled = none) (F : Fr h₀ env.locals s.heap m₀) (N : News h₀ env.locals s.heap news) (hn : ∀ p ∈ Led c₀, p ∈ news) (hk : ∀ p ∈ ps c₀, m₀ p.1 = some p.2) (hp : P 0 c₀)
    (turn : ∀ i (n : Nat) t (c : σ) (u : PySem.Str → Option Value) h tk own, xt.cps.toList[i]? = some n → OwnOff own ((Led c₀).map (·.1)) → P i c →
      Fr h₀ env.locals h (fun y => if y = x then some (.str (S [n]) t) else kstB (fun z => if stored.contains z then u z else m₀ z) (ps c) y) → News h₀ env.locals h (Led c ++ own) →
      wpAny (model prog w) A (execs body env) (InvPostN h₀ env.locals (MfJ Led ps x stored m₀ (P (i + 1))) own ((Led c₀).map (·.1)) { s with heap := h, toks := tk } Q) E { s with heap := h, toks := tk })
    (done : ∀ (c : σ) (u : PySem.Str → Option Value) h tk, P xt.cps.toList.length c → Fr h₀ env.locals h (fun y => if y = x then u y else kstB (fun z => if stored.contains z then u z else m₀ z) (ps c) y) → News h₀ env.locals h (Led c) → Q .next { s with heap := h, toks := tk }) :
    wpAny (model prog w) A (pyIter (.str xt tx)) (fun it s₂ => LoopAtV prog w A h₀ env x body Q E it s₂) E s := by
  refine wpAny_pyIter_str fun o St hW hst => ?_
  have W := hW A hh
  refine loop_invN (news := Led c₀) (fun i => MfJ Led ps x stored m₀ (P i)) W ?_ ?_ ?_ ?_ hst (F.push _) (fun p hp => ⟨Heap.get?_push_of_some _ (N p (hn p hp)).1, (N p (hn p hp)).2⟩) ⟨c₀, rfl, hk, fun _ _ _ _ => rfl, hp⟩ ?_ ?_
  · intro hm
    exact absurd F.ns.lt ((List.mem_singleton.mp hm) ▸ Nat.lt_irrefl _)
  · intro b' hb
    rw [List.mem_singleton.mp hb]
    exact next_is_new F
  · intro p hp hI
    exact absurd (Heap.lt_size (N p (hn p hp)).1) ((List.mem_singleton.mp hI) ▸ Nat.lt_irrefl _)
  · intro p hp hI
    exact absurd (Heap.lt_size (N p (hn p hp)).1) ((List.mem_singleton.mp hI) ▸ Nat.lt_irrefl _)
  · rintro i v m₁ nx h tk own hi ⟨n, u, hn', rfl⟩ _ hoff ⟨c, rfl, h1, h2, hp'⟩ F₁ N₁
    exact turn i n u c m₁ h tk own (by simpa using hn') hoff hp' (kst_fr h1 h2 F₁) N₁
  · rintro m₁ nx h tk ⟨c, rfl, h1, h2, hp'⟩ F₁ N₁
    exact done c m₁ h tk (by simpa using hp') (kst_frOut h1 h2 F₁) N₁
end
theorem mf_endN {σ : Type} {Led : σ → List (Addr × Obj)} {ps : σ → List (Str × Value)} {x : Str} {stored : List Str} {m₀ m' : Str → Option Value} {P : σ → Prop} {L : Addr} {h₀ h' : Heap} {own news' : List (Addr × Obj)} {adr : List Addr} {s₁ : Shared} {tk : Nat} (c : σ)
    (F : Fr h₀ L h' m') (N : News h₀ L h' news') (hn : ∀ p ∈ Led c, p ∈ news') (ho : ∀ p ∈ own, p ∈ news') (ha : (Led c).map (·.1) = adr) (hk : ∀ p ∈ ps c, m' p.1 = some p.2)
    (hr : ∀ z, z ≠ x → (∀ p ∈ ps c, z ≠ p.1) → stored.contains z = false → m' z = m₀ z) (hp : P c) :
    InvEndN h₀ L (MfJ Led ps x stored m₀ P) own adr s₁ { s₁ with heap := h', toks := tk } :=
  ⟨h', tk, m', news', Led c, rfl, F, N, hn, ho, ha, c, rfl, hk, hr, hp⟩
/-- a post-condition as a variable of its own: spares the proof term the copies of what is left to do -/
noncomputable def Cont {α : Type} (Q : α → Shared → Prop) (f : α) (s : Shared) : Prop := Q f s
structure ContH {α : Type} (Q Q' : α → Shared → Prop) : Prop where
  h : ∀ f s', Q f s' → Q' f s'
theorem genQ {α : Type} {M : Model} {A : Around} {t : Sem α} {Q : α → Shared → Prop} {E : Value → Shared → Prop} {s : Shared} (h : ∀ Q' : α → Shared → Prop, ContH Q Q' → wpAny M A t (Cont Q') E s) : wpAny M A t Q E s := h Q ⟨fun _ _ x => x⟩
theorem genQE {α : Type} {M : Model} {A : Around} {t : Sem α} {Q : α → Shared → Prop} {E : Value → Shared → Prop} {s : Shared} (h : ∀ (Q' : α → Shared → Prop) (E' : Value → Shared → Prop), ContH Q Q' → wpAny M A t (Cont Q') E' s) : wpAny M A t Q E s := h Q E ⟨fun _ _ x => x⟩
theorem Cont.of {α : Type} {Q Q' : α → Shared → Prop} {f : α} {s : Shared} (H : ContH Q Q') (h : Q f s) : Cont Q' f s := H.h f s h
end
section
open PySem.Calls PySem.Spec

/-- x[a:b] with 0 ≤ a, 0 ≤ b -/
noncomputable def cut (l : List Nat) (a b : Int) : List Nat := (l.drop a.toNat).take (b - a).toNat

theorem slice_eq (x : Str) (l u : Option Int) : Txt.slice x l u = StrLaws.sliceText x l u := rfl

theorem idx_clip (i j : Int) (len : Nat) (hi : 0 ≤ i) (hj : 0 ≤ j) :
    Builtin.Str.strSliceIndices (some i) (some j) 1 len = Builtin.Str.strSliceIndices (some (min i len)) (some (min j len)) 1 len := by
  have a1 : ¬ i < 0 := Int.not_lt.mpr hi
  have a2 : ¬ j < 0 := Int.not_lt.mpr hj
  have a3 : ¬ min i (len : Int) < 0 := Int.not_lt.mpr (Int.le_min.mpr ⟨hi, Int.natCast_nonneg _⟩)
  have a4 : ¬ min j (len : Int) < 0 := Int.not_lt.mpr (Int.le_min.mpr ⟨hj, Int.natCast_nonneg _⟩)
  have e1 : max (0 : Int) (min (min i (len : Int)) (len : Int)) = max 0 (min i (len : Int)) := congrArg (max 0) (Int.min_eq_left (Int.min_le_right ..))
  have e2 : max (0 : Int) (min (min j (len : Int)) (len : Int)) = max 0 (min j (len : Int)) := congrArg (max 0) (Int.min_eq_left (Int.min_le_right ..))
  simp only [Builtin.Str.strSliceIndices, if_neg a1, if_neg a2, if_neg a3, if_neg a4, e1, e2, show (1 : Int) > 0 by decide, if_true]

theorem slice_cut (x : Str) {i j : Int} (hi : 0 ≤ i) (hj : 0 ≤ j) : Txt.slice x (some i) (some j) = S (cut x.cps.toList i j) := by
  rw [slice_eq]
  have hlen : x.cps.toList.length = x.length := by simp [Str.length]
  have e : StrLaws.sliceText x (some i) (some j) = StrLaws.sliceText x (some (min i x.length)) (some (min j x.length)) := by
    unfold StrLaws.sliceText
    rw [idx_clip i j x.length hi hj]
  rw [e]
  by_cases h : min i (x.length : Int) ≤ min j (x.length : Int)
  · rw [StrLaws.sliceText_plain ⟨Int.le_min.mpr ⟨hi, Int.natCast_nonneg _⟩, h, by rw [hlen]; exact Int.min_le_right ..⟩]
    apply congrArg S
    unfold cut
    by_cases h1 : i ≤ x.length
    · have e1 : min i (x.length : Int) = i := Int.min_eq_left h1
      rw [e1]
      by_cases h2 : j ≤ x.length
      · have e2 : min j (x.length : Int) = j := Int.min_eq_left h2
        rw [e2]
      · have e2 : min j (x.length : Int) = x.length := Int.min_eq_right (Int.le_of_lt (Int.not_le.mp h2))
        rw [e2, List.take_of_length_le (i := (j - i).toNat), List.take_of_length_le]
        · rw [List.length_drop, hlen]; lia
        · rw [List.length_drop, hlen]; lia
    · have e1 : min i (x.length : Int) = x.length := Int.min_eq_right (Int.le_of_lt (Int.not_le.mp h1))
      rw [e1, List.drop_of_length_le, List.drop_of_length_le (i := i.toNat)]
      · simp
      · rw [hlen]; lia
      · rw [hlen]; lia
  · have h1 : j < i := by lia
    have h2 : (j - i).toNat = 0 := by lia
    unfold cut
    rw [h2, List.take_zero]
    unfold StrLaws.sliceText
    have a3 : ¬ min i (x.length : Int) < 0 := Int.not_lt.mpr (Int.le_min.mpr ⟨hi, Int.natCast_nonneg _⟩)
    have a4 : ¬ min j (x.length : Int) < 0 := Int.not_lt.mpr (Int.le_min.mpr ⟨hj, Int.natCast_nonneg _⟩)
    have hz : (Builtin.Str.strSliceIndices (some (min i x.length)) (some (min j x.length)) 1 x.length) = [] := by
      have e1 : max (0 : Int) (min (min i (x.length : Int)) (x.length : Int)) = min i x.length := by rw [Int.min_eq_left (Int.min_le_right ..)]; exact Int.max_eq_right (Int.le_min.mpr ⟨hi, Int.natCast_nonneg _⟩)
      have e2 : max (0 : Int) (min (min j (x.length : Int)) (x.length : Int)) = min j x.length := by rw [Int.min_eq_left (Int.min_le_right ..)]; exact Int.max_eq_right (Int.le_min.mpr ⟨hj, Int.natCast_nonneg _⟩)
      simp only [Builtin.Str.strSliceIndices, if_neg a3, if_neg a4, show (1 : Int) > 0 by decide, if_true, e1, e2]
      unfold sliceRange
      have hn : ¬ min i (x.length : Int) < min j (x.length : Int) := fun q => h (Int.le_of_lt q)
      simp [hn]
    rw [hz]
    by_cases hx : x.length = 0
    · rw [if_pos (by simp [hx])]
      have : x.cps = #[] := by simpa [Str.length] using hx
      cases x; simp at this; subst this; rfl
    · rw [if_neg (by simp; lia)]
      rfl

theorem slice_to_cut (x : Str) {j : Int} (hj : 0 ≤ j) : Txt.slice x none (some j) = S (x.cps.toList.take j.toNat) := by
  have e : Txt.slice x none (some j) = Txt.slice x (some 0) (some j) := by
    rw [slice_eq, slice_eq]; unfold StrLaws.sliceText; rw [StrLaws.sliceIdx_none_lo]
  rw [e, slice_cut x (Int.le_refl 0) hj]
  unfold cut
  simp
theorem slice_from_cut (x : Str) {i : Int} (hi : 0 ≤ i) : Txt.slice x (some i) none = S (x.cps.toList.drop i.toNat) := by
  have e : Txt.slice x (some i) none = Txt.slice x (some i) (some (x.length : Int)) := by
    rw [slice_eq, slice_eq]; unfold StrLaws.sliceText; rw [StrLaws.sliceIdx_none_hi]
  rw [e, slice_cut x hi (by lia)]
  unfold cut
  rw [List.take_of_length_le]
  rw [List.length_drop]
  simp [Str.length]; lia

theorem item_S {x : Str} {i : Int} {n : Nat} (h0 : 0 ≤ i) (hx : x.cps.toList[i.toNat]? = some n) : Txt.item x i = S [n] := by
  unfold Txt.item Txt.charAt
  have := StrLaws.at_nonneg (x := x) (n := n) h0 (by simpa using hx)
  rw [this]
  rfl

section
variable {prog : Program} {w : World} {A : Around} {E : Value → Shared → Prop} {s : Shared} {value slice : Expr} {x : Str} {t : Tok} {h₀ : Heap} {L : Addr} {m : Str → Option Value} {news : List (Addr × Obj)} {Q : Value → Shared → Prop}
theorem idx_K {i : Int} {u : Tok} {n : Nat} (h0 : 0 ≤ i) (hx : x.cps.toList[i.toNat]? = some n) (hl : x.length ≤ 16777216)
    (h : ∀ t' tk', Q (.str (S [n]) t') { s with toks := tk' })
    (hs : subscripted slice false (.str x t) (.int i u) = operate [.str x t, .int i u] (getItem (.str x t) (.int i u)) := by with_unfolding_all rfl)
    (ht : ∀ r, letTemporaryGo value (.str x t) r = pure () := by intro _; with_unfolding_all rfl) :
    wpAny (model prog w) A (subscriptTail value slice (.str x t) (.int i u)) Q E s := by
  have hlt : i.toNat < x.cps.toList.length := (List.getElem?_eq_some_iff.mp hx).1
  have hlt' : i.toNat < x.length := by simpa [Str.length] using hlt
  refine item_str (fitsSsize_of (N := 9223372036854775808) (by lia) (by lia) (Int.le_refl _)) (by lia) (by lia) (fun _ => ?_) hs ht
  rw [item_S h0 hx]
  exact h _ _

theorem slice_ss_K {i j : Int} {ui uj : Tok} (hF : Fr h₀ L s.heap m) (hN : News h₀ L s.heap news) (hi : 0 ≤ i) (hj : 0 ≤ j) (hsz : x.length ≤ 16777216)
    (h : ∀ h' t' k, Fr h₀ L h' m → News h₀ L h' news → Q (.str (S (cut x.cps.toList i j)) t') { s with heap := h', toks := k })
    (hs : subscripted slice false (.str x t) (.ref s.heap.objs.size) = operate [.ref s.heap.objs.size, .str x t] (getItem (.str x t) (.ref s.heap.objs.size)) := by with_unfolding_all rfl)
    (ht : ∀ r, letTemporaryGo value (.str x t) r = pure () := by intro _; with_unfolding_all rfl) :
    wpAny (model prog w) A (subscriptTail value slice (.str x t) (.ref s.heap.objs.size)) Q E { s with heap := s.heap.push { cls := .type "slice", data := .fields #[.int i ui, .int j uj, .none] } } := by
  refine slice_strN_ss hF hN (fun h' t' k F N => ?_) hs ht (hsz := by rw [sizeLine_eq]; exact hsz)
  rw [slice_cut x hi hj]
  exact h h' t' k F N
theorem slice_ns_K {j : Int} {uj : Tok} (hF : Fr h₀ L s.heap m) (hN : News h₀ L s.heap news) (hj : 0 ≤ j) (hsz : x.length ≤ 16777216)
    (h : ∀ h' t' k, Fr h₀ L h' m → News h₀ L h' news → Q (.str (S (x.cps.toList.take j.toNat)) t') { s with heap := h', toks := k })
    (hs : subscripted slice false (.str x t) (.ref s.heap.objs.size) = operate [.ref s.heap.objs.size, .str x t] (getItem (.str x t) (.ref s.heap.objs.size)) := by with_unfolding_all rfl)
    (ht : ∀ r, letTemporaryGo value (.str x t) r = pure () := by intro _; with_unfolding_all rfl) :
    wpAny (model prog w) A (subscriptTail value slice (.str x t) (.ref s.heap.objs.size)) Q E { s with heap := s.heap.push { cls := .type "slice", data := .fields #[.none, .int j uj, .none] } } := by
  refine slice_strN_ns hF hN (fun h' t' k F N => ?_) hs ht (hsz := by rw [sizeLine_eq]; exact hsz)
  rw [slice_to_cut x hj]
  exact h h' t' k F N
theorem slice_sn_K {i : Int} {ui : Tok} (hF : Fr h₀ L s.heap m) (hN : News h₀ L s.heap news) (hi : 0 ≤ i) (hsz : x.length ≤ 16777216)
    (h : ∀ h' t' k, Fr h₀ L h' m → News h₀ L h' news → Q (.str (S (x.cps.toList.drop i.toNat)) t') { s with heap := h', toks := k })
    (hs : subscripted slice false (.str x t) (.ref s.heap.objs.size) = operate [.ref s.heap.objs.size, .str x t] (getItem (.str x t) (.ref s.heap.objs.size)) := by with_unfolding_all rfl)
    (ht : ∀ r, letTemporaryGo value (.str x t) r = pure () := by intro _; with_unfolding_all rfl) :
    wpAny (model prog w) A (subscriptTail value slice (.str x t) (.ref s.heap.objs.size)) Q E { s with heap := s.heap.push { cls := .type "slice", data := .fields #[.int i ui, .none, .none] } } := by
  refine slice_strN_sn hF hN (fun h' t' k F N => ?_) hs ht (hsz := by rw [sizeLine_eq]; exact hsz)
  rw [slice_from_cut x hi]
  exact h h' t' k F N
end
end
section
/-- what a pattern matches: none is a star -/
noncomputable def Mt : List (Option Nat) → List Nat → Prop
  | [], t => t = []
  | some c :: p, t => ∃ t', t = c :: t' ∧ Mt p t'
  | none :: p, t => ∃ k, Mt p (t.drop k)

theorem Mt_star_mono {p : List (Option Nat)} {t : List Nat} {k : Nat} (h : Mt (none :: p) (t.drop k)) : Mt (none :: p) t := by
  obtain ⟨j, hj⟩ := h
  exact ⟨k + j, by rw [← List.drop_drop]; exact hj⟩
theorem Mt_star_star {p : List (Option Nat)} {t : List Nat} : Mt (none :: none :: p) t ↔ Mt (none :: p) t :=
  ⟨fun ⟨_, h⟩ => Mt_star_mono h, fun h => ⟨0, h⟩⟩
theorem Mt_lits (q : List (Option Nat)) : ∀ (s t : List Nat), Mt (s.map some ++ q) t ↔ ∃ t', t = s ++ t' ∧ Mt q t'
  | [], t => by
    constructor
    · intro h; exact ⟨t, rfl, by simpa using h⟩
    · rintro ⟨t', rfl, h⟩; simpa using h
  | c :: s, t => by
    constructor
    · rintro ⟨t', rfl, h⟩
      obtain ⟨t2, e2, h2⟩ := (Mt_lits q s t').mp h
      exact ⟨t2, by rw [e2]; rfl, h2⟩
    · rintro ⟨t', rfl, h⟩
      exact ⟨s ++ t', rfl, (Mt_lits q s _).mpr ⟨t', rfl, h⟩⟩
theorem Mt_app {q : List (Option Nat)} {u : List Nat} (hq : Mt q u) : ∀ {p : List (Option Nat)} {t : List Nat}, Mt p t → Mt (p ++ q) (t ++ u)
  | [], t, h => by cases (h : t = []); exact hq
  | some c :: p, t, h => by
    obtain ⟨t', rfl, h⟩ := h
    exact ⟨t' ++ u, rfl, Mt_app hq h⟩
  | none :: p, t, h => by
    obtain ⟨k, h⟩ := h
    refine ⟨min k t.length, ?_⟩
    have e : (t ++ u).drop (min k t.length) = t.drop k ++ u := by
      rw [List.drop_append_of_le_length (Nat.min_le_right _ _)]
      by_cases hk : k ≤ t.length
      · rw [Nat.min_eq_left hk]
      · rw [Nat.min_eq_right (by lia), List.drop_of_length_le (Nat.le_refl _), List.drop_of_length_le (by lia)]
    rw [e]
    exact Mt_app hq h
theorem Mt_mem {c : Nat} {q : List (Option Nat)} : ∀ {p : List (Option Nat)} {t : List Nat}, Mt (p ++ some c :: q) t → c ∈ t
  | [], t, h => by obtain ⟨t', rfl, _⟩ := h; exact List.mem_cons_self ..
  | some d :: p, t, h => by obtain ⟨t', rfl, h⟩ := h; exact List.mem_cons_of_mem _ (Mt_mem h)
  | none :: p, t, h => by obtain ⟨k, h⟩ := h; exact List.mem_of_mem_drop (Mt_mem h)
theorem Mt_cut_mp {c : Nat} {q : List (Option Nat)} {u : List Nat} (hu : c ∉ u) : ∀ {p : List (Option Nat)} {t : List Nat}, c ∉ t → Mt (p ++ some c :: q) (t ++ c :: u) → Mt p t ∧ Mt q u
  | [], t, ht, h => by
    obtain ⟨t', e, h⟩ := h
    cases t with
    | nil => cases e; exact ⟨rfl, h⟩
    | cons d t => cases e; exact absurd (List.mem_cons_self ..) ht
  | some d :: p, t, ht, h => by
    obtain ⟨t', e, h⟩ := h
    cases t with
    | nil => cases e; exact absurd (Mt_mem h) hu
    | cons d' t =>
      cases e
      have := Mt_cut_mp hu (fun m => ht (List.mem_cons_of_mem _ m)) h
      exact ⟨⟨t, rfl, this.1⟩, this.2⟩
  | none :: p, t, ht, h => by
    obtain ⟨k, h⟩ := h
    by_cases hk : k ≤ t.length
    · rw [List.drop_append_of_le_length hk] at h
      have := Mt_cut_mp hu (fun m => ht (List.mem_of_mem_drop m)) h
      exact ⟨⟨k, this.1⟩, this.2⟩
    · rw [List.drop_append, List.drop_of_length_le (by lia), List.nil_append] at h
      obtain ⟨j, hj⟩ : ∃ j, k - t.length = j + 1 := ⟨k - t.length - 1, by lia⟩
      rw [hj, List.drop_succ_cons] at h
      exact absurd (List.mem_of_mem_drop (Mt_mem h)) hu
/-- a sign that stands but once in the text cuts pattern and text -/
theorem Mt_cut {c : Nat} {p q : List (Option Nat)} {t u : List Nat} (ht : c ∉ t) (hu : c ∉ u) : Mt (p ++ some c :: q) (t ++ c :: u) ↔ Mt p t ∧ Mt q u :=
  ⟨Mt_cut_mp hu ht, fun h => Mt_app (q := some c :: q) ⟨u, rfl, h.2⟩ h.1⟩

/-- the signs that stand in a reference behind its first -/
noncomputable def inner : List Nat := [97,109,112,59,108,116,103,113,117,111,35,120,68,65,49,51,48,57]
noncomputable def goodT (T : List (Nat × List Nat)) : Bool :=
  (T.lookup 38).isSome && T.all (fun p => (p.2.head? == some 38) && p.2.tail.all inner.contains) && T.all (fun p => T.all fun q => p.1 == q.1 || !(p.2.isPrefixOf q.2))

theorem lookup_mem {T : List (Nat × List Nat)} {c : Nat} {v : List Nat} (h : T.lookup c = some v) : (c, v) ∈ T := by
  induction T with
  | nil => cases h
  | cons p T ih =>
    obtain ⟨k, u⟩ := p
    rw [List.lookup_cons] at h
    cases hk : c == k with
    | true =>
      rw [hk] at h
      have : c = k := by simpa using hk
      cases h; subst this; exact List.mem_cons_self ..
    | false => rw [hk] at h; exact List.mem_cons_of_mem _ (ih h)
theorem escC_cases {T : List (Nat × List Nat)} (hT : goodT T = true) (c : Nat) : (escC T c = [c] ∧ c ≠ 38 ∧ T.lookup c = none) ∨ ∃ w, T.lookup c = some (38 :: w) ∧ escC T c = 38 :: w ∧ ∀ d ∈ w, d ∈ inner := by
  unfold goodT at hT
  simp only [Bool.and_eq_true, List.all_eq_true] at hT
  cases hc : T.lookup c with
  | none =>
    refine .inl ⟨by unfold escC; rw [hc]; rfl, ?_, rfl⟩
    rintro rfl
    rw [hc] at hT
    exact absurd hT.1.1 (by simp)
  | some v =>
    refine .inr ?_
    have h1 := hT.1.2 _ (lookup_mem hc)
    cases v with
    | nil => simp at h1
    | cons a w =>
      simp at h1
      obtain ⟨rfl, h2⟩ := h1
      exact ⟨w, rfl, by unfold escC; rw [hc]; rfl, h2⟩
theorem escC_ne {T : List (Nat × List Nat)} (hT : goodT T = true) (c : Nat) : escC T c ≠ [] := by
  rcases escC_cases hT c with ⟨h, _⟩ | ⟨w, _, h, _⟩ <;> rw [h] <;> simp
theorem escC_free {T : List (Nat × List Nat)} (hT : goodT T = true) {c d : Nat} {u v : List Nat} (h : escC T c ++ u = escC T d ++ v) : c = d ∧ u = v := by
  have key : c = d → c = d ∧ u = v := fun e => ⟨e, by subst e; exact List.append_cancel_left h⟩
  rcases escC_cases hT c with ⟨e1, n1, _⟩ | ⟨w1, l1, e1, _⟩ <;> rcases escC_cases hT d with ⟨e2, n2, _⟩ | ⟨w2, l2, e2, _⟩
  · rw [e1, e2] at h
    exact key (by injection h)
  · rw [e1, e2] at h
    exact absurd (by injection h) n1
  · rw [e1, e2] at h
    exact absurd (by injection h with a _; exact a.symm) n2
  · refine key ?_
    rw [e1, e2] at h
    have p1 : (38 :: w1) <+: (38 :: w1) ++ u := List.prefix_append _ _
    have p2 : (38 :: w2) <+: (38 :: w1) ++ u := h ▸ List.prefix_append _ _
    unfold goodT at hT
    simp only [Bool.and_eq_true, List.all_eq_true] at hT
    have hh := hT.2
    rcases List.prefix_or_prefix_of_prefix p1 p2 with hp | hp
    · have := hh _ (lookup_mem l1) _ (lookup_mem l2)
      simp only [Bool.or_eq_true, beq_iff_eq, Bool.not_eq_true'] at this
      rcases this with this | this
      · exact this
      · rw [List.isPrefixOf_iff_prefix.mpr hp] at this; cases this
    · have := hh _ (lookup_mem l2) _ (lookup_mem l1)
      simp only [Bool.or_eq_true, beq_iff_eq, Bool.not_eq_true'] at this
      rcases this with this | this
      · exact this.symm
      · rw [List.isPrefixOf_iff_prefix.mpr hp] at this; cases this
theorem esc_cons (T : List (Nat × List Nat)) (c : Nat) (l : List Nat) : esc T (c :: l) = escC T c ++ esc T l := rfl
theorem esc_at {T : List (Nat × List Nat)} (hT : goodT T = true) {e : Nat} (he : e ∉ inner) : ∀ (t : List Nat) (k : Nat), (esc T t)[k]? = some e → ∃ j, (esc T t).drop k = esc T (t.drop j)
  | [], k, h => by simp [esc] at h
  | d :: t, k, h => by
    rw [esc_cons] at h ⊢
    by_cases hk : k < (escC T d).length
    · cases k with
      | zero => exact ⟨0, rfl⟩
      | succ k =>
        rw [List.getElem?_append_left hk] at h
        rcases escC_cases hT d with ⟨e1, _⟩ | ⟨w, _, e1, hw⟩
        · rw [e1] at hk; simp at hk
        · rw [e1, List.getElem?_cons_succ] at h
          exact absurd (hw _ (List.mem_of_getElem? h)) he
    · rw [List.getElem?_append_right (by lia)] at h
      obtain ⟨j, hj⟩ := esc_at hT he t _ h
      refine ⟨j + 1, ?_⟩
      rw [List.drop_append, List.drop_of_length_le (by lia), List.nil_append, hj, List.drop_succ_cons]

noncomputable def escP (T : List (Nat × List Nat)) (p : List (Option Nat)) : List (Option Nat) := p.flatMap fun | none => [none] | some c => (escC T c).map some
theorem escP_app (T : List (Nat × List Nat)) (a b : List (Option Nat)) : escP T (a ++ b) = escP T a ++ escP T b := List.flatMap_append
theorem escP_none (T : List (Nat × List Nat)) (p : List (Option Nat)) : escP T (none :: p) = none :: escP T p := rfl
theorem escP_some (T : List (Nat × List Nat)) (c : Nat) (p : List (Option Nat)) : escP T (some c :: p) = (escC T c).map some ++ escP T p := rfl
/-- every literal right behind a star stands in no reference -/
noncomputable def starOk : List (Option Nat) → Prop
  | [] => True
  | none :: p => (∀ c, p.head? = some (some c) → c ∉ inner) ∧ starOk p
  | some _ :: p => starOk p
theorem escC_head {T : List (Nat × List Nat)} (hT : goodT T = true) {c : Nat} (hc : c ∉ inner) : ∃ e w, escC T c = e :: w ∧ e ∉ inner := by
  rcases escC_cases hT c with ⟨h, _⟩ | ⟨w, _, h, _⟩
  · exact ⟨c, [], h, hc⟩
  · exact ⟨38, w, h, by decide⟩
theorem Mt_esc {T : List (Nat × List Nat)} (hT : goodT T = true) : ∀ (p : List (Option Nat)) (t : List Nat), starOk p → (Mt (escP T p) (esc T t) ↔ Mt p t)
  | [], t, _ => by
    show esc T t = [] ↔ t = []
    cases t with
    | nil => simp [esc]
    | cons c t => rw [esc_cons]; simp [escC_ne hT c]
  | some c :: p, t, hp => by
    rw [escP_some, Mt_lits]
    constructor
    · rintro ⟨t', e, h⟩
      cases t with
      | nil =>
        have : escC T c = [] := by
          have e' : [] = escC T c ++ t' := e
          exact (List.append_eq_nil_iff.mp e'.symm).1
        exact absurd this (escC_ne hT c)
      | cons d t =>
        rw [esc_cons] at e
        obtain ⟨rfl, rfl⟩ := escC_free hT e
        exact ⟨t, rfl, (Mt_esc hT p t hp).mp h⟩
    · rintro ⟨t', rfl, h⟩
      exact ⟨esc T t', rfl, (Mt_esc hT p t' hp).mpr h⟩
  | none :: p, t, hp => by
    rw [escP_none]
    constructor
    · rintro ⟨k, h⟩
      cases p with
      | nil => exact ⟨t.length, by rw [List.drop_of_length_le (Nat.le_refl _)]; rfl⟩
      | cons a p =>
        cases a with
        | none =>
          rw [escP_none] at h
          exact ⟨0, (Mt_esc hT (none :: p) t hp.2).mp (Mt_star_mono h)⟩
        | some c =>
          have hc : c ∉ inner := hp.1 c rfl
          obtain ⟨e, w, he, hei⟩ := escC_head hT hc
          have h' := h
          rw [escP_some, Mt_lits] at h'
          obtain ⟨t', et, _⟩ := h'
          rw [he] at et
          have hk : (esc T t)[k]? = some e := by
            have := congrArg (fun l : List Nat => l[0]?) et
            simpa [List.getElem?_drop] using this
          obtain ⟨j, hj⟩ := esc_at hT hei t k hk
          rw [hj] at h
          exact ⟨j, (Mt_esc hT (some c :: p) (t.drop j) hp.2).mp h⟩
    · rintro ⟨k, h⟩
      refine ⟨(esc T (t.take k)).length, ?_⟩
      have e : (esc T t).drop (esc T (t.take k)).length = esc T (t.drop k) := by
        have : esc T t = esc T (t.take k) ++ esc T (t.drop k) := by rw [← esc_append, List.take_append_drop]
        rw [this, List.drop_left]
      rw [e]
      exact (Mt_esc hT p _ hp.2).mpr h
theorem starOk_esc {T : List (Nat × List Nat)} (hT : goodT T = true) : ∀ {p : List (Option Nat)}, starOk p → starOk (escP T p)
  | [], _ => trivial
  | some c :: p, h => by
    rw [escP_some]
    have ih := starOk_esc hT (p := p) h
    generalize escC T c = l
    induction l with
    | nil => exact ih
    | cons a l ih2 => exact ih2
  | none :: p, h => by
    rw [escP_none]
    refine ⟨fun c hc => ?_, starOk_esc hT h.2⟩
    cases p with
    | nil => cases hc
    | cons a p =>
      cases a with
      | none => cases hc
      | some d =>
        obtain ⟨e, w, he, hei⟩ := escC_head hT (h.1 d rfl)
        rw [escP_some, he] at hc
        have : e = c := by simpa using hc
        exact this ▸ hei
theorem starOk_app {c : Nat} {q : List (Option Nat)} (hc : c ∉ inner) (hq : starOk q) : ∀ {p : List (Option Nat)}, starOk p → starOk (p ++ some c :: q)
  | [], _ => hq
  | some _ :: p, h => starOk_app hc hq (p := p) h
  | none :: p, h => by
    refine ⟨fun d hd => ?_, starOk_app hc hq h.2⟩
    cases p with
    | nil =>
      have : c = d := by simpa using hd
      exact this ▸ hc
    | cons a p => exact h.1 d (by simpa using hd)

/-- a mark: a key whose sign stands in no value -/
noncomputable def okMark (T : List (Nat × List Nat)) (c : Nat) : Bool := (T.lookup c).isSome && T.all (fun p => !p.2.contains c) && !inner.contains c
theorem mark_out {T : List (Nat × List Nat)} {c : Nat} (h : okMark T c = true) (t : List Nat) : c ∉ esc T t := by
  unfold okMark at h
  simp only [Bool.and_eq_true, List.all_eq_true] at h
  obtain ⟨⟨h1, h2⟩, _⟩ := h
  intro hm
  obtain ⟨d, _, hd⟩ := List.mem_flatMap.mp hm
  unfold escC at hd
  cases hl : T.lookup d with
  | none =>
    rw [hl] at hd
    have : c = d := by simpa using hd
    rw [this, hl] at h1
    cases h1
  | some v =>
    rw [hl] at hd
    have := h2 _ (lookup_mem hl)
    simp at this
    exact this hd
theorem mark_inner {T : List (Nat × List Nat)} {c : Nat} (h : okMark T c = true) : c ∉ inner := by
  unfold okMark at h
  simp only [Bool.and_eq_true] at h
  simpa using h.2

/-- one field's part: its table, its mark, its pattern, its text -/
structure Part where
  T : List (Nat × List Nat)
  mark : Nat
  pat : List (Option Nat)
  text : List Nat
noncomputable def Part.ok (f : Part) : Prop := goodT f.T = true ∧ okMark f.T f.mark = true ∧ starOk f.pat
noncomputable def joinPt (P : List (Option Nat)) (f : Part) : List (Option Nat) := escP f.T P ++ some f.mark :: escP f.T f.pat
noncomputable def spellPt (w : List Nat) (f : Part) : List Nat := esc f.T w ++ f.mark :: esc f.T f.text
theorem Mt_fold : ∀ (l : List Part), (∀ f ∈ l, f.ok) → ∀ (P : List (Option Nat)) (w : List Nat), starOk P → (Mt (l.foldl joinPt P) (l.foldl spellPt w) ↔ Mt P w ∧ ∀ f ∈ l, Mt f.pat f.text)
  | [], _, P, w, _ => by simp
  | f :: l, h, P, w, hP => by
    obtain ⟨h1, h2, h3⟩ := h f (List.mem_cons_self ..)
    have hs : starOk (joinPt P f) := starOk_app (mark_inner h2) (starOk_esc h1 h3) (starOk_esc h1 hP)
    rw [List.foldl_cons, List.foldl_cons, Mt_fold l (fun g hg => h g (List.mem_cons_of_mem _ hg)) _ _ hs]
    unfold joinPt spellPt
    rw [Mt_cut (mark_out h2 _) (mark_out h2 _), Mt_esc h1 P w hP, Mt_esc h1 _ _ h3]
    simp [and_assoc]

theorem tabs_good : ∀ h, h < 5 → goodT (tab h) = true := by decide
end
section
local macro_rules | `(tactic| walk_at "Cont") => `(tactic| (refine Cont.of (by assumption) ?_; (try dsimp only)))
local macro_rules | `(tactic| walk_at "exec If") => `(tactic| ((fail_if_success (with_reducible show wpAny _ _ _ (Cont _) _ _)); refine genQ ?_; intro Q' hQ'))
local macro_rules | `(tactic| walk_at "execs cons") => `(tactic| ((first | (with_reducible show wpAny _ _ _ (KswPost _ _ _ _ _ _ _ _ _ _ _ _) _ _) | (with_reducible show wpAny _ _ _ (UnrPostW _ _ _ _ _ _) _ _) | (with_reducible show wpAny _ _ _ (InvPostG _ _ _ _ _ _) _ _) | (with_reducible show wpAny _ _ _ (InvPostN _ _ _ _ _ _ _) _ _)); refine genQ ?_; intro Q' hQ'))
local macro_rules | `(tactic| walk_at "my same") => `(tactic| (intro z h1 h2 h3; (try dsimp only at h2); (try simp only [List.forall_mem_cons, List.not_mem_nil, false_implies, implies_true, and_true, ne_eq] at h2); (try simp only [List.contains_cons, List.contains_nil, Bool.or_false, Bool.or_eq_false_iff, beq_eq_false_iff_ne, ne_eq] at h3); first | (simp [kstB, h1, h2, h3]; done) | (simp [kstB, h1, h2]; done) | simp [kstB, h1]))
local macro_rules | `(tactic| walk_at "my d") => `(tactic| try dsimp only)
local macro_rules | `(tactic| walk_at "my same2") => `(tactic| (intro z h1 h2; (try dsimp only at h1); (try simp only [List.forall_mem_cons, List.not_mem_nil, false_implies, implies_true, and_true, ne_eq] at h1); (try simp only [List.contains_cons, List.contains_nil, Bool.or_false, Bool.or_eq_false_iff, beq_eq_false_iff_ne, ne_eq] at h2); simp [kstB, h1, h2]))
local macro_rules | `(tactic| walk_at "my m") => `(tactic| first | k_mem | kst_mem)
local macro_rules | `(tactic| walk_at "my o") => `(tactic| first | assumption | lia)
local macro_rules | `(tactic| walk_at "my eFN") => `(tactic| ((rename Fr _ _ _ _ => lF'); (rename News _ _ _ _ => lN'); clear lF' lN'; intros; (try dsimp only)))
local macro_rules | `(tactic| walk_at "my enterC") => `(tactic| (refine' code_defC ?k1 ?k2 ?k3 ?k4 ?k5 ?kA ?kF ?kK ?k6 ?k7 ?k8 ?k9 ?kB ?kD ?_ ?c2 ?c3 ?c4; (case kA => exact rfl); (case kF => exact rfl); (case kK => assumption); (case k1 => k_asm); (case k2 => k_asm); (case k3 => k_asm); (case k4 => k_asm); (case k5 => k_asm); (case k6 => k_is); (case k7 => k_is); (case k8 => ktr_room); (case k9 => first | exact BindsTo.of_eq rfl | exact binds_K (by k_in) rfl (by k_is) rfl rfl rfl); (case kB => exact rfl); (case kD => decide +kernel); (case c2 => exact rfl); (case c3 => exact rfl); (case c4 => exact rfl); k_whole; intro g' L' h' tk' cells' FG' F' N' Y' B' X' T' l1; (try k_lt l1); k_cells Y'; (try simp only [List.cons_append, List.nil_append] at N'); (try dsimp only); (try k_lift B'); (try k_fold)))
section
open PySem.Calls PySem.Spec
noncomputable abbrev txt : Str := Str.ofString "text"
noncomputable abbrev CSE : Scope := Scope.mk ScopeKind.function [(Str.ofString "text", NameKind.local), (Str.ofString "TypeError", NameKind.globalImplicit), (Str.ofString "AttributeError", NameKind.globalImplicit), (Str.ofString "_raise_serialization_error", NameKind.globalImplicit)] false false []

theorem Fr_cast {h₀ h : Heap} {L : Addr} {m m' : Str → Option Value} (F : Fr h₀ L h m) (e : m = m') : Fr h₀ L h m' := e ▸ F

theorem repl_if {w : World} {A : Around} {h₀ h : Heap} {L a : Addr} {cn : Str} {ccd : Value} {m m' : Str → Option Value} {news : List (Addr × Obj)} {T : List (Nat × List Nat)} {l : List Nat} {x : Str} {t tk : Tok} {s : Shared} {c : Nat} {r : List Nat} {cs rs : Str} {p1 p2 p3 p4 p5 p6 p7 p8 p9 q1 q2 : Pos}
  {Q : Flow → Shared → Prop} {E : Value → Shared → Prop}
  {pl : Sem Bool} (hA : A.handled = none)
  (he : eval (.Call (.Attribute (Expr.Name txt p5) (Str.ofString "replace") p6) [Expr.Constant (Const.str cs) 0 p7, Expr.Constant (Const.str rs) 0 p8] [] p9) (envOf cn CSE L a ccd) = (do
      let ov ← eval (Expr.Name txt p5) (envOf cn CSE L a ccd)
      standAt p6.atName
      let (f, first) ← holding [ov] (getMethod ov (Str.ofString "replace") pl)
      callWith p9 f first (backTo p9 (starEach [Expr.Constant (Const.str cs) 0 p7, Expr.Constant (Const.str rs) 0 p8] (envOf cn CSE L a ccd))) []))
  (F : Fr h₀ L h m') (hm : m' = (fun y => if y = txt then some (.str x t) else m y)) (hxx : x = S (esc T l)) (hcs : cs = S [c]) (hrs : rs = S r)
  (N : News h₀ L h news) (hT : okT T c = true) (hl : l.length ≤ 100000) (hr : r.length ≤ 14) (hcr : (S [c] == S r) = false) (ht : 1 ≤ tk)
  (hQ : ∀ h' tk' t', 1 ≤ tk' → Fr h₀ L h' (fun y => if y = txt then some (.str (S (esc (T ++ [(c, r)]) l)) t') else m y) → News h₀ L h' news → Q .next { s with heap := h', toks := tk' }) :
  wpAny (model PG w) A (exec (Stmt.If ((Expr.Constant (Const.str cs) 0 p1).Compare [CmpOp.In] [Expr.Name txt p2] p3)
            [Stmt.Assign [Expr.Name txt p4]
                (((Expr.Name txt p5).Attribute (Str.ofString "replace") p6).Call
                  [Expr.Constant (Const.str cs) 0 p7, Expr.Constant (Const.str rs) 0 p8] [] p9) q1]
            [] q2) (envOf cn CSE L a ccd)) Q E { s with heap := h, toks := tk } := by
  subst hm hxx
  have hx : (S (esc T l)).length ≤ 1048576 := by
    have := esc_len (okT_l hT) l
    rw [S_len]; lia
  have hr' : rs.length ≤ 14 := by rw [hrs, S_len]; exact hr
  have hcr' : (cs == rs) = false := by rw [hrs, hcs]; exact hcr
  generalize hxx : S (esc T l) = x at F hx
  k_steps
  rotate_left
  refine MethodCall_ ?_ he
  k_steps
  · rename_i F' N'
    refine' hQ _ _ ?t (Nat.le_add_left 1 _) (Fr_cast F' ?e) N'
    case e =>
      funext y
      rw [← replace_esc hT, hxx, hcs, hrs]
      by_cases hy : y = txt
      · rw [if_pos hy, if_pos hy]
      · rw [if_neg hy, if_neg hy, if_neg hy]
  · rename_i ho
    refine hQ _ _ t (Nat.le_add_left 1 _) (Fr_cast F ?_) N
    funext y
    rw [hcs, ← hxx] at ho
    rw [← same_esc hT ho, hxx]
end
section
open PySem.Calls PySem.Spec

noncomputable def hd1 (s : Str) : Nat := s.cps.toList.headD 0
noncomputable def cl1 (s : Str) : List Nat := s.cps.toList
theorem repl_if2 {w : World} {A : Around} {h₀ h : Heap} {L a : Addr} {cn : Str} {ccd : Value} {m m' : Str → Option Value} {news : List (Addr × Obj)} {T : List (Nat × List Nat)} {l : List Nat} {x : Str} {t tk : Tok} {s : Shared} {cs rs : Str} {p1 p2 p3 p4 p5 p6 p7 p8 p9 q1 q2 : Pos}
  {Q : Flow → Shared → Prop} {E : Value → Shared → Prop} {pl : Sem Bool} (F : Fr h₀ L h m') (N : News h₀ L h news) (hl : l.length ≤ 100000) (ht : 1 ≤ tk) (hA : A.handled = none)
  (he : eval (.Call (.Attribute (Expr.Name txt p5) (Str.ofString "replace") p6) [Expr.Constant (Const.str cs) 0 p7, Expr.Constant (Const.str rs) 0 p8] [] p9) (envOf cn CSE L a ccd) = (do
      let ov ← eval (Expr.Name txt p5) (envOf cn CSE L a ccd)
      standAt p6.atName
      let (f, first) ← holding [ov] (getMethod ov (Str.ofString "replace") pl)
      callWith p9 f first (backTo p9 (starEach [Expr.Constant (Const.str cs) 0 p7, Expr.Constant (Const.str rs) 0 p8] (envOf cn CSE L a ccd))) []))
  (hm : m' = (fun y => if y = txt then some (.str x t) else m y)) (hxx : x = S (esc T l))
  (hk : (cs == S [hd1 cs] && okT T (hd1 cs) && decide ((cl1 rs).length ≤ 14) && !(S [hd1 cs] == S (cl1 rs))) = true)
  (hQ : ∀ h' tk' t', 1 ≤ tk' → Fr h₀ L h' (fun y => if y = txt then some (.str (S (esc (T ++ [(hd1 cs, cl1 rs)]) l)) t') else m y) → News h₀ L h' news → Q .next { s with heap := h', toks := tk' }) :
  wpAny (model PG w) A (exec (Stmt.If ((Expr.Constant (Const.str cs) 0 p1).Compare [CmpOp.In] [Expr.Name txt p2] p3)
            [Stmt.Assign [Expr.Name txt p4]
                (((Expr.Name txt p5).Attribute (Str.ofString "replace") p6).Call
                  [Expr.Constant (Const.str cs) 0 p7, Expr.Constant (Const.str rs) 0 p8] [] p9) q1]
            [] q2) (envOf cn CSE L a ccd)) Q E { s with heap := h, toks := tk } := by
  simp only [Bool.and_eq_true, beq_iff_eq, decide_eq_true_eq, Bool.not_eq_true'] at hk
  exact repl_if hA he F hm hxx hk.1.1.1 (S_of rs).symm N hk.1.1.2 hl hk.1.2 hk.2 ht hQ
local macro_rules | `(tactic| walk_at "exec If") => `(tactic| refine PauseK.o 0 ?_)

theorem one_name (v : Value) : (fun y => List.lookup y [(txt, v)]) = fun y => if y = txt then some v else none := by
  funext y
  show (match y == txt with | true => some v | false => none) = _
  by_cases h : y = txt
  · rw [if_pos h, h]; simp
  · rw [if_neg h]
    have : (y == txt) = false := by simpa using h
    rw [this]

set_option linter.unusedVariables false in
theorem c52 (w : World) (p : Program) (loose : List Str) (mean : ExcName → Option Value) (mg mb : Str → Option Value) (news : List (Addr × Obj)) (x : Str) (t : Tok) (hl : x.cps.toList.length ≤ 100000) :
  CallS w p loose mean mg mb 52 news [.str x t] (fun v => ∃ t', v = .str (S (esc TA2 x.cps.toList)) t') 1 := by
  w_top off
  intro dp un gd cn cs a ccd cl outer A₀ base h₀ L m s Q E B F X N T hk hd hu hret
  refine wpAny_call ?_
  k_dflt cell_enter
  generalize hX : (_ + List.length (List.filterMap _ _) : Nat) = X0
  have hX1 : 1 ≤ X0 := by
    with_unfolding_all exact hX ▸ (Nat.le_add_left 1 s.toks : 1 ≤ s.toks + 1)
  clear hX
  rename Fr _ _ _ _ => lF'
  replace lF' := Fr_cast lF' (show _ = fun y => if y = txt then some (Value.str (S (esc [] x.cps.toList)) t) else none by rw [esc_nil, S_of]; exact one_name _)
  (k_steps; repeat' ((first | ((with_reducible refine PauseK.mk (n := 0) ?_); with_reducible (k_here; with_unfolding_all (refine' repl_if2 ‹_› ‹_› ‹_› ‹_› (by exact rfl) (by exact rfl) (by exact rfl) (by exact rfl) (by decide +kernel) ?_); (rename Fr _ _ _ _ => lF'); (rename News _ _ _ _ => lN'); clear lF' lN'; intro h' tk' t' ht' F' N'; (try dsimp only)))); k_steps))
  exact hret _ _ _ ⟨_, congrArg (fun T => Value.str (S (esc T _)) _) (by decide +kernel)⟩ (by assumption) (by assumption)

set_option linter.unusedVariables false in
theorem c45 (w : World) (p : Program) (loose : List Str) (mean : ExcName → Option Value) (mg mb : Str → Option Value) (news : List (Addr × Obj)) (x : Str) (t : Tok) (hl : x.cps.toList.length ≤ 100000) :
  CallS w p loose mean mg mb 45 news [.str x t] (fun v => ∃ t', v = .str (S (esc T1 x.cps.toList)) t') 1 := by
  w_top off
  intro dp un gd cn cs a ccd cl outer A₀ base h₀ L m s Q E B F X N T hk hd hu hret
  refine wpAny_call ?_
  k_dflt cell_enter
  generalize hX : (_ + List.length (List.filterMap _ _) : Nat) = X0
  have hX1 : 1 ≤ X0 := by
    with_unfolding_all exact hX ▸ (Nat.le_add_left 1 s.toks : 1 ≤ s.toks + 1)
  clear hX
  rename Fr _ _ _ _ => lF'
  replace lF' := Fr_cast lF' (show _ = fun y => if y = txt then some (Value.str (S (esc [] x.cps.toList)) t) else none by rw [esc_nil, S_of]; exact one_name _)
  (k_steps; repeat' ((first | ((with_reducible refine PauseK.mk (n := 0) ?_); with_reducible (k_here; with_unfolding_all (refine' repl_if2 ‹_› ‹_› ‹_› ‹_› (by exact rfl) (by exact rfl) (by exact rfl) (by exact rfl) (by decide +kernel) ?_); (rename Fr _ _ _ _ => lF'); (rename News _ _ _ _ => lN'); clear lF' lN'; intro h' tk' t' ht' F' N'; (try dsimp only)))); k_steps))
  exact hret _ _ _ ⟨_, congrArg (fun T => Value.str (S (esc T _)) _) (by decide +kernel)⟩ (by assumption) (by assumption)

set_option linter.unusedVariables false in
theorem c59 (w : World) (p : Program) (loose : List Str) (mean : ExcName → Option Value) (mg mb : Str → Option Value) (news : List (Addr × Obj)) (x : Str) (t : Tok) (hl : x.cps.toList.length ≤ 100000) :
  CallS w p loose mean mg mb 59 news [.str x t] (fun v => ∃ t', v = .str (S (esc T3 x.cps.toList)) t') 1 := by
  w_top off
  intro dp un gd cn cs a ccd cl outer A₀ base h₀ L m s Q E B F X N T hk hd hu hret
  refine wpAny_call ?_
  k_dflt cell_enter
  generalize hX : (_ + List.length (List.filterMap _ _) : Nat) = X0
  have hX1 : 1 ≤ X0 := by
    with_unfolding_all exact hX ▸ (Nat.le_add_left 1 s.toks : 1 ≤ s.toks + 1)
  clear hX
  rename Fr _ _ _ _ => lF'
  replace lF' := Fr_cast lF' (show _ = fun y => if y = txt then some (Value.str (S (esc [] x.cps.toList)) t) else none by rw [esc_nil, S_of]; exact one_name _)
  (k_steps; repeat' ((first | ((with_reducible refine PauseK.mk (n := 0) ?_); with_reducible (k_here; with_unfolding_all (refine' repl_if2 ‹_› ‹_› ‹_› ‹_› (by exact rfl) (by exact rfl) (by exact rfl) (by exact rfl) (by decide +kernel) ?_); (rename Fr _ _ _ _ => lF'); (rename News _ _ _ _ => lN'); clear lF' lN'; intro h' tk' t' ht' F' N'; (try dsimp only)))); k_steps))
  exact hret _ _ _ ⟨_, congrArg (fun T => Value.str (S (esc T _)) _) (by decide +kernel)⟩ (by assumption) (by assumption)

set_option linter.unusedVariables false in
theorem c66 (w : World) (p : Program) (loose : List Str) (mean : ExcName → Option Value) (mg mb : Str → Option Value) (news : List (Addr × Obj)) (x : Str) (t : Tok) (hl : x.cps.toList.length ≤ 100000) :
  CallS w p loose mean mg mb 66 news [.str x t] (fun v => ∃ t', v = .str (S (esc T4 x.cps.toList)) t') 1 := by
  w_top off
  intro dp un gd cn cs a ccd cl outer A₀ base h₀ L m s Q E B F X N T hk hd hu hret
  refine wpAny_call ?_
  k_dflt cell_enter
  generalize hX : (_ + List.length (List.filterMap _ _) : Nat) = X0
  have hX1 : 1 ≤ X0 := by
    with_unfolding_all exact hX ▸ (Nat.le_add_left 1 s.toks : 1 ≤ s.toks + 1)
  clear hX
  rename Fr _ _ _ _ => lF'
  replace lF' := Fr_cast lF' (show _ = fun y => if y = txt then some (Value.str (S (esc [] x.cps.toList)) t) else none by rw [esc_nil, S_of]; exact one_name _)
  (k_steps; repeat' ((first | ((with_reducible refine PauseK.mk (n := 0) ?_); with_reducible (k_here; with_unfolding_all (refine' repl_if2 ‹_› ‹_› ‹_› ‹_› (by exact rfl) (by exact rfl) (by exact rfl) (by exact rfl) (by decide +kernel) ?_); (rename Fr _ _ _ _ => lF'); (rename News _ _ _ _ => lN'); clear lF' lN'; intro h' tk' t' ht' F' N'; (try dsimp only)))); k_steps))
  exact hret _ _ _ ⟨_, congrArg (fun T => Value.str (S (esc T _)) _) (by decide +kernel)⟩ (by assumption) (by assumption)

set_option linter.unusedVariables false in
theorem c73 (w : World) (p : Program) (loose : List Str) (mean : ExcName → Option Value) (mg mb : Str → Option Value) (news : List (Addr × Obj)) (x : Str) (t : Tok) (hl : x.cps.toList.length ≤ 100000) :
  CallS w p loose mean mg mb 73 news [.str x t] (fun v => ∃ t', v = .str (S (esc TA0 x.cps.toList)) t') 1 := by
  w_top off
  intro dp un gd cn cs a ccd cl outer A₀ base h₀ L m s Q E B F X N T hk hd hu hret
  refine wpAny_call ?_
  k_dflt cell_enter
  generalize hX : (_ + List.length (List.filterMap _ _) : Nat) = X0
  have hX1 : 1 ≤ X0 := by
    with_unfolding_all exact hX ▸ (Nat.le_add_left 1 s.toks : 1 ≤ s.toks + 1)
  clear hX
  rename Fr _ _ _ _ => lF'
  replace lF' := Fr_cast lF' (show _ = fun y => if y = txt then some (Value.str (S (esc [] x.cps.toList)) t) else none by rw [esc_nil, S_of]; exact one_name _)
  (k_steps; repeat' ((first | ((with_reducible refine PauseK.mk (n := 0) ?_); with_reducible (k_here; with_unfolding_all (refine' repl_if2 ‹_› ‹_› ‹_› ‹_› (by exact rfl) (by exact rfl) (by exact rfl) (by exact rfl) (by decide +kernel) ?_); (rename Fr _ _ _ _ => lF'); (rename News _ _ _ _ => lN'); clear lF' lN'; intro h' tk' t' ht' F' N'; (try dsimp only)))); k_steps))
  exact hret _ _ _ ⟨_, congrArg (fun T => Value.str (S (esc T _)) _) (by decide +kernel)⟩ (by assumption) (by assumption)
end
section
open PySem.Calls PySem.Spec


local macro_rules | `(tactic| walk_at "my pad") => `(tactic| skip)
local macro_rules | `(tactic| walk_at "call ref") => `(tactic| refine PauseK.o 0 ?_)

set_option linter.unusedVariables false in
theorem c127 (w : World) (p : Program) (loose : List Str) (mean : ExcName → Option Value) (mg mb : Str → Option Value) (news : List (Addr × Obj)) (x : Str) (t th : Tok) (hn : Nat) (hh : hn < 5) (hl : x.cps.toList.length ≤ 100000) :
  CallS w p loose mean mg mb 127 news [.int hn th, .str x t] (fun v => ∃ y t', v = .str y t' ∧ y = S (esc (tab hn) x.cps.toList) ∧ y.length ≤ 6 * x.length) 2 := by
  w_top off
  intro dp un gd cn cs a ccd cl outer A₀ base h₀ L m s Q E B F X N T hk hd hu hret
  refine wpAny_call ?_
  k_dflt cell_enter
  (k_steps; repeat' ((first | ((with_reducible refine PauseK.mk (n := 0) ?_); with_reducible (k_here; with_unfolding_all (refine' useS ‹_› ‹_› ‹_› ‹_› ‹_› (by first | exact rfl | assumption) (by first | exact c52 _ _ _ _ _ _ _ _ _ ‹_› | exact c45 _ _ _ _ _ _ _ _ _ ‹_› | exact c59 _ _ _ _ _ _ _ _ _ ‹_› | exact c66 _ _ _ _ _ _ _ _ _ ‹_› | exact c73 _ _ _ _ _ _ _ _ _ ‹_›) (by ktr_room) (by ktr_units) ?_); (intro v' h' tk' hR' F' N'; obtain ⟨t', hR'⟩ := hR'; subst hR'; (try dsimp only); (try k_fold))))); k_steps))
  · obtain rfl : hn = 0 := by lia
    exact hret _ _ _ ⟨_, _, rfl, by rw [TA0_eq]; rfl, by rw [S_len]; exact esc_len (by decide) _⟩ (by assumption) (by assumption)
  · obtain rfl : hn = 1 := by lia
    exact hret _ _ _ ⟨_, _, rfl, rfl, by rw [S_len]; exact esc_len (by decide) _⟩ (by assumption) (by assumption)
  · obtain rfl : hn = 2 := by lia
    exact hret _ _ _ ⟨_, _, rfl, rfl, by rw [S_len]; exact esc_len (by decide) _⟩ (by assumption) (by assumption)
  · obtain rfl : hn = 3 := by lia
    exact hret _ _ _ ⟨_, _, rfl, rfl, by rw [S_len]; exact esc_len (by decide) _⟩ (by assumption) (by assumption)
  · obtain rfl : hn = 4 := by lia
    exact hret _ _ _ ⟨_, _, rfl, rfl, by rw [S_len]; exact esc_len (by decide) _⟩ (by assumption) (by assumption)
end
section
open PySem.Calls PySem.Spec

noncomputable def solids : List (List Nat) := [[98], [38], [60], [62], [34], [9], [13,10], [38,97,109,112,59], [42,116,59], [63,91,46]]
noncomputable def itemPat (l : List Nat) : List Nat := if l = [] then [42] else l.flatMap fun c => if c = 42 ∨ c = 63 ∨ c = 91 then [91, c, 93] else [c]
noncomputable def menu : List (List Nat) := [] :: solids
noncomputable def patOf (is : List (List Nat)) : List Nat := is.flatMap itemPat

theorem strs_get {vs : List Value} {is : List (List Nat)} (h : StrsAre vs (is.map S)) {i : Nat} {v : Value} (hv : vs[i]? = some v) : ∃ l t, is[i]? = some l ∧ v = .str (S l) t := by
  induction is generalizing vs i with
  | nil => cases h; cases hv
  | cons l is ih =>
    cases h with
    | cons y t h =>
      cases i with
      | zero => exact ⟨l, t, rfl, by simpa using hv.symm⟩
      | succ i => exact ih h (by simpa using hv)
theorem strs_len {vs : List Value} {ws : List Str} (h : StrsAre vs ws) : vs.length = ws.length := by
  induction h with
  | nil => rfl
  | cons _ _ _ ih => simp [ih]


local macro_rules | `(tactic| walk_at "exec For Name Name cons nil") => `(tactic| (k_here; (rename Fr _ _ _ _ => lF'); (with_unfolding_all refine' For_invVF lF' ?k1 ?k2 ?_; (case k1 => exact rfl); (case k2 => exact rfl); k_whole)))

theorem itemPat_len : ∀ l ∈ menu, (itemPat l).length ≤ 10 := by decide
theorem patOf_len (is : List (List Nat)) (hm : ∀ l ∈ is, l ∈ menu) : (patOf is).length ≤ 10 * is.length := by
  induction is with
  | nil => simp [patOf]
  | cons l is ih =>
    have e : patOf (l :: is) = itemPat l ++ patOf is := rfl
    rw [e, List.length_append, List.length_cons]
    have h1 := itemPat_len l (hm l (List.mem_cons_self ..))
    have h2 := ih fun k hk => hm k (List.mem_cons_of_mem _ hk)
    lia
theorem patOf_take_succ {is : List (List Nat)} {i : Nat} {l : List Nat} (h : is[i]? = some l) : patOf (is.take (i + 1)) = patOf (is.take i) ++ itemPat l := by
  rw [List.take_add_one, h]
  simp [patOf]

noncomputable def subP (l : List Nat) : List Nat := l.flatMap fun c => if c = 42 ∨ c = 63 ∨ c = 91 then [91, c, 93] else [c]
noncomputable def preP (l : List Nat) : List Nat := if l = [] then [42] else []
theorem itemPat_eq (l : List Nat) : itemPat l = preP l ++ subP l := by
  unfold itemPat preP subP
  by_cases h : l = []
  · rw [if_pos h, if_pos h, h]; rfl
  · rw [if_neg h, if_neg h]; rfl
theorem menu_len : ∀ l ∈ menu, l.length ≤ 5 := by decide
theorem subP_len (l : List Nat) : (subP l).length ≤ 3 * l.length := by
  induction l with
  | nil => simp [subP]
  | cons c l ih =>
    have e : subP (c :: l) = (if c = 42 ∨ c = 63 ∨ c = 91 then [91, c, 93] else [c]) ++ subP l := rfl
    rw [e, List.length_append, List.length_cons]
    split <;> simp <;> lia
theorem in_sp (n : Nat) : (Builtin.Str.occurrences (Str.ofString "*?[") (S [n]) 0 (Str.ofString "*?[").length 1).isEmpty = !decide (n = 42 ∨ n = 63 ∨ n = 91) := by
  have h := StrLaws.found_one (Str.ofString "*?[") n
  have e : (Str.ofString "*?[").cps.toList = [42, 63, 91] := by decide +kernel
  have e2 : (⟨#[n]⟩ : Str) = S [n] := rfl
  rw [e, e2] at h
  rw [← Bool.not_not (Builtin.Str.occurrences _ _ _ _ _).isEmpty, h]
  simp
theorem subP_take_succ {l : List Nat} {i n : Nat} (h : l[i]? = some n) : subP (l.take (i + 1)) = subP (l.take i) ++ (if n = 42 ∨ n = 63 ∨ n = 91 then [91, n, 93] else [n]) := by
  rw [List.take_add_one, h]
  simp [subP]
theorem of_S {s : String} {l : List Nat} (h : Str.ofString s = S l) : Str.ofString s = S l := h
theorem o_star : Str.ofString "*" = S [42] := by decide +kernel
theorem o_empty : Str.ofString "" = S [] := by decide +kernel
theorem o_lb : Str.ofString "[" = S [91] := by decide +kernel
theorem o_rb : Str.ofString "]" = S [93] := by decide +kernel

set_option linter.unusedVariables false in
theorem c146 (w : World) (p : Program) (loose : List Str) (mean : ExcName → Option Value) (mg mb : Str → Option Value) (news : List (Addr × Obj)) (lI : Addr) (us : List Value) (nn : Nat) (is : List (List Nat))
  (hI : (lI, listOf us.toArray nn) ∈ news) (hs : StrsAre us (is.map S)) (hm : ∀ l ∈ is, l ∈ menu) (hlen : is.length ≤ 5) :
  CallS w p loose mean mg mb 146 news [.ref lI] (fun v => ∃ y t', v = .str y t' ∧ y = S (patOf is) ∧ y.length ≤ 50) 1 := by
  w_top off
  intro dp un gd cn cs a ccd cl outer A₀ base h₀ L m s Q E B F X N T hk hd hu hret
  refine wpAny_call ?_
  k_dflt cell_enter
  k_steps
  rename Fr _ _ _ _ => lF'
  rename News _ _ _ _ => lN'
  with_unfolding_all refine' my_for (σ := Str × Tok) (fun _ => news) (fun c => [(Str.ofString "pattern", .str c.1 c.2)]) [Str.ofString "sign"] (fun i c => c.1 = S (patOf (is.take i))) (S [], _) ?kh hI lF' lN' (fun _ h => h) (fun _ => hI) ?kk rfl ?turn ?done
  case kh => exact rfl
  case kk => kst_all
  case turn =>
    rintro i v ⟨y, ty⟩ u h tk own hv hoff hP F' N'
    obtain ⟨l, tl, hl, rfl⟩ := strs_get hs hv
    dsimp only at hP F' N'
    have hyl : y.length ≤ 100 := by
      have h1 := patOf_len (is.take i) fun k hk => hm k (List.mem_of_mem_take hk)
      rw [List.length_take] at h1
      rw [hP, S_len]; lia
    have hl1 := hm l (List.mem_of_getElem? hl)
    have hps := patOf_take_succ hl
    k_steps
    all_goals (
      rename Fr _ _ _ _ => lF'
      rename News _ _ _ _ => lN'
      have hll := menu_len l hl1
      first
      | with_unfolding_all refine my_forS (σ := Str × Tok) (fun _ => news ++ own) (fun c => [(Str.ofString "pattern", .str c.1 c.2)]) [] (fun j c => c.1 = S (patOf (is.take i) ++ preP l ++ subP (l.take j))) (y ++ Str.ofString "*", _) rfl lF' lN' (fun _ h => h) (by kst_all) ?_ ?_ ?_
      | with_unfolding_all refine my_forS (σ := Str × Tok) (fun _ => news ++ own) (fun c => [(Str.ofString "pattern", .str c.1 c.2)]) [] (fun j c => c.1 = S (patOf (is.take i) ++ preP l ++ subP (l.take j))) (y, _) rfl lF' lN' (fun _ h => h) (by kst_all) ?_ ?_ ?_
      · first
        | (have he := ‹(S l == Str.ofString "") = true›
           have he' : l = [] := by
             rw [o_empty] at he
             exact S_inj (by simpa using he)
           subst he'
           dsimp only
           rw [hP, o_star, S_app]
           simp [preP, subP])
        | (have he := ‹(S l == Str.ofString "") = false›
           have he' : ¬ l = [] := by
             intro h
             rw [h, o_empty] at he
             simp at he
           dsimp only
           rw [hP]
           simp [preP, he', subP])
      · rintro j n t ⟨z, tz⟩ u h tk own2 hn hoff2 hP2 F2 N2
        dsimp only at hP2 F2 N2
        rw [S_cps] at hn
        have hzl : z.length ≤ 200 := by
          have h1 := patOf_len (is.take i) fun k hk => hm k (List.mem_of_mem_take hk)
          rw [List.length_take] at h1
          have h2 := subP_len (l.take j)
          rw [List.length_take] at h2
          have h3 : (preP l).length ≤ 1 := by unfold preP; split <;> simp
          rw [hP2, S_len, List.length_append, List.length_append]; lia
        have f1 : (Str.ofString "[").length = 1 := by decide +kernel
        have f2 : (Str.ofString "]").length = 1 := by decide +kernel
        have f3 : (S [n]).length = 1 := rfl
        k_steps
        all_goals (
          rename Fr _ _ _ _ => F3
          rename News _ _ _ _ => N3
          change InvEndN _ _ _ _ _ _ _
          refine mf_endN (_, _) F3 N3 (fun _ h => List.mem_append_left _ h) (fun _ h => List.mem_append_right _ h) rfl (by kst_all) (by walk_at "my same") ?_
          have ho := ‹(Builtin.Str.occurrences _ _ _ _ _).isEmpty = _›
          erw [in_sp] at ho
          dsimp only
          rw [subP_take_succ hn]
          simp only [Bool.not_eq_true', Bool.not_eq_false', decide_eq_false_iff_not, decide_eq_true_eq] at ho
          first
          | rw [if_neg ho, hP2, S_app]
          | rw [if_pos ho, hP2, o_lb, o_rb, S_app, S_app, S_app]
          simp only [List.append_assoc]
          try rfl)
      · rintro ⟨z, tz⟩ u h tk hP2 F2 N2
        dsimp only at hP2 F2 N2
        rw [show (S l).cps.toList.length = l.length by rw [S_cps], List.take_length] at hP2
        k_steps
        rename Fr _ _ _ _ => F3
        rename News _ _ _ _ => N3
        change InvEndG _ _ _ _ _ _
        refine mf_end (_, _) F3 N3 (fun _ h => List.mem_append_left _ h) (fun _ h => List.mem_append_right _ h) hoff (by kst_all) (by walk_at "my same") ?_
        dsimp only
        rw [hP2, hps, itemPat_eq, List.append_assoc])
  case done => 
    intro ⟨y, ty⟩ u h tk hP F' N'
    k_steps
    have hul : us.length = is.length := by rw [strs_len hs, List.length_map]
    rw [hul, List.take_length] at hP
    dsimp only at hP
    have hpl := patOf_len is hm
    exact hret _ _ _ ⟨_, _, rfl, hP, by rw [hP, S_len]; lia⟩ (by assumption) (by assumption)
end
section
open PySem.Calls PySem.Spec

inductive Tk where
  | star
  | lit (c : Nat)
  | brk (c : Nat)

noncomputable def rTk : Tk → List Nat
  | .star => [42]
  | .lit c => [c]
  | .brk c => [91, c, 93]
noncomputable def render (ts : List Tk) : List Nat := ts.flatMap rTk
noncomputable def okTk : Tk → Prop
  | .star => True
  | .lit c => c < 128 ∧ c ≠ 42 ∧ c ≠ 63 ∧ c ≠ 91
  | .brk c => c = 42 ∨ c = 63 ∨ c = 91

noncomputable def specials : List Nat := [40,41,91,93,123,125,63,42,43,45,124,94,36,92,46,38,126,35,32,9,10,13,11,12]
noncomputable def escRe (c : Nat) : List Nat := if c ∈ specials then [92, c] else [c]
noncomputable def brkRe (c : Nat) : List Nat := if c = 91 then [91, 92, 91, 93] else [91, c, 93]
noncomputable def outStep (acc : List (Option (List Nat))) : Tk → List (Option (List Nat))
  | .star => if acc.getLast? = some none then acc else acc ++ [none]
  | .lit c => acc ++ [some (escRe c)]
  | .brk c => acc ++ [some (brkRe c)]
noncomputable def outTk (ts : List Tk) : List (Option (List Nat)) := ts.foldl outStep []

/-- the values of the list that _translate makes -/
inductive ResIs (aS : Addr) : List (Option (List Nat)) → List Value → Prop
  | nil : ResIs aS [] []
  | star {os vs} : ResIs aS os vs → ResIs aS (none :: os) (.ref aS :: vs)
  | re {os vs} (r : List Nat) (t : Tok) : ResIs aS os vs → ResIs aS (some r :: os) (.str (S r) t :: vs)

theorem ResIs.snoc_star {aS : Addr} {os vs} (h : ResIs aS os vs) : ResIs aS (os ++ [none]) (vs ++ [.ref aS]) := by
  induction h with
  | nil => exact .star .nil
  | star _ ih => exact .star ih
  | re r t _ ih => exact .re r t ih
theorem ResIs.snoc_re {aS : Addr} {os vs} (h : ResIs aS os vs) (r : List Nat) (t : Tok) : ResIs aS (os ++ [some r]) (vs ++ [.str (S r) t]) := by
  induction h with
  | nil => exact .re r t .nil
  | star _ ih => exact .star ih
  | re r' t' _ ih => exact .re r' t' ih
theorem ResIs.len {aS : Addr} {os vs} (h : ResIs aS os vs) : os.length = vs.length := by
  induction h with
  | nil => rfl
  | star _ ih => simp [ih]
  | re _ _ _ ih => simp [ih]
theorem ResIs.at {aS : Addr} {os vs} (h : ResIs aS os vs) : ∀ {i : Nat} {o : Option (List Nat)}, os[i]? = some o → ∃ v, vs[i]? = some v ∧ (o = none ∧ v = .ref aS ∨ ∃ r t, o = some r ∧ v = .str (S r) t) := by
  induction h with
  | nil => intro i o h; simp at h
  | star _ ih =>
    intro i o h
    cases i with
    | zero => simp at h; exact ⟨_, rfl, .inl ⟨h.symm, rfl⟩⟩
    | succ i => exact ih (by simpa using h)
  | re r t _ ih =>
    intro i o h
    cases i with
    | zero => simp at h; exact ⟨_, rfl, .inr ⟨r, t, h.symm, rfl⟩⟩
    | succ i => exact ih (by simpa using h)

theorem render_append (a b : List Tk) : render (a ++ b) = render a ++ render b := List.flatMap_append
theorem render_cons (t : Tk) (a : List Tk) : render (t :: a) = rTk t ++ render a := rfl
theorem rTk_pos (t : Tk) : 1 ≤ (rTk t).length := by cases t <;> simp [rTk]
theorem rTk_le (t : Tk) : (rTk t).length ≤ 3 := by cases t <;> simp [rTk]
theorem render_len_ge (a : List Tk) : a.length ≤ (render a).length := by
  induction a with
  | nil => simp [render]
  | cons t a ih => rw [render_cons, List.length_append, List.length_cons]; have := rTk_pos t; lia
theorem outTk_snoc (a : List Tk) (t : Tk) : outTk (a ++ [t]) = outStep (outTk a) t := by
  unfold outTk; rw [List.foldl_append]; rfl
theorem outStep_len (acc : List (Option (List Nat))) (t : Tk) : (outStep acc t).length ≤ acc.length + 1 := by
  cases t <;> simp only [outStep]
  · split <;> simp
  · simp
  · simp
theorem outFold_len (a : List Tk) : ∀ acc : List (Option (List Nat)), (a.foldl outStep acc).length ≤ acc.length + a.length := by
  induction a with
  | nil => intro acc; simp
  | cons t a ih =>
    intro acc
    rw [List.foldl_cons, List.length_cons]
    have h1 := ih (outStep acc t)
    have h2 := outStep_len acc t
    lia
theorem outTk_len (a : List Tk) : (outTk a).length ≤ a.length := by
  have := outFold_len a []
  simpa [outTk] using this

theorem at_tok {pre post : List Tk} {t : Tk} {l : List Nat} (e : l = render (pre ++ t :: post)) (j : Nat) (hj : j < (rTk t).length) : l[(render pre).length + j]? = (rTk t)[j]? := by
  rw [e, render_append, render_cons, List.getElem?_append_right (by lia), List.getElem?_append_left (by lia)]
  congr 1; lia
end
section
open PySem.Calls PySem.Spec

/-- what the list of _translate looks like: a first run of texts, then groups, each behind a star -/
noncomputable def osOf (g0 : List (List Nat)) (gs : List (List (List Nat))) : List (Option (List Nat)) := g0.map some ++ gs.flatMap fun g => none :: g.map some
/-- told text of the groups -/
noncomputable def toldG : List (List (List Nat)) → List Nat
  | [] => []
  | [g] => [46, 42] ++ g.flatten
  | g :: gs => ([40, 63, 62, 46, 42, 63] ++ g.flatten ++ [41]) ++ toldG gs
noncomputable def GsOk : List (List (List Nat)) → Prop
  | [] => True
  | [_] => True
  | g :: gs => g ≠ [] ∧ GsOk gs
theorem osOf_cons (g0 : List (List Nat)) (g : List (List Nat)) (gs : List (List (List Nat))) : osOf g0 (g :: gs) = g0.map some ++ (none :: g.map some) ++ gs.flatMap fun g => none :: g.map some := by
  simp [osOf]

/-- every list without two stars in a row is of that form -/
noncomputable def NoTwo : List (Option (List Nat)) → Prop
  | [] => True
  | none :: none :: _ => False
  | _ :: r => NoTwo r
noncomputable def splitOs : List (Option (List Nat)) → List (List Nat) × List (List (List Nat))
  | [] => ([], [])
  | none :: r => ([], (splitOs r).1 :: (splitOs r).2)
  | some x :: r => (x :: (splitOs r).1, (splitOs r).2)
theorem splitOs_eq : ∀ os, osOf (splitOs os).1 (splitOs os).2 = os
  | [] => rfl
  | none :: r => by
    have ih := splitOs_eq r
    show osOf [] ((splitOs r).1 :: (splitOs r).2) = none :: r
    rw [osOf_cons]
    show none :: (List.map some (splitOs r).1 ++ _) = _
    unfold osOf at ih
    rw [ih]
  | some x :: r => by
    have ih := splitOs_eq r
    show osOf (x :: (splitOs r).1) (splitOs r).2 = some x :: r
    unfold osOf at ih ⊢
    rw [List.map_cons, List.cons_append, ih]
theorem splitOs_ok : ∀ os, NoTwo os → GsOk (splitOs os).2
  | [], _ => trivial
  | [none], _ => trivial
  | none :: none :: r, h => h.elim
  | none :: some x :: r, h => by
    have ih := splitOs_ok (some x :: r) h
    show GsOk ((splitOs (some x :: r)).1 :: (splitOs (some x :: r)).2)
    cases hq : (splitOs (some x :: r)).2 with
    | nil => trivial
    | cons a b =>
      rw [hq] at ih
      exact ⟨by simp [splitOs], ih⟩
  | some x :: r, h => by
    have h' : NoTwo r := by
      cases r with
      | nil => trivial
      | cons a b => cases a <;> exact h
    exact splitOs_ok r h'
theorem noTwo_snoc_some (os : List (Option (List Nat))) (x : List Nat) (h : NoTwo os) : NoTwo (os ++ [some x]) := by
  induction os with
  | nil => trivial
  | cons a os ih =>
    cases a with
    | none =>
      cases os with
      | nil => trivial
      | cons b os =>
        cases b with
        | none => exact h.elim
        | some y => exact ih h
    | some y =>
      cases os with
      | nil => trivial
      | cons b os => cases b <;> exact ih h
theorem noTwo_snoc_none (os : List (Option (List Nat))) (h : NoTwo os) (hl : os.getLast? ≠ some none) : NoTwo (os ++ [none]) := by
  induction os with
  | nil => trivial
  | cons a os ih =>
    cases os with
    | nil =>
      cases a with
      | none => exact absurd rfl hl
      | some y => trivial
    | cons b os =>
      have hl' : (b :: os).getLast? ≠ some none := by rw [List.getLast?_cons_cons] at hl; exact hl
      cases a with
      | none =>
        cases b with
        | none => exact h.elim
        | some y => exact ih h hl'
      | some y => cases b <;> exact ih h hl'
theorem outTk_noTwo (ts : List Tk) : NoTwo (outTk ts) := by
  have h : ∀ (ts : List Tk) (acc), NoTwo acc → NoTwo (ts.foldl outStep acc) := by
    intro ts
    induction ts with
    | nil => intro acc h; exact h
    | cons t ts ih =>
      intro acc h
      rw [List.foldl_cons]
      refine ih _ ?_
      cases t with
      | star =>
        show NoTwo (if acc.getLast? = some none then acc else acc ++ [none])
        by_cases hq : acc.getLast? = some none
        · rw [if_pos hq]; exact h
        · rw [if_neg hq]; exact noTwo_snoc_none _ h hq
      | lit c => exact noTwo_snoc_some _ _ h
      | brk c => exact noTwo_snoc_some _ _ h
  exact h ts [] trivial
end
section
open PySem.Calls PySem.Spec

noncomputable def gOs (gs : List (List (List Nat))) : List (Option (List Nat)) := gs.flatMap fun g => none :: g.map some
noncomputable def mids (gs : List (List (List Nat))) : List Nat := gs.flatMap fun g => [40, 63, 62, 46, 42, 63] ++ g.flatten ++ [41]
theorem osOf_g (g0 : List (List Nat)) (gs) : osOf g0 gs = g0.map some ++ gOs gs := rfl
theorem gOs_append (a b) : gOs (a ++ b) = gOs a ++ gOs b := List.flatMap_append
theorem gOs_cons (g b) : gOs (g :: b) = none :: (g.map some ++ gOs b) := by simp [gOs]
theorem mids_append (a b) : mids (a ++ b) = mids a ++ mids b := List.flatMap_append
theorem os_at0 (g0 : List (List Nat)) (pre : List (List (List Nat))) (g : List (List Nat)) (post) : (osOf g0 (pre ++ g :: post))[g0.length + (gOs pre).length]? = some none := by
  rw [osOf_g, gOs_append, gOs_cons, List.getElem?_append_right (by simp), List.length_map, Nat.add_sub_cancel_left, List.getElem?_append_right (Nat.le_refl _), Nat.sub_self]
  rfl
theorem os_at1 (g0 : List (List Nat)) (pre : List (List (List Nat))) (g : List (List Nat)) (post) (k : Nat) (hk : k < g.length) : (osOf g0 (pre ++ g :: post))[g0.length + (gOs pre).length + 1 + k]? = some (some g[k]) := by
  rw [osOf_g, gOs_append, gOs_cons, List.getElem?_append_right (by simp; lia), List.length_map, List.getElem?_append_right (by lia)]
  rw [show g0.length + (gOs pre).length + 1 + k - g0.length - (gOs pre).length = k + 1 by lia, List.getElem?_cons_succ, List.getElem?_append_left (by rw [List.length_map]; exact hk)]
  simp [hk]
theorem os_at2 (g0 : List (List Nat)) (pre : List (List (List Nat))) (g g' : List (List Nat)) (post) : (osOf g0 (pre ++ g :: g' :: post))[g0.length + (gOs pre).length + 1 + g.length]? = some none := by
  have h := os_at0 g0 (pre ++ [g]) g' post
  rw [List.append_assoc, List.singleton_append, gOs_append] at h
  have e : (gOs pre ++ gOs [g]).length = (gOs pre).length + 1 + g.length := by rw [List.length_append, gOs_cons]; simp [gOs]; lia
  rw [e] at h
  rw [← h]
  congr 1; lia
theorem os_len (g0 : List (List Nat)) (pre : List (List (List Nat))) (g : List (List Nat)) (post) : (osOf g0 (pre ++ g :: post)).length = g0.length + (gOs pre).length + 1 + g.length + (gOs post).length := by
  rw [osOf_g, gOs_append, gOs_cons]; simp; lia
theorem gOs_snoc_len (pre : List (List (List Nat))) (g : List (List Nat)) : (gOs (pre ++ [g])).length = (gOs pre).length + 1 + g.length := by
  rw [gOs_append, List.length_append, gOs_cons]; simp [gOs]; lia
theorem toldG_mid (g g' : List (List Nat)) (gs) : toldG (g :: g' :: gs) = mids [g] ++ toldG (g' :: gs) := by
  show ([40, 63, 62, 46, 42, 63] ++ g.flatten ++ [41]) ++ toldG (g' :: gs) = _
  simp [mids]
theorem toldG_pre (pre : List (List (List Nat))) (g : List (List Nat)) (gs) : toldG (pre ++ g :: gs) = mids pre ++ toldG (g :: gs) := by
  induction pre with
  | nil => rfl
  | cons a pre ih =>
    cases pre with
    | nil =>
      show toldG (a :: g :: gs) = _
      rw [toldG_mid]
    | cons b pre =>
      show toldG (a :: b :: (pre ++ g :: gs)) = _
      rw [toldG_mid]
      show mids [a] ++ toldG ((b :: pre) ++ g :: gs) = _
      rw [ih]
      simp [mids]
theorem gsOk_mid {pre : List (List (List Nat))} {g g' : List (List Nat)} {gs} (h : GsOk (pre ++ g :: g' :: gs)) : g ≠ [] := by
  induction pre with
  | nil => exact h.1
  | cons a pre ih =>
    cases pre with
    | nil => exact ih h.2
    | cons b pre => exact ih h.2

inductive Strs : List (List Nat) → List Value → Prop
  | nil : Strs [] []
  | cons (r : List Nat) (t : Tok) {rs vs} : Strs rs vs → Strs (r :: rs) (.str (S r) t :: vs)
theorem Strs.append {a b : List (List Nat)} {x y : List Value} (h : Strs a x) (k : Strs b y) : Strs (a ++ b) (x ++ y) := by
  induction h with
  | nil => exact k
  | cons r t _ ih => exact .cons r t ih
theorem Strs.are {a : List (List Nat)} {x : List Value} (h : Strs a x) : StrsAre x (a.map S) := by
  induction h with
  | nil => exact .nil
  | cons r t _ ih => exact .cons _ t ih
theorem Strs.len {a : List (List Nat)} {x : List Value} (h : Strs a x) : x.length = a.length := by
  induction h with
  | nil => rfl
  | cons r t _ ih => simp [ih]
theorem Strs.take {aS : Addr} {os us} (h : ResIs aS os us) : ∀ {a : List (List Nat)} {b}, os = a.map some ++ b → Strs a (us.take a.length) := by
  induction h with
  | nil =>
    intro a b e
    cases a with
    | nil => exact .nil
    | cons x a => simp at e
  | star _ ih =>
    intro a b e
    cases a with
    | nil => exact .nil
    | cons x a => simp at e
  | re r t _ ih =>
    intro a b e
    cases a with
    | nil => exact .nil
    | cons x a =>
      simp at e
      obtain ⟨rfl, e⟩ := e
      exact .cons r t (ih e)
end
section
open PySem.Calls PySem.Spec
/-- what fnmatch.translate gives for a list of tokens -/
noncomputable def toldOf (ts : List Tk) : List Nat := [40, 63, 115, 58] ++ (splitOs (outTk ts)).1.flatten ++ toldG (splitOs (outTk ts)).2 ++ [41, 92, 90]
noncomputable def wOs (os : List (Option (List Nat))) : Nat := (os.map fun o => match o with | none => 9 | some x => x.length).sum
theorem wOs_some (g : List (List Nat)) : wOs (g.map some) = g.flatten.length := by
  induction g with
  | nil => rfl
  | cons x g ih =>
    show x.length + wOs (g.map some) = _
    rw [ih, List.flatten_cons, List.length_append]
theorem wOs_none (os) : wOs (none :: os) = 9 + wOs os := by simp [wOs]
theorem wOs_append (a b) : wOs (a ++ b) = wOs a + wOs b := by simp [wOs]
theorem toldG_len : ∀ gs : List (List (List Nat)), (toldG gs).length ≤ wOs (gOs gs)
  | [] => Nat.le_refl _
  | [g] => by
    show ([46, 42] ++ g.flatten).length ≤ _
    rw [gOs_cons, wOs_none, wOs_append, wOs_some, List.length_append]
    simp; lia
  | g :: g' :: gs => by
    have ih := toldG_len (g' :: gs)
    rw [toldG_mid, gOs_cons, wOs_none, wOs_append, wOs_some, List.length_append]
    have : (mids [g]).length = g.flatten.length + 7 := by simp [mids]
    lia
theorem outTk_w (ts : List Tk) : wOs (outTk ts) ≤ 9 * ts.length := by
  have h : ∀ (ts : List Tk) acc, wOs (ts.foldl outStep acc) ≤ wOs acc + 9 * ts.length := by
    intro ts
    induction ts with
    | nil => intro acc; simp
    | cons t ts ih =>
      intro acc
      rw [List.foldl_cons, List.length_cons]
      have h1 := ih (outStep acc t)
      have h2 : wOs (outStep acc t) ≤ wOs acc + 9 := by
        cases t with
        | star =>
          show wOs (if acc.getLast? = some none then acc else acc ++ [none]) ≤ _
          split
          · lia
          · simp [wOs]
        | lit c =>
          show wOs (acc ++ [some (escRe c)]) ≤ _
          have : (escRe c).length ≤ 2 := by unfold escRe; split <;> simp
          simp [wOs]; lia
        | brk c =>
          show wOs (acc ++ [some (brkRe c)]) ≤ _
          have : (brkRe c).length ≤ 4 := by unfold brkRe; split <;> simp
          simp [wOs]; lia
      lia
  have := h ts []
  simpa [wOs, outTk] using this
theorem told_len (ts : List Tk) : ((splitOs (outTk ts)).1.flatten ++ toldG (splitOs (outTk ts)).2).length ≤ 9 * ts.length := by
  have h1 := outTk_w ts
  have h2 := toldG_len (splitOs (outTk ts)).2
  have h3 := splitOs_eq (outTk ts)
  rw [osOf_g] at h3
  rw [← h3, wOs_append, wOs_some] at h1
  rw [List.length_append]
  lia
end
section
noncomputable def atL (t p : List Nat) (i : Nat) : Bool := decide (i + p.length ≤ t.length) && ((t.drop i).take p.length == p)
noncomputable def findL (t p : List Nat) (i : Nat) : Option Nat := (List.range' i (t.length + 1 - i)).find? (atL t p)
theorem findL_le {t p : List Nat} {i k : Nat} (h : findL t p i = some k) : i ≤ k ∧ k + p.length ≤ t.length := by
  unfold findL at h
  have h1 := List.find?_some h
  have h2 := List.mem_of_find?_eq_some h
  unfold atL at h1
  simp at h1
  exact ⟨(List.mem_range'_1.mp h2).1, h1.1⟩
noncomputable def midL (t : List Nat) (a : Nat) : List (List Nat) → Option Nat
  | [] => some a
  | p :: ps => match findL t p a with | none => none | some k => midL t (k + p.length) ps
noncomputable def lastP (ps : List (List Nat)) : List Nat := ps.getLast?.getD []
noncomputable def takenL (ps : List (List Nat)) (t : List Nat) : Bool :=
  match ps with
  | [] => false
  | [p] => t == p
  | p0 :: rest => if t.take p0.length == p0 then (match midL t p0.length rest.dropLast with
      | none => false
      | some a => decide (a + (lastP rest).length ≤ t.length) && (t.drop (t.length - (lastP rest).length) == lastP rest)) else false
end
section
theorem atL_iff {t p : List Nat} {i : Nat} : atL t p i = true ↔ i + p.length ≤ t.length ∧ t.drop i = p ++ t.drop (i + p.length) := by
  unfold atL
  rw [Bool.and_eq_true, decide_eq_true_eq, beq_iff_eq]
  constructor
  · rintro ⟨h1, h2⟩
    refine ⟨h1, ?_⟩
    rw [← List.drop_drop]
    conv => lhs; rw [← List.take_append_drop p.length (t.drop i), h2]
  · rintro ⟨h1, h2⟩
    exact ⟨h1, by rw [h2, List.take_left]⟩
theorem findL_min {t p : List Nat} {a k j : Nat} (h : findL t p a = some k) (ha : a ≤ j) (hj : atL t p j = true) : k ≤ j := by
  unfold findL at h
  obtain ⟨_, as, bs, e, hn⟩ := List.find?_eq_some_iff_append.mp h
  have hm : j ∈ List.range' a (t.length + 1 - a) := by
    rw [List.mem_range'_1]
    have := (atL_iff.mp hj).1
    lia
  rw [e] at hm
  rcases List.mem_append.mp hm with hm | hm
  · have := hn j hm
    rw [hj] at this
    cases this
  · rcases List.mem_cons.mp hm with rfl | hm
    · exact Nat.le_refl _
    · have hp : List.Pairwise (· < ·) (List.range' a (t.length + 1 - a)) := List.pairwise_lt_range'
      rw [e] at hp
      have := (List.pairwise_append.mp hp).2.1
      exact Nat.le_of_lt ((List.pairwise_cons.mp this).1 j hm)
theorem findL_none {t p : List Nat} {a j : Nat} (h : findL t p a = none) (ha : a ≤ j) : ¬ atL t p j = true := by
  intro hj
  unfold findL at h
  rw [List.find?_eq_none] at h
  refine h j ?_ hj
  rw [List.mem_range'_1]
  have := (atL_iff.mp hj).1
  lia
theorem findL_at {t p : List Nat} {a k : Nat} (h : findL t p a = some k) : atL t p k = true := by
  unfold findL at h
  exact List.find?_some h

noncomputable def segP (ss : List (List Nat)) : List (Option Nat) := ss.flatMap fun s => none :: s.map some
theorem segP_cons (s : List Nat) (ss) : segP (s :: ss) = none :: (s.map some ++ segP ss) := by simp [segP]

theorem mid_iff {t l : List Nat} : ∀ (ps : List (List Nat)) (a : Nat), a ≤ t.length → (Mt (segP (ps ++ [l])) (t.drop a) ↔ ∃ a', midL t a ps = some a' ∧ a' + l.length ≤ t.length ∧ t.drop (t.length - l.length) = l)
  | [], a, ha => by
    show Mt (segP [l]) (t.drop a) ↔ ∃ a', some a = some a' ∧ _
    rw [segP_cons]
    have e : (l.map some ++ segP [] : List (Option Nat)) = l.map some ++ [] := rfl
    rw [e]
    constructor
    · rintro ⟨k, h⟩
      obtain ⟨t', h1, h2⟩ := (Mt_lits [] l _).mp h
      have h3 : t' = [] := h2
      subst h3
      rw [List.append_nil, List.drop_drop] at h1
      have hl : t.length - (a + k) = l.length := by rw [← h1, List.length_drop]
      refine ⟨a, rfl, by lia, ?_⟩
      by_cases hk : a + k ≤ t.length
      · rw [show t.length - l.length = a + k by lia]; exact h1
      · have : l.length = 0 := by lia
        have hl0 : l = [] := List.length_eq_zero_iff.mp this
        subst hl0
        simp
    · rintro ⟨a', e1, h1, h2⟩
      cases e1
      refine ⟨t.length - l.length - a, (Mt_lits [] l _).mpr ⟨[], ?_, rfl⟩⟩
      rw [List.drop_drop, show a + (t.length - l.length - a) = t.length - l.length by lia, h2, List.append_nil]
  | p :: ps, a, ha => by
    rw [List.cons_append, segP_cons]
    have hq : ∃ q', segP (ps ++ [l]) = none :: q' := by
      cases ps with
      | nil => exact ⟨_, segP_cons _ _⟩
      | cons b ps => exact ⟨_, segP_cons _ _⟩
    have hm : midL t a (p :: ps) = match findL t p a with | none => none | some k => midL t (k + p.length) ps := rfl
    constructor
    · rintro ⟨k, h⟩
      obtain ⟨t', h1, h2⟩ := (Mt_lits _ p _).mp h
      rw [List.drop_drop] at h1
      obtain ⟨j, hja, hj, hjt⟩ : ∃ j, a ≤ j ∧ atL t p j = true ∧ t' = t.drop (j + p.length) := by
        by_cases hk : a + k ≤ t.length
        · have hl : t.length - (a + k) = p.length + t'.length := by rw [← List.length_append, ← h1, List.length_drop]
          have e : t' = t.drop (a + k + p.length) := by rw [← List.drop_drop, h1, List.drop_left]
          exact ⟨a + k, by lia, atL_iff.mpr ⟨by lia, by rw [h1, e]⟩, e⟩
        · rw [List.drop_of_length_le (by lia)] at h1
          obtain ⟨rfl, rfl⟩ := List.append_eq_nil_iff.mp h1.symm
          exact ⟨t.length, ha, atL_iff.mpr ⟨by simp, by simp⟩, by simp⟩
      cases hf : findL t p a with
      | none => exact absurd hj (findL_none hf hja)
      | some k0 =>
        have hle := findL_le hf
        have hmn := findL_min hf hja hj
        rw [hm, hf]
        refine (mid_iff ps (k0 + p.length) hle.2).mp ?_
        obtain ⟨q', hq'⟩ := hq
        rw [hq'] at h2 ⊢
        refine Mt_star_mono (k := j - k0) ?_
        rw [List.drop_drop, show k0 + p.length + (j - k0) = j + p.length by lia, ← hjt]
        exact h2
    · intro h
      rw [hm] at h
      cases hf : findL t p a with
      | none => rw [hf] at h; obtain ⟨_, h, _⟩ := h; cases h
      | some k0 =>
        rw [hf] at h
        have hle := findL_le hf
        have ih := (mid_iff ps (k0 + p.length) hle.2).mpr h
        refine ⟨k0 - a, (Mt_lits _ p _).mpr ⟨_, ?_, ih⟩⟩
        rw [List.drop_drop, show a + (k0 - a) = k0 by lia]
        exact (atL_iff.mp (findL_at hf)).2

theorem taken_iff (s0 : List Nat) (ss : List (List Nat)) (t : List Nat) : takenL (s0 :: ss) t = true ↔ Mt (s0.map some ++ segP ss) t := by
  rw [Mt_lits]
  cases ss with
  | nil =>
    show (t == s0) = true ↔ _
    rw [beq_iff_eq]
    constructor
    · rintro rfl; exact ⟨[], by simp, rfl⟩
    · rintro ⟨t', rfl, h⟩
      have : t' = [] := h
      rw [this, List.append_nil]
  | cons s1 ss =>
    have hun : takenL (s0 :: s1 :: ss) t = (if t.take s0.length == s0 then (match midL t s0.length (s1 :: ss).dropLast with
      | none => false
      | some a => decide (a + (lastP (s1 :: ss)).length ≤ t.length) && (t.drop (t.length - (lastP (s1 :: ss)).length) == lastP (s1 :: ss))) else false) := rfl
    have hps : (s1 :: ss).dropLast ++ [lastP (s1 :: ss)] = s1 :: ss := by
      unfold lastP
      rw [List.getLast?_eq_some_getLast (by simp)]
      exact List.dropLast_concat_getLast (by simp)
    generalize hD : (s1 :: ss).dropLast = D at hun hps
    generalize hl : lastP (s1 :: ss) = l at hun hps
    rw [hun, ← hps]
    constructor
    · intro h
      split at h
      · rename_i h0
        rw [beq_iff_eq] at h0
        have h0l : s0.length ≤ t.length := by
          have := congrArg List.length h0
          rw [List.length_take] at this
          lia
        refine ⟨t.drop s0.length, ?_, (mid_iff D s0.length h0l).mpr ?_⟩
        · conv => lhs; rw [← List.take_append_drop s0.length t, h0]
        · cases hm : midL t s0.length D with
          | none => rw [hm] at h; cases h
          | some a =>
            rw [hm] at h
            simp only [Bool.and_eq_true, decide_eq_true_eq, beq_iff_eq] at h
            exact ⟨a, rfl, h⟩
      · cases h
    · rintro ⟨t', e, h⟩
      have h1 : t.take s0.length = s0 := by rw [e, List.take_left]
      have h2 : t.drop s0.length = t' := by rw [e, List.drop_left]
      rw [← h2] at h
      obtain ⟨a, ha, h3, h4⟩ := (mid_iff D s0.length (by rw [e]; simp)).mp h
      rw [h1, beq_self_eq_true, if_pos rfl, ha]
      simp only [Bool.and_eq_true, decide_eq_true_eq, beq_iff_eq]
      exact ⟨h3, h4⟩
end
section
/-- a turn of _law_fits -/
noncomputable def fitStep (t : List Nat) (ps : List Nat) (l : List Nat) : List Nat :=
  match ps, l with
  | h :: _, [] => List.range' h (t.length + 1 - h)
  | _, _ => (ps.filter fun k => (t.drop k).take l.length == l).map (· + l.length)
noncomputable def placesL (is : List (List Nat)) (t : List Nat) : List Nat := is.foldl (fitStep t) [0]
noncomputable def fitsL (is : List (List Nat)) (t : List Nat) : Bool := (placesL is t).contains t.length
noncomputable def patI (is : List (List Nat)) : List (Option Nat) := is.flatMap fun l => if l = [] then [none] else l.map some

theorem fitStep_lits (t ps l : List Nat) (h : ps = [] ∨ l ≠ []) : fitStep t ps l = (ps.filter fun k => (t.drop k).take l.length == l).map (· + l.length) := by
  cases ps with
  | nil => rfl
  | cons a ps =>
    cases l with
    | nil => rcases h with h | h; cases h; exact absurd rfl h
    | cons c l => rfl
theorem fitStep_ok {t ps l : List Nat} (h1 : ps.Pairwise (· ≤ ·)) (h2 : ∀ k ∈ ps, k ≤ t.length) : (fitStep t ps l).Pairwise (· ≤ ·) ∧ ∀ k ∈ fitStep t ps l, k ≤ t.length := by
  by_cases h : ps = [] ∨ l ≠ []
  · rw [fitStep_lits t ps l h]
    constructor
    · exact List.Pairwise.map _ (fun a b hab => by lia) (h1.filter _)
    · intro k hk
      obtain ⟨j, hj, rfl⟩ := List.mem_map.mp hk
      obtain ⟨hj1, hj2⟩ := List.mem_filter.mp hj
      rw [beq_iff_eq] at hj2
      have := congrArg List.length hj2
      rw [List.length_take, List.length_drop] at this
      have := h2 j hj1
      lia
  · cases ps with
    | nil => exact absurd (.inl rfl) h
    | cons a ps =>
      cases l with
      | cons c l => exact absurd (.inr (by simp)) h
      | nil =>
        show (List.range' a (t.length + 1 - a)).Pairwise (· ≤ ·) ∧ ∀ k ∈ List.range' a (t.length + 1 - a), k ≤ t.length
        constructor
        · exact (List.pairwise_lt_range' (s := a) (n := t.length + 1 - a)).imp fun h => Nat.le_of_lt h
        · intro k hk
          have := List.mem_range'_1.mp hk
          lia
theorem fits_from (t : List Nat) : ∀ (is : List (List Nat)) (ps : List Nat), ps.Pairwise (· ≤ ·) → (∀ k ∈ ps, k ≤ t.length) → (t.length ∈ is.foldl (fitStep t) ps ↔ ∃ k ∈ ps, Mt (patI is) (t.drop k))
  | [], ps, _, h2 => by
    show t.length ∈ ps ↔ ∃ k ∈ ps, t.drop k = []
    constructor
    · intro h; exact ⟨_, h, by simp⟩
    · rintro ⟨k, hk, h⟩
      have h3 := h2 k hk
      have h4 : t.length ≤ k := List.drop_eq_nil_iff.mp h
      have : k = t.length := by lia
      exact this ▸ hk
  | l :: is, ps, h1, h2 => by
    obtain ⟨g1, g2⟩ := fitStep_ok (l := l) h1 h2
    rw [List.foldl_cons, fits_from t is _ g1 g2]
    have hpat : patI (l :: is) = (if l = [] then [none] else l.map some) ++ patI is := rfl
    by_cases h : ps = [] ∨ l ≠ []
    · rw [fitStep_lits t ps l h]
      rcases h with rfl | h
      · simp
      · rw [hpat, if_neg h]
        constructor
        · rintro ⟨k, hk, hm⟩
          obtain ⟨j, hj, rfl⟩ := List.mem_map.mp hk
          obtain ⟨hj1, hj2⟩ := List.mem_filter.mp hj
          rw [beq_iff_eq] at hj2
          refine ⟨j, hj1, (Mt_lits _ l _).mpr ⟨_, ?_, hm⟩⟩
          rw [← List.drop_drop]
          conv => lhs; rw [← List.take_append_drop l.length (t.drop j), hj2]
        · rintro ⟨k, hk, hm⟩
          obtain ⟨t', e, hm⟩ := (Mt_lits _ l _).mp hm
          refine ⟨k + l.length, List.mem_map.mpr ⟨k, List.mem_filter.mpr ⟨hk, ?_⟩, rfl⟩, ?_⟩
          · rw [beq_iff_eq, e, List.take_left]
          · rw [← List.drop_drop, e, List.drop_left]
            exact hm
    · cases ps with
      | nil => exact absurd (.inl rfl) h
      | cons a ps =>
        cases l with
        | cons c l => exact absurd (.inr (by simp)) h
        | nil =>
          show (∃ k ∈ List.range' a (t.length + 1 - a), Mt (patI is) (t.drop k)) ↔ ∃ k ∈ a :: ps, Mt (none :: patI is) (t.drop k)
          have ha := h2 a (List.mem_cons_self ..)
          constructor
          · rintro ⟨k, hk, hm⟩
            have := List.mem_range'_1.mp hk
            refine ⟨a, List.mem_cons_self .., k - a, ?_⟩
            rw [List.drop_drop, show a + (k - a) = k by lia]
            exact hm
          · rintro ⟨k, hk, j, hm⟩
            rw [List.drop_drop] at hm
            have hak : a ≤ k := by
              rcases List.mem_cons.mp hk with rfl | hk
              · exact Nat.le_refl _
              · exact (List.pairwise_cons.mp h1).1 k hk
            by_cases hj : k + j ≤ t.length
            · exact ⟨k + j, List.mem_range'_1.mpr (by lia), hm⟩
            · refine ⟨t.length, List.mem_range'_1.mpr (by lia), ?_⟩
              rw [List.drop_of_length_le (Nat.le_refl _)]
              rwa [List.drop_of_length_le (by lia)] at hm
theorem fits_iff (is : List (List Nat)) (t : List Nat) : fitsL is t = true ↔ Mt (patI is) t := by
  unfold fitsL placesL
  rw [List.contains_iff_mem, fits_from t is [0] (by simp) (by simp)]
  simp
end
section
noncomputable def semTk : Tk → Option Nat
  | .star => none
  | .lit c => some c
  | .brk c => some c
/-- a sign of a piece -/
inductive Sg where
  | lit (c : Nat)
  | brk (c : Nat)
noncomputable def chS : Sg → Nat
  | .lit c => c
  | .brk c => c
noncomputable def reS : Sg → List Nat
  | .lit c => escRe c
  | .brk c => brkRe c
noncomputable def okS : Sg → Prop
  | .lit c => c < 128 ∧ c ≠ 42 ∧ c ≠ 63 ∧ c ≠ 91
  | .brk c => c = 42 ∨ c = 63 ∨ c = 91
/-- tokens, a run of stars as one -/
noncomputable def keepTk (acc : List (Option Sg)) : Tk → List (Option Sg)
  | .star => if acc.getLast?.map Option.isNone = some true then acc else acc ++ [none]
  | .lit c => acc ++ [some (.lit c)]
  | .brk c => acc ++ [some (.brk c)]
noncomputable def outS (ts : List Tk) : List (Option Sg) := ts.foldl keepTk []
noncomputable def splitS : List (Option Sg) → List Sg × List (List Sg)
  | [] => ([], [])
  | none :: r => ([], (splitS r).1 :: (splitS r).2)
  | some x :: r => (x :: (splitS r).1, (splitS r).2)
noncomputable def grpS (ts : List Tk) : List Sg × List (List Sg) := splitS (outS ts)
noncomputable def piecesOf (ts : List Tk) : List (List Nat) := (grpS ts).1.map chS :: (grpS ts).2.map (·.map chS)

theorem outTk_map (ts : List Tk) : outTk ts = (outS ts).map (Option.map reS) := by
  have h : ∀ (ts : List Tk) (acc : List (Option Sg)), ts.foldl outStep (acc.map (Option.map reS)) = (ts.foldl keepTk acc).map (Option.map reS) := by
    intro ts
    induction ts with
    | nil => intro acc; rfl
    | cons t ts ih =>
      intro acc
      rw [List.foldl_cons, List.foldl_cons, ← ih]
      congr 1
      cases t with
      | star =>
        show (if (acc.map (Option.map reS)).getLast? = some none then _ else _) = List.map (Option.map reS) (if acc.getLast?.map Option.isNone = some true then acc else acc ++ [none])
        have e : ((acc.map (Option.map reS)).getLast? = some none) ↔ (acc.getLast?.map Option.isNone = some true) := by
          rw [List.getLast?_map]
          cases acc.getLast? with
          | none => simp
          | some o => cases o <;> simp
        by_cases hh : acc.getLast?.map Option.isNone = some true
        · rw [if_pos (e.mpr hh), if_pos hh]
        · rw [if_neg (fun x => hh (e.mp x)), if_neg hh]
          simp
      | lit c => simp [outStep, keepTk, reS]
      | brk c => simp [outStep, keepTk, reS]
  exact h ts []
theorem splitOs_map : ∀ os : List (Option Sg), splitOs (os.map (Option.map reS)) = ((splitS os).1.map reS, (splitS os).2.map (·.map reS))
  | [] => rfl
  | none :: r => by
    have ih := splitOs_map r
    show (([] : List (List Nat)), (splitOs (r.map (Option.map reS))).1 :: (splitOs (r.map (Option.map reS))).2) = _
    rw [ih]; rfl
  | some x :: r => by
    have ih := splitOs_map r
    show (reS x :: (splitOs (r.map (Option.map reS))).1, (splitOs (r.map (Option.map reS))).2) = _
    rw [ih]; rfl
theorem told_grp (ts : List Tk) : toldOf ts = [40, 63, 115, 58] ++ ((grpS ts).1.map reS).flatten ++ toldG ((grpS ts).2.map (·.map reS)) ++ [41, 92, 90] := by
  unfold toldOf grpS
  rw [outTk_map, splitOs_map]

noncomputable def semO : Option Sg → Option Nat := Option.map chS
theorem pieces_pat : ∀ os : List (Option Sg), os.map semO = ((splitS os).1.map chS).map some ++ segP ((splitS os).2.map (·.map chS))
  | [] => rfl
  | none :: r => by
    have ih := pieces_pat r
    show none :: r.map semO = [] ++ segP (((splitS r).1.map chS) :: _)
    rw [segP_cons, ih]; rfl
  | some x :: r => by
    have ih := pieces_pat r
    show some (chS x) :: r.map semO = some (chS x) :: (((splitS r).1.map chS).map some ++ _)
    rw [ih]; rfl
theorem Mt_congr {q q' : List (Option Nat)} (h : ∀ t, Mt q t ↔ Mt q' t) : ∀ (p : List (Option Nat)) (t : List Nat), Mt (p ++ q) t ↔ Mt (p ++ q') t
  | [], t => h t
  | some c :: p, t => by
    constructor
    · rintro ⟨t', e, hm⟩; exact ⟨t', e, (Mt_congr h p t').mp hm⟩
    · rintro ⟨t', e, hm⟩; exact ⟨t', e, (Mt_congr h p t').mpr hm⟩
  | none :: p, t => by
    constructor
    · rintro ⟨k, hm⟩; exact ⟨k, (Mt_congr h p _).mp hm⟩
    · rintro ⟨k, hm⟩; exact ⟨k, (Mt_congr h p _).mpr hm⟩
theorem Mt_merge (ts : List Tk) (t : List Nat) : Mt ((outS ts).map semO) t ↔ Mt (ts.map semTk) t := by
  have h : ∀ (ts : List Tk) (acc : List (Option Sg)), Mt ((ts.foldl keepTk acc).map semO) t ↔ Mt (acc.map semO ++ ts.map semTk) t := by
    intro ts
    induction ts with
    | nil => intro acc; simp
    | cons a ts ih =>
      intro acc
      rw [List.foldl_cons, ih]
      cases a with
      | star =>
        show Mt (List.map semO (if acc.getLast?.map Option.isNone = some true then acc else acc ++ [none]) ++ ts.map semTk) t ↔ Mt (acc.map semO ++ none :: ts.map semTk) t
        by_cases hh : acc.getLast?.map Option.isNone = some true
        · rw [if_pos hh]
          rcases List.eq_nil_or_concat acc with e | ⟨b, o, e⟩
          · subst e; simp at hh
          · rw [List.concat_eq_append] at e
            subst e
            simp at hh
            subst hh
            rw [List.map_append, List.append_assoc, List.append_assoc]
            exact Mt_congr (fun u => Mt_star_star.symm) _ _
        · rw [if_neg hh, List.map_append, List.append_assoc]
          exact Iff.rfl
      | lit c => rw [keepTk, List.map_append, List.append_assoc]; exact Iff.rfl
      | brk c => rw [keepTk, List.map_append, List.append_assoc]; exact Iff.rfl
  exact h ts []
/-- what _law_taken says of the told pieces -/
theorem taken_toks (ts : List Tk) (t : List Nat) : takenL (piecesOf ts) t = true ↔ Mt (ts.map semTk) t := by
  rw [← Mt_merge, pieces_pat]
  exact taken_iff _ _ _

/-! the tokens of the joined patterns -/
noncomputable def escTk (T : List (Nat × List Nat)) : Tk → List Tk
  | .star => [.star]
  | .brk c => [.brk c]
  | .lit c => (escC T c).map .lit
noncomputable def itemTk (l : List Nat) : List Tk := if l = [] then [.star] else l.map fun c => if c = 42 ∨ c = 63 ∨ c = 91 then .brk c else .lit c
noncomputable def itemsTk (is : List (List Nat)) : List Tk := is.flatMap itemTk
noncomputable def tokGood (T : List (Nat × List Nat)) : Bool := [42, 63, 91, 93].all (fun c => (T.lookup c).isNone) && T.all fun p => p.2.all fun c => decide (c < 128) && !([42, 63, 91].contains c)
theorem tabs_tok : ∀ h, h < 5 → tokGood (tab h) = true := by decide
theorem escC_self {T : List (Nat × List Nat)} (hT : tokGood T = true) {c : Nat} (hc : c = 42 ∨ c = 63 ∨ c = 91 ∨ c = 93) : escC T c = [c] := by
  unfold tokGood at hT
  rw [Bool.and_eq_true, List.all_eq_true] at hT
  have := hT.1 c (by simp; lia)
  unfold escC
  cases h : T.lookup c with
  | none => rfl
  | some v => rw [h] at this; cases this
theorem render_escTk {T : List (Nat × List Nat)} (hT : tokGood T = true) {t : Tk} (ht : okTk t) : render (escTk T t) = esc T (rTk t) := by
  cases t with
  | star =>
    show [42] = escC T 42 ++ []
    rw [escC_self hT (.inl rfl)]; rfl
  | brk c =>
    show [91, c, 93] ++ [] = escC T 91 ++ (escC T c ++ (escC T 93 ++ []))
    rw [escC_self hT (.inr (.inr (.inl rfl))), escC_self hT (.inr (.inr (.inr rfl)))]
    have hc : c = 42 ∨ c = 63 ∨ c = 91 := ht
    rw [escC_self hT (c := c) (by lia)]
    rfl
  | lit c =>
    show render ((escC T c).map .lit) = escC T c ++ []
    rw [List.append_nil]
    generalize escC T c = l
    induction l with
    | nil => rfl
    | cons a l ih => rw [List.map_cons, render_cons, ih]; rfl
theorem render_esc {T : List (Nat × List Nat)} (hT : tokGood T = true) : ∀ {ts : List Tk}, (∀ t ∈ ts, okTk t) → render (ts.flatMap (escTk T)) = esc T (render ts)
  | [], _ => rfl
  | t :: ts, h => by
    rw [List.flatMap_cons, render_append, render_cons, esc_append, render_escTk hT (h t (List.mem_cons_self ..)), render_esc hT fun u hu => h u (List.mem_cons_of_mem _ hu)]
theorem ok_escTk {T : List (Nat × List Nat)} (hT : tokGood T = true) {t : Tk} (ht : okTk t) : ∀ u ∈ escTk T t, okTk u := by
  cases t with
  | star => intro u hu; rcases List.mem_singleton.mp hu with rfl; trivial
  | brk c => intro u hu; rcases List.mem_singleton.mp hu with rfl; exact ht
  | lit c =>
    intro u hu
    obtain ⟨d, hd, rfl⟩ := List.mem_map.mp hu
    show d < 128 ∧ d ≠ 42 ∧ d ≠ 63 ∧ d ≠ 91
    unfold escC at hd
    cases h : T.lookup c with
    | none =>
      rw [h] at hd
      have : d = c := by simpa using hd
      exact this ▸ ht
    | some v =>
      rw [h] at hd
      unfold tokGood at hT
      rw [Bool.and_eq_true, List.all_eq_true, List.all_eq_true] at hT
      have := hT.2 _ (lookup_mem h)
      rw [List.all_eq_true] at this
      have := this d hd
      simp at this
      lia
theorem sem_escTk {T : List (Nat × List Nat)} (hT : tokGood T = true) : ∀ {ts : List Tk}, (∀ t ∈ ts, okTk t) → (ts.flatMap (escTk T)).map semTk = escP T (ts.map semTk)
  | [], _ => rfl
  | t :: ts, h => by
    have ih := sem_escTk hT (ts := ts) fun u hu => h u (List.mem_cons_of_mem _ hu)
    rw [List.flatMap_cons, List.map_append, ih]
    have ht := h t (List.mem_cons_self ..)
    cases t with
    | star => rfl
    | brk c =>
      show some c :: _ = (escC T c).map some ++ _
      have hc : c = 42 ∨ c = 63 ∨ c = 91 := ht
      rw [escC_self hT (c := c) (by lia)]
      rfl
    | lit c =>
      show ((escC T c).map Tk.lit).map semTk ++ _ = (escC T c).map some ++ _
      rw [List.map_map]
      rfl
theorem render_item {l : List Nat} : render (itemTk l) = itemPat l := by
  unfold itemTk itemPat
  split
  · rfl
  · induction l with
    | nil => rfl
    | cons c l ih =>
      rw [List.map_cons, render_cons, List.flatMap_cons]
      have ih' : render (l.map fun c => if c = 42 ∨ c = 63 ∨ c = 91 then Tk.brk c else Tk.lit c) = l.flatMap fun c => if c = 42 ∨ c = 63 ∨ c = 91 then [91, c, 93] else [c] := by
        by_cases hl : l = []
        · subst hl; rfl
        · exact ih hl
      rw [ih']
      split <;> rfl
theorem render_items : ∀ is : List (List Nat), render (itemsTk is) = patOf is
  | [] => rfl
  | l :: is => by
    show render (itemTk l ++ itemsTk is) = itemPat l ++ patOf is
    rw [render_append, render_item, render_items is]
theorem sem_items : ∀ is : List (List Nat), (itemsTk is).map semTk = patI is
  | [] => rfl
  | l :: is => by
    show (itemTk l ++ itemsTk is).map semTk = (if l = [] then [none] else l.map some) ++ patI is
    rw [List.map_append, sem_items is]
    congr 1
    unfold itemTk
    split
    · rfl
    · rw [List.map_map]
      refine List.map_congr_left fun c _ => ?_
      show semTk (if c = 42 ∨ c = 63 ∨ c = 91 then Tk.brk c else Tk.lit c) = some c
      split <;> rfl
theorem menu_ok : ∀ l ∈ menu, l.all (fun c => decide (c < 128)) = true ∧ (l = [] ∨ ∃ c ∈ l.head?, c ∉ inner) := by decide
theorem ok_items {is : List (List Nat)} (hm : ∀ l ∈ is, l ∈ menu) : ∀ t ∈ itemsTk is, okTk t := by
  intro t ht
  obtain ⟨l, hl, ht⟩ := List.mem_flatMap.mp ht
  have h1 := (menu_ok l (hm l hl)).1
  unfold itemTk at ht
  split at ht
  · rcases List.mem_singleton.mp ht with rfl; trivial
  · obtain ⟨c, hc, rfl⟩ := List.mem_map.mp ht
    rw [List.all_eq_true] at h1
    have h2 := h1 c hc
    rw [decide_eq_true_eq] at h2
    by_cases h : c = 42 ∨ c = 63 ∨ c = 91
    · rw [if_pos h]; exact h
    · rw [if_neg h]
      exact ⟨h2, by lia, by lia, by lia⟩
theorem starOk_lits (q : List (Option Nat)) : ∀ s : List Nat, starOk (s.map some ++ q) ↔ starOk q
  | [] => Iff.rfl
  | _ :: s => starOk_lits q s
theorem starOk_items : ∀ {is : List (List Nat)}, (∀ l ∈ is, l ∈ menu) → starOk (patI is)
  | [], _ => trivial
  | l :: is, hm => by
    have ih := starOk_items (is := is) fun k hk => hm k (List.mem_cons_of_mem _ hk)
    show starOk ((if l = [] then [none] else l.map some) ++ patI is)
    by_cases h : l = []
    · rw [if_pos h]
      refine ⟨fun c hc => ?_, ih⟩
      cases is with
      | nil => cases hc
      | cons k is =>
        have hk := (menu_ok k (hm k (by simp))).2
        have e : patI (k :: is) = (if k = [] then [none] else k.map some) ++ patI is := rfl
        have hc' : (patI (k :: is)).head? = some (some c) := hc
        rw [e] at hc'
        cases k with
        | nil => cases hc'
        | cons d k =>
          rw [if_neg (by simp)] at hc'
          have hdc : d = c := by simpa using hc'
          rcases hk with hk | ⟨c', h1, h2⟩
          · cases hk
          · have : d = c' := by simpa using h1
            rw [← hdc, this]; exact h2
    · rw [if_neg h, starOk_lits]
      exact ih
end
section
structure Fld where
  hn : Nat
  mark : Nat
  is : List (List Nat)
  text : List Nat
  texted : List Nat
noncomputable def okFld (f : Fld) : Prop := f.hn < 5 ∧ (∀ l ∈ f.is, l ∈ menu) ∧ f.is.length ≤ 5 ∧ f.text.length ≤ 40 ∧ f.texted.length ≤ 41 ∧ okMark (tab f.hn) f.mark = true ∧ f.mark < 128
noncomputable def joinF (x : List Nat) (f : Fld) : List Nat := esc (tab f.hn) x ++ [f.mark] ++ esc (tab f.hn) (patOf f.is)
noncomputable def joinAll (fs : List Fld) : List Nat := fs.foldl joinF []
noncomputable def joinTk (ts : List Tk) (f : Fld) : List Tk := ts.flatMap (escTk (tab f.hn)) ++ .lit f.mark :: (itemsTk f.is).flatMap (escTk (tab f.hn))
noncomputable def toksAll (fs : List Fld) : List Tk := fs.foldl joinTk []
noncomputable def spellF (w : List Nat) (q : Fld × List Nat) : List Nat := esc (tab q.1.hn) w ++ [q.1.mark] ++ esc (tab q.1.hn) q.2
noncomputable def spelledL (fxs : List (Fld × List Nat)) : List Nat := fxs.foldl spellF []

theorem mark_tok {f : Fld} (h : okFld f) : okTk (.lit f.mark) := by
  obtain ⟨h1, _, _, _, _, h6, h7⟩ := h
  have hT := tabs_tok f.hn h1
  have key : ∀ c, (c = 42 ∨ c = 63 ∨ c = 91) → f.mark ≠ c := by
    rintro c hc rfl
    unfold tokGood at hT
    rw [Bool.and_eq_true, List.all_eq_true] at hT
    have := hT.1 f.mark (by simp; lia)
    unfold okMark at h6
    rw [Option.isNone_iff_eq_none] at this
    rw [this] at h6
    simp at h6
  exact ⟨h7, key _ (.inl rfl), key _ (.inr (.inl rfl)), key _ (.inr (.inr rfl))⟩
theorem toks_step {f : Fld} (hf : okFld f) {ts : List Tk} (h : ∀ t ∈ ts, okTk t) : (∀ t ∈ joinTk ts f, okTk t) ∧ render (joinTk ts f) = joinF (render ts) f := by
  have hT := tabs_tok f.hn hf.1
  have hi := ok_items hf.2.1
  constructor
  · intro t ht
    unfold joinTk at ht
    rcases List.mem_append.mp ht with ht | ht
    · obtain ⟨u, hu, ht⟩ := List.mem_flatMap.mp ht
      exact ok_escTk hT (h u hu) t ht
    · rcases List.mem_cons.mp ht with rfl | ht
      · exact mark_tok hf
      · obtain ⟨u, hu, ht⟩ := List.mem_flatMap.mp ht
        exact ok_escTk hT (hi u hu) t ht
  · unfold joinTk joinF
    rw [render_append, render_cons, render_esc hT h, render_esc hT hi, render_items]
    simp [rTk]
theorem toks_fold : ∀ (fs : List Fld), (∀ f ∈ fs, okFld f) → ∀ ts : List Tk, (∀ t ∈ ts, okTk t) → (∀ t ∈ fs.foldl joinTk ts, okTk t) ∧ render (fs.foldl joinTk ts) = fs.foldl joinF (render ts)
  | [], _, ts, h => ⟨h, rfl⟩
  | f :: fs, hf, ts, h => by
    have h1 := toks_step (hf f (List.mem_cons_self ..)) h
    have h2 := toks_fold fs (fun g hg => hf g (List.mem_cons_of_mem _ hg)) _ h1.1
    rw [List.foldl_cons, List.foldl_cons, ← h1.2]
    exact h2
/-- the joined pattern is the text of its tokens -/
theorem toks_all (fs : List Fld) (h : ∀ f ∈ fs, okFld f) : (∀ t ∈ toksAll fs, okTk t) ∧ render (toksAll fs) = joinAll fs :=
  toks_fold fs h [] (fun _ h => by cases h)

noncomputable def partOf (q : Fld × List Nat) : Part := ⟨tab q.1.hn, q.1.mark, patI q.1.is, q.2⟩
theorem part_ok {q : Fld × List Nat} (h : okFld q.1) : (partOf q).ok := ⟨tabs_good _ h.1, h.2.2.2.2.2.1, starOk_items h.2.1⟩
theorem sem_fold : ∀ (fxs : List (Fld × List Nat)), (∀ q ∈ fxs, okFld q.1) → ∀ ts : List Tk, (∀ t ∈ ts, okTk t) → ((fxs.map (·.1)).foldl joinTk ts).map semTk = (fxs.map partOf).foldl joinPt (ts.map semTk)
  | [], _, ts, _ => rfl
  | q :: fxs, hf, ts, h => by
    have hq := hf q (List.mem_cons_self ..)
    have hT := tabs_tok q.1.hn hq.1
    have h1 := toks_step hq h
    rw [List.map_cons, List.foldl_cons, List.map_cons, List.foldl_cons, sem_fold fxs (fun g hg => hf g (List.mem_cons_of_mem _ hg)) _ h1.1]
    congr 1
    unfold joinTk joinPt partOf
    rw [List.map_append, List.map_cons, sem_escTk hT h, sem_escTk hT (ok_items hq.2.1), sem_items]
    rfl
theorem spell_fold : ∀ (fxs : List (Fld × List Nat)) (w : List Nat), fxs.foldl spellF w = (fxs.map partOf).foldl spellPt w
  | [], _ => rfl
  | q :: fxs, w => by
    rw [List.foldl_cons, List.map_cons, List.foldl_cons, spell_fold fxs]
    congr 1
    unfold spellF spellPt partOf
    simp
/-- THE PLAIN LAW: the joined pattern takes the joined text if and only if each field's pattern takes its text -/
theorem plain_law (fxs : List (Fld × List Nat)) (h : ∀ q ∈ fxs, okFld q.1) : takenL (piecesOf (toksAll (fxs.map (·.1)))) (spelledL fxs) = fxs.all fun q => fitsL q.1.is q.2 := by
  rw [Bool.eq_iff_iff, taken_toks]
  unfold toksAll spelledL
  rw [sem_fold fxs h [] (fun _ h => by cases h), spell_fold, List.map_nil, Mt_fold (fxs.map partOf) ?_ [] [] (show starOk [] from trivial)]
  · simp only [List.all_eq_true]
    constructor
    · rintro ⟨_, hh⟩ q hq
      exact (fits_iff _ _).mpr (hh (partOf q) (List.mem_map_of_mem hq))
    · intro hh
      refine ⟨rfl, fun f hf => ?_⟩
      obtain ⟨q, hq, rfl⟩ := List.mem_map.mp hf
      exact (fits_iff _ _).mp (hh q hq)
  · intro f hf
    obtain ⟨q, hq, rfl⟩ := List.mem_map.mp hf
    exact part_ok (h q hq)
end
section
open PySem.Calls PySem.Spec
section
variable {prog : Program} {w : World} {A : Around} {E : Value → Shared → Prop} {s : Shared} {h₀ : Heap} {L : Addr} {m : Str → Option Value} {env : Env}

/-- the turns of a comprehension by an invariant over the list made so far; a turn leaves the ledger -/
theorem comp_inv {elt : Expr} {x : Str} {scope : Scope} {cl : List (Str × Addr)} {S : List (Addr × Obj) → Prop} {P : Nat → Value → Prop} {Fin : List Value → List (Addr × Obj) → Prop} {news : List (Addr × Obj)} {n : Nat}
    (I : Nat → List Value → Prop) (h0 : I 0 [])
    (turn : ∀ i v ys a oa C oC D m₂ h tk (E' : Value → Shared → Prop), i < n → P i v → I i ys → LCg.NsObj oC m₂ → m₂ x = some v → Fr h₀ L h m → News h₀ L h ((a, oa) :: (C, oC) :: (D, LCg.lst ys) :: news) → LCg.Off3 a C D news → ((@Ne Nat a C) ∧ (@Ne Nat a D) ∧ (@Ne Nat C D)) →
      wpAny (model prog w) A (eval elt (compEnvC scope cl C env)) (LCg.CompEnd h₀ L m { s with heap := h, toks := tk } a oa C oC D (LCg.lst ys) S (fun y news' => news' = news ∧ I (i + 1) (ys ++ [y]))) E' { s with heap := h, toks := tk })
    (fin : ∀ ys, I n ys → Fin ys news) : LCg.CompRest prog w A h₀ L m env elt x scope cl s S P Fin n 0 [] news := by
  have key : ∀ (j i : Nat) (ys : List Value), i + j = n → I i ys → LCg.CompRest prog w A h₀ L m env elt x scope cl s S P Fin j i ys news := by
    intro j
    induction j with
    | zero =>
      intro i ys hi hy
      have e : i = n := by lia
      subst e
      exact LCg.CompRest.zero (fin ys hy)
    | succ j ih =>
      intro i ys hi hy
      refine LCg.CompRest.succ ?_
      intro v a oa C oC D m₂ h tk E' hv hC hx F N off ne
      refine wpAny_mono (turn i v ys a oa C oC D m₂ h tk E' (by lia) hv hy hC hx F N off ne) (fun y s₂ hq => ?_) fun _ _ e => e
      obtain ⟨h', tk', nw, e, F', N', off', hS, hn, hy'⟩ := hq
      subst hn
      exact ⟨h', tk', nw, e, F', N', off', hS, ih (i + 1) _ (by lia) hy'⟩
  exact key n 0 [] (by lia) h0
theorem comp_invT {ct elt : Expr} {x : Str} {scope : Scope} {cl : List (Str × Addr)} {S : List (Addr × Obj) → Prop} {P : Nat → Value → Prop} {Fin : List Value → List (Addr × Obj) → Prop} {news : List (Addr × Obj)} {n : Nat}
    (I : Nat → List Value → Prop) (h0 : I 0 [])
    (turn : ∀ i v ys a oa C oC D m₂ h tk (E' : Value → Shared → Prop), i < n → P i v → I i ys → LCg.NsObj oC m₂ → m₂ x = some v → Fr h₀ L h m → News h₀ L h ((a, oa) :: (C, oC) :: (D, LCg.lst ys) :: news) → LCg.Off3 a C D news → ((@Ne Nat a C) ∧ (@Ne Nat a D) ∧ (@Ne Nat C D)) →
      wpAny (model prog w) A (isTrue ct (compEnvC scope cl C env) (eval ct (compEnvC scope cl C env))) (fun ok s' => if ok = true then
        wpAny (model prog w) A (eval elt (compEnvC scope cl C env)) (LCg.CompEnd h₀ L m { s with heap := h, toks := tk } a oa C oC D (LCg.lst ys) S (fun y news' => news' = news ∧ I (i + 1) (ys ++ [y]))) E' s'
        else LCg.CompEnd h₀ L m { s with heap := h, toks := tk } a oa C oC D (LCg.lst ys) S (fun _ news' => news' = news ∧ I (i + 1) ys) Value.none s') E' { s with heap := h, toks := tk })
    (fin : ∀ ys, I n ys → Fin ys news) : LCt.CompRestT prog w A h₀ L m env ct elt x scope cl s S P Fin n 0 [] news := by
  have key : ∀ (j i : Nat) (ys : List Value), i + j = n → I i ys → LCt.CompRestT prog w A h₀ L m env ct elt x scope cl s S P Fin j i ys news := by
    intro j
    induction j with
    | zero =>
      intro i ys hi hy
      have e : i = n := by lia
      subst e
      exact LCt.CompRestT.zero (fin ys hy)
    | succ j ih =>
      intro i ys hi hy
      refine LCt.CompRestT.succ ?_
      intro v a oa C oC D m₂ h tk E' hv hC hx F N off ne
      refine wpAny_mono (turn i v ys a oa C oC D m₂ h tk E' (by lia) hv hy hC hx F N off ne) (fun ok s' hq => ?_) fun _ _ e => e
      cases ok with
      | true =>
        simp only [if_true] at hq ⊢
        refine wpAny_mono hq (fun y s₂ hq => ?_) fun _ _ e => e
        obtain ⟨h', tk', nw, e, F', N', off', hS, hn, hy'⟩ := hq
        subst hn
        exact ⟨h', tk', nw, e, F', N', off', hS, ih (i + 1) _ (by lia) hy'⟩
      | false =>
        simp only [Bool.false_eq_true, if_false] at hq ⊢
        obtain ⟨h', tk', nw, e, F', N', off', hS, hn, hy'⟩ := hq
        subst hn
        exact ⟨h', tk', nw, e, F', N', off', hS, ih (i + 1) _ (by lia) hy'⟩
  exact key n 0 [] (by lia) h0

theorem str_block {elt iter : Expr} {x : Str} {px : Pos} {scope : Scope} {cl : List (Str × Addr)} {pos : Pos} {s₁ : Shared} {xt : Str} {tx : Tok} {news : List (Addr × Obj)}
    {Fin : Shared → List Value → List (Addr × Obj) → Prop} {RR : Shared → Value → Addr → Result → Shared → Prop}
    (hh : A.handled = none) (hsz : xt.cps.size ≤ sizeLine) (hcell : ∀ y ∈ scope.names, y.2 ≠ .cell) (hkind : scope.kind = .function) (hx : scope.names.lookup x = some .local)
    (F : Fr h₀ L s₁.heap m) (N : News h₀ L s₁.heap news)
    (R : ∀ s₂ : Shared, (∃ h, s₂ = { s₁ with heap := h }) → LCg.CompRest prog w A h₀ L m env elt x scope cl s₂ (fun _ => True) (SignAt xt) (Fin s₂) xt.cps.size 0 [] news)
    (hRR : ∀ s₂ : Shared, (∃ h, s₂ = { s₁ with heap := h }) → ∀ D C h tk m' ys news', Fr h₀ L h m → News h₀ L h ((D, LCg.lst ys) :: news') → LCg.Off1 D news' → h.Ns C m' → h₀.get? C = none → h₀.get? D = none → C ≠ L → D ≠ L → C ≠ D → (∀ p ∈ news', p.1 ≠ C) → Fin s₂ ys news' → RR s₂ (.ref D) C (.ok .next) { s₂ with heap := h, toks := tk }) :
    wpAny (model prog w) A (pyIter (.str xt tx)) (fun it s₂ => wpAny (model prog w) A (newList []) (fun acc s₃ => wpAny (model prog w) A (newFunctionEnv scope env.globals cl [] env.qual none .none (some env)) (fun cenv s₄ =>
      codeAny (model prog w) A (.compStart (.ListComp elt [⟨.Name x px, iter, [], 0⟩] scope pos) 0 it acc { cenv with scope := relabel scope env }) (RR s₂ acc cenv.locals) s₄) E s₃) E s₂) E s₁ := by
  have up : ∀ (o : Obj) b o', s₁.heap.get? b = some o' → (s₁.heap.push o).get? b = some o' := fun _ b o' e => Heap.get?_push_of_some _ e
  have ho (h : Heap) (I : Addr) (cls : String) (i : Nat) (x : h.IsStrIter I cls xt tx i) : ∃ o, h.get? I = some o := by obtain ⟨o, e, _⟩ := x; exact ⟨o, e⟩
  cases ha : xt.cps.all (· < 128)
  · refine wpAny_pyIter_wide ha ?_
    have W := Walks.strWide (prog := prog) (w := w) (A := A) hh s₁.heap.objs.size xt tx
    refine LCg.block_U W hsz (fun i h st => ho h _ _ i st) (fun i h h' o nw st e e' _ _ _ => W.frame _ _ _ st fun b hb o' eo => ?_) hcell hkind hx ⟨_, Heap.get?_push_size _ rfl, rfl, rfl⟩ (fun b hb => ?_)
      (F.keeps (up _)) (N.grown (up _)) (Nat.ne_of_lt F.ns.lt) (next_is_new F) (fun p hp => Nat.ne_of_lt (Heap.lt_size (N p hp).1)) trivial (R _ ⟨_, rfl⟩) (hRR _ ⟨_, rfl⟩)
    · rcases List.mem_singleton.mp hb with rfl
      rw [e] at eo; rw [e', eo]
    · rw [List.mem_singleton.mp hb]
      show s₁.heap.objs.size < (s₁.heap.push _).objs.size
      rw [Heap.size_push]; exact Nat.lt_succ_self _
  · refine wpAny_pyIter_ascii ha ?_
    have W := Walks.strAscii (prog := prog) (w := w) (A := A) hh s₁.heap.objs.size xt tx
    refine LCg.block_U W hsz (fun i h st => ho h _ _ i st) (fun i h h' o nw st e e' _ _ _ => W.frame _ _ _ st fun b hb o' eo => ?_) hcell hkind hx ⟨_, Heap.get?_push_size _ rfl, rfl, rfl⟩ (fun b hb => ?_)
      (F.keeps (up _)) (N.grown (up _)) (Nat.ne_of_lt F.ns.lt) (next_is_new F) (fun p hp => Nat.ne_of_lt (Heap.lt_size (N p hp).1)) trivial (R _ ⟨_, rfl⟩) (hRR _ ⟨_, rfl⟩)
    · rcases List.mem_singleton.mp hb with rfl
      rw [e] at eo; rw [e', eo]
    · rw [List.mem_singleton.mp hb]
      show s₁.heap.objs.size < (s₁.heap.push _).objs.size
      rw [Heap.size_push]; exact Nat.lt_succ_self _

noncomputable def SrcS (prog : Program) (w : World) (A : Around) (h₀ : Heap) (L : Addr) (m : Str → Option Value) (env : Env) (elt : Expr) (x : Str) (scope : Scope) (cl : List (Str × Addr)) (Fin : Shared → List Value → List (Addr × Obj) → Prop) (xv : Value) (s₁ : Shared) : Prop :=
  ∃ xt tx news, xv = .str xt tx ∧ A.handled = none ∧ Fr h₀ L s₁.heap m ∧ News h₀ L s₁.heap news ∧ xt.cps.size ≤ sizeLine ∧
    ∀ s₂ : Shared, (∃ h, s₂ = { s₁ with heap := h }) → LCg.CompRest prog w A h₀ L m env elt x scope cl s₂ (fun _ => True) (SignAt xt) (Fin s₂) xt.cps.size 0 [] news

theorem SrcS.intro {elt : Expr} {x : Str} {scope : Scope} {cl : List (Str × Addr)} {Fin : Shared → List Value → List (Addr × Obj) → Prop} {xt : Str} {tx : Tok} {news : List (Addr × Obj)} {s₁ : Shared}
    (hh : A.handled = none) (F : Fr h₀ L s₁.heap m) (N : News h₀ L s₁.heap news) (hsz : xt.cps.size ≤ 16777216)
    (h : ∀ g, LCg.CompRest prog w A h₀ L m env elt x scope cl { s₁ with heap := g } (fun _ => True) (SignAt xt) (Fin { s₁ with heap := g }) xt.cps.size 0 [] news) :
    SrcS prog w A h₀ L m env elt x scope cl Fin (.str xt tx) s₁ := ⟨xt, tx, news, rfl, hh, F, N, by rw [sizeLine_eq]; exact hsz, fun _ ⟨g, e⟩ => e ▸ h g⟩
theorem ListComp_str {elt iter : Expr} {x : Str} {px : Pos} {scope : Scope} {cl : List (Str × Addr)} {pos : Pos} {Q : Value → Shared → Prop} (F₀ : Fr h₀ L s.heap m)
    (hclos : closureFor scope env = pure cl) (hcell : ∀ y ∈ scope.names, y.2 ≠ .cell) (hkind : scope.kind = .function)
    (hnames : ∀ y ∈ scope.names, y.2 = .local → scope.names.lookup y.1 = some .local) (hx : scope.names.lookup x = some .local)
    (h : wpAny (model prog w) A (eval iter env) (SrcS prog w A h₀ L m env elt x scope cl (fun s₂ => LCg.FinE h₀ L m s₂ Q)) E s)
    (hs : ∀ x, foldedSetIterable iter env x = pure x := by intro _; rfl) :
    wpAny (model prog w) A (eval (.ListComp elt [⟨.Name x px, iter, [], 0⟩] scope pos) env) Q E s := by
  rw [eval_ListComp]
  refine wpAny_comprehension_free (use := none) rfl hs hclos hkind hnames (wpAny_mono h (fun xv s₁ h₁ => ?_) fun _ _ e => e)
  obtain ⟨xt, tx, news, rfl, hh, F, N, hsz, R⟩ := h₁
  refine str_block hh hsz hcell hkind hx F N R (RR := fun _ => compPost (model prog w) A E none Q) ?_
  intro s₂ _ D C h tk m' ys news' F' N' o1 hn hC₀ hD₀ hCL hDL hCD offC fin
  refine ⟨m', hn, fun h'' hs'' => fin D h'' tk (F'.change hs'' hCL hC₀) (fun p hp => ?_) o1⟩
  refine ⟨hs''.extBut _ _ ?_ (N' p hp).1, (N' p hp).2⟩
  rcases List.mem_cons.mp hp with rfl | hp
  · exact Ne.symm hCD
  · exact offC p hp
end
end
section
open PySem.Calls PySem.Spec
section
variable {prog : Program} {w : World} {A : Around} {E : Value → Shared → Prop} {s : Shared} {h₀ : Heap} {L : Addr} {m : Str → Option Value} {env : Env}
noncomputable abbrev skd (prog : Program) (w : World) := PySem.strKind prog w
noncomputable abbrev DictP (prog : Program) (w : World) (kvs : List (Str × Value)) : Nat → Value → Prop := fun i v => ∃ k y, kvs[i]? = some (k, y) ∧ (PySem.strKind prog w).is k v = true
noncomputable def SrcDT (prog : Program) (w : World) (A : Around) (h₀ : Heap) (L : Addr) (m : Str → Option Value) (env : Env) (ct elt : Expr) (x : Str) (scope : Scope) (cl : List (Str × Addr)) (Fin : Shared → List Value → List (Addr × Obj) → Prop) (xv : Value) (s₁ : Shared) : Prop :=
  ∃ d o kvs news, xv = .ref d ∧ (d == sysModules) = false ∧ A.handled = none ∧ Fr h₀ L s₁.heap m ∧ News h₀ L s₁.heap news ∧ (d, o) ∈ news ∧ o.IsDictOf (PySem.strKind prog w) kvs ∧ kvs.length ≤ sizeLine ∧
    ∀ s₂ : Shared, (∃ h, s₂ = { s₁ with heap := h }) → LCt.CompRestT prog w A h₀ L m env ct elt x scope cl s₂ (fun nw => (d, o) ∈ nw) (DictP prog w kvs) (Fin s₂) kvs.length 0 [] news
theorem SrcDT.intro {ct elt : Expr} {x : Str} {scope : Scope} {cl : List (Str × Addr)} {Fin : Shared → List Value → List (Addr × Obj) → Prop} {d : Addr} {o : Obj} {kvs : List (Str × Value)} {news : List (Addr × Obj)} {s₁ : Shared}
    (lo : (d == sysModules) = false) (hh : A.handled = none) (F : Fr h₀ L s₁.heap m) (N : News h₀ L s₁.heap news) (hm : (d, o) ∈ news) (hd : o.IsDictOf (PySem.strKind prog w) kvs) (hsz : kvs.length ≤ 16777216)
    (h : ∀ g, LCt.CompRestT prog w A h₀ L m env ct elt x scope cl { s₁ with heap := g } (fun nw => (d, o) ∈ nw) (DictP prog w kvs) (Fin { s₁ with heap := g }) kvs.length 0 [] news) :
    SrcDT prog w A h₀ L m env ct elt x scope cl Fin (.ref d) s₁ := ⟨d, o, kvs, news, rfl, lo, hh, F, N, hm, hd, by rw [sizeLine_eq]; exact hsz, fun _ ⟨g, e⟩ => e ▸ h g⟩

set_option linter.unusedVariables false in
theorem Assign_ListComp_dictT {ct elt iter : Expr} {x y : Str} {px py : Pos} {scope : Scope} {cl : List (Str × Addr)} {pos spos : Pos} {Q : Flow → Shared → Prop} (F₀ : Fr h₀ L s.heap m) (hLe : env.locals = L)
    (hsw : swapsWith (.ListComp elt [⟨.Name x px, iter, [ct], 0⟩] scope pos) (some (.Name y py)) spos.line env = pure true)
    (hclos : closureFor scope env = pure cl) (hcell : ∀ z ∈ scope.names, z.2 ≠ .cell) (hkind : scope.kind = .function)
    (hnames : ∀ z ∈ scope.names, z.2 = .local → scope.names.lookup z.1 = some .local) (hx : scope.names.lookup x = some .local)
    (hy : env.kindOf y = some .local) (hp : (env.scope.kind == .class || (env.scope.kind == .module && env.locals != env.globals)) = false)
    (h : wpAny (model prog w) A (eval iter env) (SrcDT prog w A h₀ L m env ct elt x scope cl (fun s₂ => LCg.FinA h₀ L m s₂ y Q)) E s)
    (hs : ∀ x, foldedSetIterable iter env x = pure x := by intro _; rfl) :
    wpAny (model prog w) A (exec (.Assign [.Name y py] (.ListComp elt [⟨.Name x px, iter, [ct], 0⟩] scope pos) spos) env) Q E s := by
  subst hLe
  rw [exec_Assign_Name_used _ _ _ _ hsw]
  refine wpAny_bind (wpAny_standAt (wpAny_bind ?_))
  show wpAny _ A (do let _ ← comprehension (.ListComp elt [⟨.Name x px, iter, [ct], 0⟩] scope pos) scope env _ (newList []) false (eval iter env) (some (assign (.Name y py) env))) _ _ s
  refine wpAny_bind (wpAny_mono (wpAny_comprehension_free (use := some (assign (.Name y py) env)) (Q := fun _ s' => Q .next s') rfl hs hclos hkind hnames
    (wpAny_mono h (fun xv s₁ h₁ => ?_) fun _ _ e => e)) (fun _ s' hq => wpAny_pure (wpAny_pure hq)) fun _ _ e => e)
  obtain ⟨d, o, kvs, news, rfl, lo, hh, F, N, hm, hd, hsz, R⟩ := h₁
  obtain ⟨ep, ha⟩ := KdkAt.of hd
  have hDA : s₁.heap.DictAt (PySem.strKind prog w) d kvs ep := ha.dictAt (N _ hm).1
  have hlt : d < s₁.heap.objs.size := Heap.lt_size (N _ hm).1
  refine wpAny_pyIter_dict lo hDA ?_
  have up : ∀ (oo : Obj) b o', s₁.heap.get? b = some o' → (s₁.heap.push oo).get? b = some o' := fun _ b o' e => Heap.get?_push_of_some _ e
  refine LCt.block_T (S := fun nw => (d, o) ∈ nw) (Walks.dictKeys hh s₁.heap.objs.size d (Nat.ne_of_lt hlt) kvs ep) hsz (fun i h st => by obtain ⟨o, e, _⟩ := st.1; exact ⟨o, e⟩)
    (fun i h h' o' nw st e e' _ N' hS => ⟨by obtain ⟨o2, e2, r⟩ := st.1; rw [e] at e2; cases e2; exact ⟨_, e', r⟩, ha.dictAt (N' _ hS).1⟩) hcell hkind hx ⟨⟨_, Heap.get?_push_size _ rfl, rfl, rfl⟩, ha.dictAt (up _ _ _ (N _ hm).1)⟩ (fun b hb => ?_)
      (F.keeps (up _)) (N.grown (up _)) (Nat.ne_of_lt F.ns.lt) (next_is_new F) (fun p hp => Nat.ne_of_lt (Heap.lt_size (N p hp).1)) hm (R _ ⟨_, rfl⟩) ?_
  · show b < (s₁.heap.push _).objs.size
    rw [Heap.size_push]
    rcases List.mem_cons.mp hb with rfl | hb
    · exact Nat.lt_succ_self _
    · rw [List.mem_singleton.mp hb]; exact Nat.lt_succ_of_lt hlt
  · intro D C h' tk m' ys news' F' N' o1 hn hC₀ hD₀ hCL hDL hCD offC fin
    show wpAny _ A (assign (.Name y py) env (.ref D)) _ _ _
    refine wpAny_assign_Name (wpAny_storeName_local hy F'.ns (fun h₂ hn₂ hs₂ => ?_) hp)
    have hL₀ : h₀.get? env.locals = none := Heap.get?_none_of_le F'.above
    have F₂ : Fr h₀ env.locals h₂ (fun z => if z = y then some (.ref D) else m z) := ⟨hn₂, fun b o e => hs₂.extBut b o (fun q => by rw [q, hL₀] at e; cases e) (F'.keep b o e), F'.above⟩
    refine ⟨m', hn.sameBut hs₂ hCL, fun h'' hs'' => fin D h'' _ (F₂.change hs'' hCL hC₀) (fun p hp => ?_) o1⟩
    have z : h₂.get? p.1 = some p.2 := hs₂.extBut _ _ (N' p hp).2.1 (N' p hp).1
    refine ⟨hs''.extBut _ _ ?_ z, (N' p hp).2⟩
    rcases List.mem_cons.mp hp with rfl | hp
    · exact Ne.symm hCD
    · exact offC p hp
end
/-- the pairs of a table, as they stand in a dict -/
inductive KvT : List (Str × Value) → List (Nat × List Nat) → Prop
  | nil : KvT [] []
  | cons {kvs T} (k : Nat) (v : List Nat) (t : Tok) : KvT kvs T → KvT ((S [k], .str (S v) t) :: kvs) ((k, v) :: T)
theorem KvT.len {kvs T} (h : KvT kvs T) : kvs.length = T.length := by
  induction h with
  | nil => rfl
  | cons _ _ _ _ ih => simp [ih]
theorem KvT.at {kvs T} (h : KvT kvs T) : ∀ {i : Nat} {k : Str} {y : Value}, kvs[i]? = some (k, y) → ∃ c v t, T[i]? = some (c, v) ∧ k = S [c] ∧ y = .str (S v) t := by
  induction h with
  | nil => intro i k y h; simp at h
  | cons c v t _ ih =>
    intro i k y h
    cases i with
    | zero =>
      simp at h
      exact ⟨c, v, t, rfl, h.1.symm, h.2.symm⟩
    | succ i => exact ih (by simpa using h)
theorem KvT.value {kvs T} (h : KvT kvs T) (c : Nat) : (T.lookup c = none ∧ valueAt kvs (S [c]) = none) ∨ ∃ v t, T.lookup c = some v ∧ valueAt kvs (S [c]) = some (.str (S v) t) := by
  induction h with
  | nil => exact .inl ⟨rfl, rfl⟩
  | @cons kvs T k v t _ ih =>
    by_cases hck : c = k
    · subst hck
      exact .inr ⟨v, t, by simp [List.lookup], by simp [valueAt]⟩
    · have e1 : List.lookup c ((k, v) :: T) = List.lookup c T := by
        have : (c == k) = false := by simpa using hck
        rw [List.lookup_cons, this]
      have e2 : valueAt ((S [k], Value.str (S v) t) :: kvs) (S [c]) = valueAt kvs (S [c]) := by
        have hne : ¬ S [k] = S [c] := fun e => hck (by have := S_inj e; simpa using this.symm)
        simp [valueAt, hne]
      rw [e1, e2]
      exact ih
theorem KvT.of_flat : ∀ {T : List (Nat × List Nat)} {kvs : List (Str × Value)}, PyProof.V.FlatPairs PyData.str kvs (T.map fun p => (PyData.str (S [p.1]), PyData.str (S p.2))) → KvT kvs T
  | [], kvs, h => by cases h; exact .nil
  | (k, v) :: T, kvs, h => by
    generalize hD : ((k, v) :: T).map (fun p => (PyData.str (S [p.1]), PyData.str (S p.2))) = D at h
    cases h with
    | nil => cases hD
    | cons f r =>
      rw [List.map_cons] at hD
      injection hD with h1 h2
      injection h1 with h3 h4
      subst h2 h4
      injection h3 with h3
      subst h3
      obtain ⟨t, rfl⟩ := f.str_inv
      exact .cons k v t (KvT.of_flat r)
noncomputable def TabO (w : World) (o : Obj) (T : List (Nat × List Nat)) : Prop := ∃ kvs, o.IsDictOf (PySem.strKind PG w) kvs ∧ KvT kvs T
end
section
noncomputable abbrev tupO (vs : List Value) (n : Nat) : Obj := { cls := .type "tuple", data := .seq vs.toArray n }
/-- a field's tuple in the ledger -/
noncomputable def FldAt (w : World) (news : List (Addr × Obj)) (a : Addr) (f : Fld) : Prop := okFld f ∧ ∃ (th tm tt tx : Tok) (aT lI : Addr) (n6 nn : Nat) (us : List Value) (oT : Obj),
  (a, tupO [.int f.hn th, .ref aT, .str (S [f.mark]) tm, .ref lI, .str (S f.text) tt, .str (S f.texted) tx] n6) ∈ news ∧ (lI, listOf us.toArray nn) ∈ news ∧ StrsAre us (f.is.map S) ∧ (aT, oT) ∈ news ∧ TabO w oT (tab f.hn) ∧ (aT == sysModules) = false
theorem FldAt.mono {w : World} {n1 n2 : List (Addr × Obj)} {a : Addr} {f : Fld} (h : FldAt w n1 a f) (hs : ∀ p ∈ n1, p ∈ n2) : FldAt w n2 a f := by
  obtain ⟨h0, th, tm, tt, tx, aT, lI, n6, nn, us, oT, m1, m2, m3, m4, m5, m6⟩ := h
  exact ⟨h0, th, tm, tt, tx, aT, lI, n6, nn, us, oT, hs _ m1, hs _ m2, m3, hs _ m4, m5, m6⟩
end
section
open PySem.Calls PySem.Spec

local macro_rules | `(tactic| walk_at "my pad") => `(tactic| skip)
local macro_rules | `(tactic| walk_at "call ref") => `(tactic| refine PauseK.o 0 ?_)

set_option linter.unusedVariables false in
theorem c153 (w : World) (p : Program) (loose : List Str) (mean : ExcName → Option Value) (mg mb : Str → Option Value) (news : List (Addr × Obj)) (x : Str) (t th tm tt tx : Tok) (hn : Nat) (aF aT lI : Addr) (n6 nn : Nat) (mk : Nat) (txt1 txt2 : Str) (us : List Value) (is : List (List Nat))
  (hh : hn < 5) (hx : x.length ≤ 10000) (hF : (aF, tupO [.int hn th, .ref aT, .str (S [mk]) tm, .ref lI, .str txt1 tt, .str txt2 tx] n6) ∈ news)
  (hI : (lI, listOf us.toArray nn) ∈ news) (hs : StrsAre us (is.map S)) (hm : ∀ l ∈ is, l ∈ menu) (hlen : is.length ≤ 5) :
  CallS w p loose mean mg mb 153 news [.str x t, .ref aF] (fun v => ∃ y t', v = .str y t' ∧ y = S (esc (tab hn) x.cps.toList ++ [mk] ++ esc (tab hn) (patOf is)) ∧ y.length ≤ 6 * x.length + 301) 3 := by
  w_top off
  intro dp un gd cn cs a ccd cl outer A₀ base h₀ L m s Q E B F X N T hk hd hu hret
  refine wpAny_call ?_
  k_dflt cell_enter
  (k_steps; repeat' ((first | ((with_reducible refine PauseK.mk (n := 0) ?_); with_reducible (k_here; with_unfolding_all (refine' useS ‹_› ‹_› ‹_› ‹_› ‹_› (by first | exact rfl | assumption) (c146 _ _ _ _ _ _ _ _ _ _ _ ‹_› ‹_› ‹_› ‹_›) (by ktr_room) (by ktr_units) ?_); (intro v' h' tk' hR' F' N'; obtain ⟨y', t', hv', hy', hl'⟩ := hR'; subst hv'; (try dsimp only); (try k_fold)))) | ((with_reducible refine PauseK.mk (n := 0) ?_); with_reducible (k_here; with_unfolding_all (refine' useS ‹_› ‹_› ‹_› ‹_› ‹_› (by first | exact rfl | assumption) (c127 _ _ _ _ _ _ _ _ _ _ _ ‹_› (by (show Str.length _ ≤ _; lia))) (by ktr_room) (by ktr_units) ?_); (intro v' h' tk' hR' F' N'; obtain ⟨y', t', hv', hy', hl'⟩ := hR'; subst hv'; (try dsimp only); (try k_fold))))); k_steps))
  subst_vars
  refine hret _ _ _ ⟨_, _, rfl, by rw [S_cps, S_app, S_app], ?_⟩ (by assumption) (by assumption)
  simp only [S_len, S_cps, List.length_append, List.length_cons, List.length_nil] at *
  lia
end
section
open PySem.Calls PySem.Spec


noncomputable def DS : List (Int × PyData) := specials.map fun (c : Nat) => (((c : Nat) : Int), PyData.str ⟨#[92, c]⟩)


theorem keyed87 {w : World} {h : Heap} (X : (hd.heap_39 w.params).In h) : KTD.Keyed h 87 DS := kt_keyed_in X (by rfl)

theorem lookupDS (c : Nat) : Spec.lookup (PyData.int (c : Int)) (DS.map fun p => (PyData.int p.1, p.2)) = if c ∈ specials then some (PyData.str ⟨#[92, c]⟩) else none := by
  rw [KTD.lookup_keyed]
  unfold DS
  generalize specials = l
  induction l with
  | nil => rfl
  | cons d l ih =>
    show (if decide ((c : Int) = (d : Int)) = true then some (PyData.str ⟨#[92, d]⟩) else KTD.datumAt _ _) = _
    by_cases h : c = d
    · subst h; simp
    · have h' : ¬ (c : Int) = (d : Int) := by lia
      rw [if_neg (by simpa using h'), ih]
      simp [h]

section
variable {w : World} {A : Around} {E : Value → Shared → Prop} {s : Shared} {h₀ : Heap}
theorem tabLook {Q : Builtin.Str.Mapped → Shared → Prop} (hA : A.handled = none) (K : KTD.Keyed h₀ 87 DS) (hk : ∀ b o, h₀.get? b = some o → s.heap.get? b = some o) (c : Nat)
    (h : ∀ h' tk', (∀ b o, s.heap.get? b = some o → h'.get? b = some o) → Q (if c ∈ specials then .text ⟨#[92, c]⟩ else .keep) { s with heap := h', toks := tk' }) :
    wpAny (model PG w) A (Builtin.Str.tableLookup (.ref 87) c) Q E s := by
  unfold Builtin.Str.tableLookup
  refine wpAny_bind (wpAny_attempt ?_)
  refine wpAny_bind (wpAny_mkInt ?_)
  have K' := (K.keep hk) PG w
  obtain ⟨lo, kvs, hd, hf⟩ := K'
  have hl := lookupDS c
  by_cases hc : c ∈ specials
  · rw [if_pos hc] at h
    rw [if_pos hc] at hl
    obtain ⟨v, hv, hfl⟩ := hf.of_lookup PyProof.V.same_int hl
    refine wpAny_getItem_of (knd := intKind PG w) (k := (c : Int)) (intKind_is PG w _ _) hd.mapOf hv ?_
    obtain ⟨t, rfl⟩ := hfl.str_inv
    exact wpAny_bind (wpAny_pure (wpAny_bind (wpAny_pure (wpAny_pure (h _ _ fun _ _ x => x)))))
  · rw [if_neg hc] at h
    rw [if_neg hc] at hl
    refine wpAny_getItem_missing_of (knd := intKind PG w) (k := (c : Int)) (intKind_is PG w _ _) lo hA hd.mapOf (hf.none_of_lookup PyProof.V.same_int hl) ?_
    intro h' e hn
    dsimp only
    obtain ⟨ob, t, he, hc', hd'⟩ := hn.there
    refine wpAny_bind (wpAny_isInstance (T := "KeyError") (b := true) ⟨ob, he, hc'⟩ (by rw [isSubtype_type]; kernel_rfl) ?_)
    exact wpAny_bind (wpAny_rule (wpAny_pure (h _ _ hn.keeps)))

theorem tabLook_in {Q : Builtin.Str.Mapped → Shared → Prop} (hA : A.handled = none) (K : KTD.Keyed h₀ 87 DS) (c : Nat) (hc : c ∈ specials) (hk : ∀ b o, h₀.get? b = some o → s.heap.get? b = some o)
    (h : ∀ h' tk', (∀ b o, s.heap.get? b = some o → h'.get? b = some o) → Q (.text ⟨#[92, c]⟩) { s with heap := h', toks := tk' }) :
    wpAny (model PG w) A (Builtin.Str.tableLookup (.ref 87) c) Q E s := tabLook hA K hk c fun h' tk' x => by rw [if_pos hc]; exact h h' tk' x
theorem tabLook_out {Q : Builtin.Str.Mapped → Shared → Prop} (hA : A.handled = none) (K : KTD.Keyed h₀ 87 DS) (c : Nat) (hc : c ∉ specials) (hk : ∀ b o, h₀.get? b = some o → s.heap.get? b = some o)
    (h : ∀ h' tk', (∀ b o, s.heap.get? b = some o → h'.get? b = some o) → Q .keep { s with heap := h', toks := tk' }) :
    wpAny (model PG w) A (Builtin.Str.tableLookup (.ref 87) c) Q E s := tabLook hA K hk c fun h' tk' x => by rw [if_neg hc]; exact h h' tk' x

theorem translate1 {Q : Value → Shared → Prop} (hA : A.handled = none) (K : KTD.Keyed h₀ 87 DS) (hk : ∀ b o, h₀.get? b = some o → s.heap.get? b = some o) (c : Nat) (hc : c < 128) (t : Tok)
    (h : ∀ t' h' tk', (∀ b o, s.heap.get? b = some o → h'.get? b = some o) → Q (.str (S (escRe c)) t') { s with heap := h', toks := tk' }) :
    wpAny (model PG w) A (call (.builtin "str.translate") [.str (S [c]) t, .ref 87]) Q E s := by
  refine wpAny_call_entry F.slot_str_translate (typeIs_str _ _ _) F.entry_str_translate ?_ (F.args_str_translate_2 _ _)
  have hA1 : A.in1.handled = none := hA
  have hall : (S [c]).cps.all (fun x => decide (x < 128)) = true := by simp [hc]
  by_cases hs : c ∈ specials
  · unfold Builtin.«str.translate»
    have e1 : escRe c = [92, c] := if_pos hs
    repeat (first
      | ((with_reducible show wpAny _ _ (Builtin.Str.tableLookup _ _) _ _ _); refine tabLook_in hA1 K c hs ?_ ?_; · first | exact hk | exact fun b o x => hk9 b o (hk b o x)
         intro h9 tk9 hk9)
      | with_reducible (first | refine wpAny_pure ?_ | refine wpAny_bind ?_ | refine wpAny_holding ?_ | refine wpAny_rule ?_ | refine wpAny_mkStr' ?_)
      | ((with_reducible apply wpAny_ite_true); focus (first | rfl | exact decide_eq_true hall))
      | ((with_reducible apply wpAny_ite_false); focus rfl)
      | wp_delta
      | wp_step)
    rw [e1] at h
    refine ⟨_, rfl, ?_⟩
    rename_i h8 tk8 hk8
    exact h _ _ _ fun b o x => hk9 b o (hk8 b o x)
  · unfold Builtin.«str.translate»
    have e1 : escRe c = [c] := if_neg hs
    repeat (first
      | ((with_reducible show wpAny _ _ (Builtin.Str.tableLookup _ _) _ _ _); refine tabLook_out hA1 K c hs ?_ ?_; · first | exact hk | exact fun b o x => hk9 b o (hk b o x)
         intro h9 tk9 hk9)
      | with_reducible (first | refine wpAny_pure ?_ | refine wpAny_bind ?_ | refine wpAny_holding ?_ | refine wpAny_rule ?_ | refine wpAny_mkStr' ?_)
      | ((with_reducible apply wpAny_ite_true); focus (first | rfl | exact decide_eq_true hall))
      | ((with_reducible apply wpAny_ite_false); focus rfl)
      | wp_delta
      | wp_step)
    rw [e1] at h
    exact ⟨_, rfl, h _ _ _ (by assumption)⟩
end
end
section
open PySem.Calls PySem.Spec

local macro_rules | `(tactic| walk_at "my pad") => `(tactic| skip)
theorem gm_translate {M : Model} {A : Around} {E : Value → Shared → Prop} {s : Shared} {x : Str} {t : Tok} {pl : Sem Bool} {Q : Value × List Value → Shared → Prop} (h : Q (.builtin "str.translate", [.str x t]) s) :
    wpAny M A (getMethod (.str x t) (Str.ofString "translate") pl) Q E s := by
  have hn : ∀ a, Value.str x t = .ref a → ∃ o, s.heap.get? a = some o ∧ o.dict = none := fun _ e => by cases e
  with_reducible exact getMethod_builtin (typeIs_str _ _ _) F.plainAttrs_str F.slot_str_translate F.type_str_translate hn h
theorem translate1_K {w : World} {A : Around} {E : Value → Shared → Prop} {s : Shared} {h₀ : Heap} {L : Addr} {m : Str → Option Value} {news : List (Addr × Obj)} {Q : Value → Shared → Prop} (hA : A.handled = none) (X : (hd.heap_39 w.params).In h₀)
    (F : Fr h₀ L s.heap m) (N : News h₀ L s.heap news) (c : Nat) (hc : c < 128) (t : Tok)
    (h : ∀ t' h' tk', Fr h₀ L h' m → News h₀ L h' news → Q (.str (S (escRe c)) t') { s with heap := h', toks := tk' }) :
    wpAny (model PG w) A (call (.builtin "str.translate") [.str (S [c]) t, .ref 87]) Q E s :=
  translate1 hA (keyed87 X) F.keep c hc t fun t' h' tk' hk => h t' h' tk' (F.grownK hk) (N.grown hk)

local macro_rules | `(tactic| walk_at "getMethod str") => `(tactic| refine PauseK.o 0 ?_)
local macro_rules | `(tactic| walk_at "call builtin:str.translate") => `(tactic| refine PauseK.o 1 ?_)

set_option linter.unusedVariables false in
theorem c97 (w : World) (p : Program) (loose : List Str) (mean : ExcName → Option Value) (mg mb : Str → Option Value) (news : List (Addr × Obj)) (c : Nat) (hc : c < 128) (t : Tok) :
  CallS w p loose mean mg mb 97 news [.str (S [c]) t] (fun v => ∃ t', v = .str (S (escRe c)) t') 1 := by
  w_top off
  intro dp un gd cn cs a ccd cl outer A₀ base h₀ L m s Q E B F X N T hk hd hu hret
  refine wpAny_call ?_
  k_dflt cell_enter
  (k_steps; repeat' ((first | ((with_reducible refine PauseK.mk (n := 0) ?_); with_reducible (k_here; with_reducible refine gm_translate ?_; (try dsimp only))) | ((with_reducible refine PauseK.mk (n := 1) ?_); with_reducible (k_here; k_dflt (refine' translate1_K (by exact rfl) (by k_asm) ‹_› ‹_› _ ‹_› _ ?_); ((rename Fr _ _ _ _ => lF'); (rename News _ _ _ _ => lN'); clear lF' lN'; intros; (try dsimp only))))); k_steps))
  exact hret _ _ _ ⟨_, rfl⟩ (by assumption) (by assumption)
end
section
open PySem.Calls PySem.Spec

noncomputable abbrev boundO (l : Addr) : Obj := { cls := .type "builtin_function_or_method", data := .fields #[.builtin "list.append", .ref l] }

theorem md_get : typeLookup (.type "method_descriptor") (Str.ofString "__get__") = pure (some (.builtin "method_descriptor.__get__")) := by rw [typeLookup_type, builtinLookup_eq_fast]; kernel_rfl
theorem md_set : typeLookup (.type "method_descriptor") (Str.ofString "__set__") = pure none := by rw [typeLookup_type, builtinLookup_eq_fast]; kernel_rfl
theorem md_del : typeLookup (.type "method_descriptor") (Str.ofString "__delete__") = pure none := by rw [typeLookup_type, builtinLookup_eq_fast]; kernel_rfl
theorem md_slot : Slot "method_descriptor" "__get__" "method_descriptor.__get__" :=
  .of (owner := "method_descriptor") (n := "__get__") md_get (by decide +kernel) (by decide +kernel) (by decide +kernel)
    (by first | exact .inl (by decide +kernel) | exact .inr (by decide +kernel)) (by rw [isSubtype_type]; kernel_rfl)
theorem md_entry : entryFor table "method_descriptor.__get__" = some Builtin.«method_descriptor.__get__» := entryFor_of_tree (by kernel_rfl)
theorem md_args (a b c : Value) : argsOk "method_descriptor.__get__" ⟨[a, b, c], []⟩ := by unfold argsOk; kernel_rfl
theorem md_meets (a : Addr) (xs : Array Value) (k : Nat) (sl : Array (Option Value)) :
    Meets (Builtin.«method_descriptor.__get__» ⟨[.builtin "list.append", .ref a, .type "list"], []⟩) (fun A R s => s.heap.get? a = some { cls := .type "list", dict := none, data := .seq xs k, slots := sl } ∧ ∀ tk, R (.ok (.ret (.ref s.heap.objs.size))) { s with heap := s.heap.push (boundO a), toks := tk }) :=
  Meets.of_wp fun prog w A R s hs => by
    obtain ⟨hp, g, d, tk, os⟩ := s
    obtain ⟨hx, hs⟩ := hs
    have hT : (⟨hp, g, d, tk, os⟩ : Shared).TypeIs (.ref a) "list" := ⟨_, hx, rfl⟩
    have f2 := F.type_list_append
    have f6 : isSubtype (Value.type "list") (Value.type (".".intercalate ("list.append".cutAt '.').dropLast)) = pure true := by
      have e : (".".intercalate ("list.append".cutAt '.').dropLast) = "list" := by decide +kernel
      rw [e, isSubtype_type]; kernel_rfl
    unfold Builtin.«method_descriptor.__get__»
    repeat (any_goals (first | assumption | wp_step))
    exact ⟨_, rfl, hs _⟩

theorem ga_append (a : Addr) (xs : Array Value) (k : Nat) (sl : Array (Option Value)) (u : Tok) :
    Meets (Builtin.«object.__getattribute__» ⟨[.ref a, .str (Str.ofString "append") u], []⟩) (fun A R s => s.heap.get? a = some { cls := .type "list", dict := none, data := .seq xs k, slots := sl } ∧ ∀ tk, R (.ok (.ret (.ref s.heap.objs.size))) { s with heap := s.heap.push (boundO a), toks := tk }) :=
  Meets.of_wp fun prog w A R s hs => by
    obtain ⟨hp, g, d, tk, os⟩ := s
    obtain ⟨hx, hs⟩ := hs
    have hT : (⟨hp, g, d, tk, os⟩ : Shared).TypeIs (.ref a) "list" := ⟨_, hx, rfl⟩
    have f1 := F.slot_list_append.lookup
    have f2 := F.type_list_append
    have f3 := md_get
    have f4 := md_set
    have f5 := md_del
    unfold Builtin.«object.__getattribute__»
    repeat (any_goals (first | assumption | ((with_reducible show wpAny _ _ (call (Value.builtin "method_descriptor.__get__") _ _) _ _ _); refine call_meets md_slot (by assumption) md_entry (md_args _ _ _) (md_meets a xs k sl) ⟨hx, fun tk' => ?_⟩) | wp_step))
    exact wpAny_pure ⟨_, rfl, hs _⟩

theorem getAttr_append {prog : Program} {w : World} {A : Around} {E : Value → Shared → Prop} {s : Shared} {a : Addr} {xs : Array Value} {k : Nat} {sl : Array (Option Value)} {Q : Value → Shared → Prop}
    (hx : s.heap.get? a = some { cls := .type "list", dict := none, data := .seq xs k, slots := sl })
    (h : ∀ tk, Q (.ref s.heap.objs.size) { s with heap := s.heap.push (boundO a), toks := tk }) :
    wpAny (model prog w) A (getAttr (.ref a) (Str.ofString "append") true) Q E s := by
  obtain ⟨hp, g, d, tk, os⟩ := s
  have hT : ∀ tk', (⟨hp, g, d, tk', os⟩ : Shared).TypeIs (.ref a) "list" := fun _ => ⟨_, hx, rfl⟩
  have f3 := F.slot_list_getattribute.lookup
  have f4 := F.slot_list_getattribute.bind (.ref a)
  have f5 := am_list_getattr_none
  unfold getAttr getAttrBy
  repeat (any_goals (first | assumption | exact hT _ | ((with_reducible show wpAny _ _ (call (Value.builtin "list.__getattribute__") _ _) _ _ _); refine call_meets F.slot_list_getattribute (hT _) am_entry_list_getattribute (F.args_list_getattribute_2 _ _) (ga_append a xs k sl _) ⟨hx, fun tk' => ?_⟩) | wp_step))
  exact wpAny_pure (h _)

theorem call_bound {prog : Program} {w : World} {A : Around} {E : Value → Shared → Prop} {s : Shared} {m a : Addr} {xs : Array Value} {k : Nat} {v : Value} {Q : Value → Shared → Prop}
    (hm : s.heap.get? m = some (boundO a)) (hx : s.heap.get? a = some (listOf xs k)) (hsz : xs.size ≤ sizeLine)
    (h : ∀ tk, Q .none { s with heap := s.heap.update a (Obj.mapSeq fun x_1 => x_1.push v), toks := tk }) :
    wpAny (model prog w) A (call (.ref m) [v]) Q E s := by
  refine wpAny_call (codeAny_of_tree ?_)
  show wpAny _ A.in1 (callAny (.ref m) ⟨[v], []⟩) _ _ _
  unfold callAny
  refine wpAny_bind (wpAny_load hm ?_)
  dsimp only [boundO]
  rw [if_pos (by decide)]
  show wpAny _ A.in1 (if (Value.type "builtin_function_or_method" != Value.type "method") = true then _ else _) _ _ _
  rw [if_pos (by decide)]
  have hT : s.TypeIs (.ref a) "list" := ⟨_, hx, rfl⟩
  refine wpAny_bind (wpAny_mono (Q := fun _ s' => s' = s) ?_ ?_ (fun _ _ x => x))
  · unfold checkBoundCall
    rw [signature?_of (id := "list.append") (n := ['d', 'n', 'e', 'p', 'p', 'a']) (o := ['t', 's', 'i', 'l']) (by kernel_rfl) F.owner_list]
    obtain ⟨hp, g, d, tk, os⟩ := s
    have f1 : isSubtype (.type "list") (.type "module") = pure false := by rw [isSubtype_type]; kernel_rfl
    have f2 : isSubtype (.type "list") (.type "type") = pure false := by rw [isSubtype_type]; kernel_rfl
    repeat (any_goals (first | assumption | wp_step))
    rfl
  · intro _ s' e
    subst e
    refine wpAny_pure ⟨plainId_quiet F.slot_list_append.plain _, codeAny_builtin F.entry_list_append ?_⟩
    rw [Around.under_plainId F.slot_list_append.plain _]
    have hb := AutoListH.list_append_list_val_0 a xs k v hsz prog w A (wants Q E) s' ⟨hx, h _⟩
    exact hb
end
section
open PySem.Calls PySem.Spec
theorem mapSeq_listOf (xs : Array Value) (n : Nat) (f : Array Value → Array Value) : ∃ n', Obj.mapSeq f (listOf xs n) = listOf (f xs) n' := ⟨_, rfl⟩

section
variable {prog : Program} {w : World} {A : Around} {E : Value → Shared → Prop} {s : Shared} {h₀ : Heap} {L : Addr} {mm : Str → Option Value} {rest : List (Addr × Obj)}
theorem getAttr_append_K {l : Addr} {us : List Value} {n : Nat} {Q : Value → Shared → Prop} (F : Fr h₀ L s.heap mm) (N : News h₀ L s.heap rest) (hl : (l, listOf us.toArray n) ∈ rest)
    (h : ∀ m h' tk, Fr h₀ L h' mm → News h₀ L h' ((m, boundO l) :: rest) → l < m → (∀ p ∈ rest, p.1 < m) → Q (.ref m) { s with heap := h', toks := tk }) :
    wpAny (model prog w) A (getAttr (.ref l) (Str.ofString "append") true) Q E s := by
  refine getAttr_append (xs := us.toArray) (k := n) (sl := #[]) (N _ hl).1 fun tk => ?_
  have hk : ∀ b o, s.heap.get? b = some o → (s.heap.push (boundO l)).get? b = some o := fun b o e => Heap.get?_push_of_some _ e
  exact h _ _ _ (F.grownK hk) (News.more (F.grownK hk) (N.grown hk) (Heap.get?_push_size _ rfl) (fun _ _ e => by cases e) (next_is_new F)) (Heap.lt_size (N _ hl).1) fun p hp => Heap.lt_size (N p hp).1

theorem call_add_K {m l : Addr} {us : List Value} {n : Nat} {v : Value} {Q : Value → Shared → Prop} (F : Fr h₀ L s.heap mm) (N : News h₀ L s.heap ((m, boundO l) :: (l, listOf us.toArray n) :: rest)) (hml : l < m)
    (hr : ∀ p ∈ rest, p.1 ≠ l) (hsz : us.length ≤ 1000000)
    (h : ∀ h' tk n', Fr h₀ L h' mm → News h₀ L h' ((m, boundO l) :: (l, listOf (us ++ [v]).toArray n') :: rest) → Q .none { s with heap := h', toks := tk }) :
    wpAny (model prog w) A (call (.ref m) [v]) Q E s := by
  have hM := N _ (List.mem_cons_self ..)
  have hLi := N _ (List.mem_cons_of_mem _ (List.mem_cons_self ..))
  refine call_bound (a := l) (xs := us.toArray) (k := n) hM.1 hLi.1 (by rw [List.size_toArray]; exact Nat.le_trans hsz (by decide)) fun tk => ?_
  have hs : Heap.SameBut l s.heap (s.heap.update l (Obj.mapSeq fun x_1 => x_1.push v)) := Heap.SameBut.update ..
  obtain ⟨n', e'⟩ := mapSeq_listOf us.toArray n fun x_1 => x_1.push v
  rw [List.push_toArray] at e'
  have ho' : (s.heap.update l (Obj.mapSeq fun x_1 => x_1.push v)).get? l = some (listOf (us ++ [v]).toArray n') := by
    rw [Heap.get?_update_self _ hLi.1 (by rw [e']; rfl), e']
  refine h _ tk n' (F.change hs (fun e => hLi.2.1 e) hLi.2.2) ?_
  have N' := N.update (List.mem_cons_of_mem _ (List.mem_cons_self ..)) hs ho'
  have e : ((m, boundO l) :: (l, listOf us.toArray n) :: rest).map (fun p => if p.1 = l then (l, listOf (us ++ [v]).toArray n') else p) = (m, boundO l) :: (l, listOf (us ++ [v]).toArray n') :: rest := by
    rw [List.map_cons, List.map_cons, if_neg (Nat.ne_of_gt hml), if_pos rfl]
    congr 2
    exact (List.map_congr_left fun p hp => if_neg (hr p hp)).trans (List.map_id _)
  rw [e] at N'
  exact N'
end
end
section
open PySem.Calls PySem.Spec
section
variable {prog : Program} {w : World} {A : Around} {E : Value → Shared → Prop} {s : Shared} {env : Env} {pos : Pos}
theorem callWith_add {m l : Addr} {e : Expr} {Q : Value → Shared → Prop}
    (h : wpAny (model prog w) A (eval e env) (fun v s₁ => s₁.heap.get? m = some (boundO l) ∧ wpAny (model prog w) A (call (.ref m) [v]) Q E s₁) E s)
    (he : starEach [e] env = [(false, eval e env)] := by rfl) :
    wpAny (model prog w) A (callWith pos (.ref m) [] (backTo pos (starEach [e] env)) []) Q E s := by
  rw [he]
  refine callWith_of (P := fun h => h.get? m = some (boundO l)) rfl (fun h hm => ⟨.machine, .inr (.inl rfl), (Looks.ld (part := none) hm).andThen .now⟩) ?_
  refine evalArgs_plain (rest := []) (Calls.spliced_cons (wpAny_mono h (fun v s₁ h₁ => Calls.spliced_nil h₁) fun _ _ x => x))
end
end
section
open PySem.Calls PySem.Spec
theorem toks_keep {α : Type} {M : Model} {A : Around} {t : Sem α} {Q : α → Shared → Prop} {E : Value → Shared → Prop} {hp : Heap} {g : Array GenState} {d : Drawn} {os : OsState} {X : Nat} (h1 : 1 ≤ X) (h : ∀ tk, 1 ≤ tk → wpAny M A t Q E ⟨hp, g, d, tk, os⟩) : wpAny M A t Q E ⟨hp, g, d, X, os⟩ := h X h1
section
variable {prog : Program} {w : World} {A : Around} {E : Value → Shared → Prop} {s : Shared} {env : Env} {pos : Pos} {value slice : Expr} {x y : Str} {t u : Tok} {h₀ : Heap} {L : Addr} {m : Str → Option Value} {news : List (Addr × Obj)} {Q : Value → Shared → Prop}
theorem callWith_add2 {am l : Addr} {e : Expr} {rest : List (Addr × Obj)} (_N : News h₀ L s.heap rest) (_hm : (am, boundO l) ∈ rest)
    (h : wpAny (model prog w) A (eval e env) (fun v s₁ => s₁.heap.get? am = some (boundO l) ∧ wpAny (model prog w) A (call (.ref am) [v]) Q E s₁) E s)
    (he : starEach [e] env = [(false, eval e env)] := by rfl) :
    wpAny (model prog w) A (callWith pos (.ref am) [] (backTo pos (starEach [e] env)) []) Q E s := callWith_add h he
theorem idx_K2 {i : Int} {u : Tok} {n : Nat} (h0 : 0 ≤ i) (hx : x.cps.toList[i.toNat]? = some n) (hl : x.length ≤ 16777216)
    (h : Q (.str (S [n]) s.toks) { s with toks := s.toks + 1 })
    (hs : subscripted slice false (.str x t) (.int i u) = operate [.str x t, .int i u] (getItem (.str x t) (.int i u)) := by with_unfolding_all rfl)
    (ht : ∀ r, letTemporaryGo value (.str x t) r = pure () := by intro _; with_unfolding_all rfl) :
    wpAny (model prog w) A (subscriptTail value slice (.str x t) (.int i u)) Q E s := by
  have hlt : i.toNat < x.cps.toList.length := (List.getElem?_eq_some_iff.mp hx).1
  have hlt' : i.toNat < x.length := by simpa [Str.length] using hlt
  refine item_str (fitsSsize_of (N := 9223372036854775808) (by lia) (by lia) (Int.le_refl _)) (by lia) (by lia) (fun _ => ?_) hs ht
  rw [item_S h0 hx]
  exact h
theorem slice_ss_K2 {i j : Int} {ui uj : Tok} {r : List Nat} (hF : Fr h₀ L s.heap m) (hN : News h₀ L s.heap news) (hi : 0 ≤ i) (hj : 0 ≤ j) (hsz : x.length ≤ 16777216) (hc : cut x.cps.toList i j = r)
    (h : ∀ h' t' k, Fr h₀ L h' m → News h₀ L h' news → Q (.str (S r) t') { s with heap := h', toks := k })
    (hs : subscripted slice false (.str x t) (.ref s.heap.objs.size) = operate [.ref s.heap.objs.size, .str x t] (getItem (.str x t) (.ref s.heap.objs.size)) := by with_unfolding_all rfl)
    (ht : ∀ r, letTemporaryGo value (.str x t) r = pure () := by intro _; with_unfolding_all rfl) :
    wpAny (model prog w) A (subscriptTail value slice (.str x t) (.ref s.heap.objs.size)) Q E { s with heap := s.heap.push { cls := .type "slice", data := .fields #[.int i ui, .int j uj, .none] } } := by
  subst hc
  exact slice_ss_K hF hN hi hj hsz h hs ht
theorem eq_known {b : Bool} (hb : (x == y) = b) (h : Q (.bool b) s) : wpAny (model prog w) A (compareOp .Eq (.str x t) (.str y u)) Q E s := by
  subst hb
  exact eq_str h
theorem replace_known {z r : Str} {v : Tok} (hu : u ≠ 0) (hv : v ≠ 0) (huv : u ≠ v) (hyz : (y == z) = false) (hx : x.length ≤ 1048576) (hz : z.length ≤ 14) (hr : Txt.replace x y z = r)
    (hq : ∀ t' k, Q (.str r t') { s with toks := k }) : wpAny (model prog w) A (call (.builtin "str.replace") [.str x t, .str y u, .str z v]) Q E s := by
  subst hr
  exact SC.replaceW hu hv huv hyz hx hz hq
theorem truthy_known {l : Addr} {us : List Value} {n : Nat} {b : Bool} {Q : Bool → Shared → Prop} (N : News h₀ L s.heap news) (hl : (l, listOf us.toArray n) ∈ news) (hz : us.length ≤ 1000000) (hb : (!us.isEmpty) = b) (h : Q b { s with toks := s.toks + 1 + 1 }) :
    wpAny (model prog w) A (truthy (.ref l)) Q E s := by
  subst hb
  exact kgr_truthy N hl rfl rfl (by lia) h
theorem last_K {l : Addr} {vs : List Value} {v : Value} {n : Nat} {u : Tok} (N : News h₀ L s.heap news) (hl : (l, listOf (vs ++ [v]).toArray n) ∈ news) (hz : vs.length ≤ 1000000) (h : Q v s)
    (hs : subscripted slice false (.ref l) (.int (-1) u) = operate [.ref l, .int (-1) u] (getItem (.ref l) (.int (-1) u)) := by with_unfolding_all rfl) :
    wpAny (model prog w) A (subscriptTail value slice (.ref l) (.int (-1) u)) Q E s := by
  have hls : s.heap.IsList l (vs ++ [v]).toArray := ⟨_, (N _ hl).1, rfl, n, rfl⟩
  refine tail_any hls.typeIs slot_list_getitem.lookup (wpAny_getItem_list_neg hls (by decide) ?_ (by decide) ?_ h) hs
  · rw [List.size_toArray, List.length_append, List.length_singleton]; lia
  · rw [List.size_toArray, List.length_append, List.length_singleton]
    have : (-1 + (((vs.length + 1 : Nat)) : Int)).toNat = vs.length := by lia
    rw [this]
    simp
end
end
section
open PySem.Calls PySem.Spec PySem.Builtin PySem.Builtin.Re

noncomputable abbrev patO : Obj := { cls := .type "re.Pattern", data := .fields #[Value.str (Str.ofString "([&~|])") 329, Value.int 32 364, Value.int 1 0, Value.none, Value.none, Value.ref 77, Value.int 0 0] }
noncomputable abbrev codesO : Obj := { cls := .type "tuple", data := .seq #[Value.int 14 0, Value.int 14 0, Value.int 4 0, Value.int 1 0, Value.int 1 0, Value.int 9 0, Value.int 0 0,
        Value.int 64 0, Value.int 0 0, Value.int 1342177280 0, Value.int 0 0, Value.int 0 0, Value.int 0 0,
        Value.int 0 0, Value.int 0 0, Value.int 17 0, Value.int 0 0, Value.int 13 0, Value.int 11 0, Value.int 9 0,
        Value.int 0 0, Value.int 64 0, Value.int 0 0, Value.int 1342177280 0, Value.int 0 0, Value.int 0 0,
        Value.int 0 0, Value.int 0 0, Value.int 0 0, Value.int 17 0, Value.int 1 0, Value.int 1 0] 0 }
theorem o78 {w : World} {h : Heap} (X : (hd.heap_39 w.params).In h) : h.get? 78 = some patO := X _ _ rfl
theorem o77 {w : World} {h : Heap} (X : (hd.heap_39 w.params).In h) : h.get? 77 = some codesO := X _ _ rfl

noncomputable def reCode : Array Nat := #[14,14,4,1,1,9,0,64,0,1342177280,0,0,0,0,0,17,0,13,11,9,0,64,0,1342177280,0,0,0,0,0,17,1,1]

theorem re_slot : Slot "re.Pattern" (Str.ofString "sub") "re.Pattern.sub" :=
  .of (owner := "re.Pattern") (n := "sub") (by rw [typeLookup_type, builtinLookup_eq_fast]; kernel_rfl) (by decide +kernel) (by decide +kernel) (by decide +kernel)
    (by first | exact .inl (by decide +kernel) | exact .inr (by decide +kernel)) (by rw [isSubtype_type]; kernel_rfl)
theorem re_type : typeOf (.builtin "re.Pattern.sub") = pure (.type "method_descriptor") := by show builtinType _ = _; rw [builtinType_eq_fast]; kernel_rfl
theorem re_entry : entryFor table "re.Pattern.sub" = some Builtin.«re.Pattern.sub» := entryFor_of_tree (by kernel_rfl)
theorem re_entry2 : entryFor table "re.Pattern.sub.loop" = some Builtin.«re.Pattern.sub.loop» := entryFor_of_tree (by kernel_rfl)
theorem re_args (a b c : Value) : argsOk "re.Pattern.sub" ⟨[a, b, c], []⟩ := by unfold argsOk; kernel_rfl

theorem rules_for {M : Model} {A : Around} {E : Value → Shared → Prop} {s : Shared} {Q : PUnit → Shared → Prop} (m : Sre.M) : ∀ l : List Nat, Q ⟨⟩ s →
    wpAny M A (forIn l PUnit.unit (fun i _ => if m.seen.has i = true then (do rule (Sre.names.getD i ""); pure (ForInStep.yield PUnit.unit)) else pure (ForInStep.yield PUnit.unit))) Q E s
  | [], h => wpAny_pure h
  | i :: l, h => by
    rw [List.forIn_cons]
    refine wpAny_bind ?_
    split
    · exact wpAny_bind (wpAny_rule (wpAny_pure (rules_for m l h)))
    · exact wpAny_pure (rules_for m l h)

theorem mySreNone (t : ReTarget) (hcode : t.code = reCode) (hg : t.groups = 1) (hl : t.lim = 1) {c : Nat} (hc : c = 42 ∨ c = 63 ∨ c = 91) (ht : t.text = #[c]) {M : Model} {A : Around} {E : Value → Shared → Prop} {s : Shared} {Q : Option Sre.M → Shared → Prop} (h : Q none s) :
    wpAny M A (reNextFound t 0 false) Q E s := by
  unfold reNextFound reRunToEnd
  rw [hcode, hg, hl, ht]
  have e : (Sre.M.runFor reTurnSteps (Sre.forSearch reCode #[c] 1 0 1 false)).outcome = some .failed := by rcases hc with rfl | rfl | rfl <;> rfl
  have e2 : reDrive (2 ^ 64) (Sre.forSearch reCode #[c] 1 0 1 false) = pure (Sre.M.runFor reTurnSteps (Sre.forSearch reCode #[c] 1 0 1 false)) := by
    rw [show (2 : Nat) ^ 64 = 18446744073709551615 + 1 from rfl, reDrive]
    rw [e]
    rfl
  rw [e2]
  refine wpAny_bind (wpAny_pure ?_)
  refine wpAny_bind (rules_for _ _ ?_)
  rw [e]
  exact wpAny_pure h

theorem gm_sub {M : Model} {A : Around} {E : Value → Shared → Prop} {s : Shared} {pl : Sem Bool} {Q : Value × List Value → Shared → Prop} (ho : s.heap.get? 78 = some patO) (h : Q (.builtin "re.Pattern.sub", [.ref 78]) s) :
    wpAny M A (getMethod (.ref 78) (Str.ofString "sub") pl) Q E s := by
  refine getMethod_builtin (T := "re.Pattern") ⟨_, ho, rfl⟩ ?_ re_slot re_type ?_ h
  · exact { ga := ⟨"object.__getattribute__", by rw [typeLookup_type, builtinLookup_eq_fast]; kernel_rfl, by decide +kernel⟩, noGetattr := by rw [typeLookup_type, builtinLookup_eq_fast]; kernel_rfl }
  · intro a e
    cases e
    exact ⟨_, ho, rfl⟩

theorem sub_loop (prog : Program) (w : World) (A : Around) (f : Addr) {c : Nat} (hc : c = 42 ∨ c = 63 ∨ c = 91) (t : Tok) (R : Result → Shared → Prop) (l : Addr) (s : Shared) (h78 : s.heap.get? 78 = some patO) (h77 : s.heap.get? 77 = some codesO)
    (hl : s.heap.get? l = some { cls := .type "list", data := .seq #[] }) (hl1 : l ≠ 78) (hl2 : l ≠ 77)
    (h : ∀ h' t' tk', Heap.SameBut l s.heap h' → R (.ok (.ret (.str (S [c]) t'))) { s with heap := h', toks := tk' }) :
    codeAny (model prog w) A (.builtin "re.Pattern.sub.loop" ⟨[.ref 78, .str (S [c]) t, .ref f, rawInt 1, rawInt 0, rawInt 0, rawInt 0, rawInt 0, .bool false, .ref l, .bool false], []⟩) R s := by
  refine codeAny_builtin re_entry2 ?_
  obtain ⟨hp, g, d, tk, os⟩ := s
  unfold Builtin.«re.Pattern.sub.loop»
  repeat ((fail_if_success (with_reducible show wpAny _ _ (reNextFound _ _ _) _ _ _)); wp_step)
  refine mySreNone _ (by dsimp only; decide +kernel) (by dsimp only; decide +kernel) rfl hc rfl ?_
  repeat ((fail_if_success (with_reducible show wpAny _ _ (call (.builtin _) _ _) _ _ _)); wp_step)
  show wpAny _ _ (call (.builtin "str.join") [.str (S []) _, .ref l] []) _ _ _
  refine call_meets F.slot_str_join (typeIs_str _ _ _) F.entry_str_join (F.args_str_join_2 _ _) (meets_str_join_list (S []) (tk + 1) l [(S [c], tk)] (by rfl)) ⟨?_, post_join [(S [c], tk)] ⟨?_, fun t' k => ?_⟩⟩
  · exact ⟨_, Heap.get?_update_self _ hl rfl, rfl, 1, rfl⟩
  · exact (by decide : 1 ≤ sizeLine)
  · refine wpAny_pure ?_
    exact h _ _ _ (Heap.SameBut.update ..)

theorem sub_call {prog : Program} {w : World} {A : Around} {E : Value → Shared → Prop} {s : Shared} {Q : Value → Shared → Prop} {f : Addr} {of : Obj} {c : Nat} (hc : c = 42 ∨ c = 63 ∨ c = 91) (t : Tok) (h78 : s.heap.get? 78 = some patO) (h77 : s.heap.get? 77 = some codesO)
    (hf : s.heap.get? f = some of) (hfc : of.cls = .type "function")
    (h : ∀ h' t' tk', (∀ b o, s.heap.get? b = some o → h'.get? b = some o) → Q (.str (S [c]) t') { s with heap := h', toks := tk' }) :
    wpAny (model prog w) A (call (.builtin "re.Pattern.sub") [.ref 78, .ref f, .str (S [c]) t]) Q E s := by
  refine wpAny_call (codeAny_call_builtin re_slot.plain re_entry (re_slot.check _ _ _ _ _ _ _ _ ⟨_, h78, rfl⟩ (re_args _ _ _) ?_))
  obtain ⟨hp, g, d, tk, os⟩ := s
  have hT : (⟨hp, g, d, tk, os⟩ : Shared).TypeIs (.ref f) "function" := ⟨_, hf, hfc⟩
  have hcall : typeLookup (.type "function") (Str.ofString "__call__") = pure (some (.builtin "function.__call__")) := by rw [typeLookup_type, builtinLookup_eq_fast]; kernel_rfl
  have hsb : isSubtype (Value.type "str") (Value.type "bytearray") = pure false := by rw [isSubtype_type]; kernel_rfl
  unfold Builtin.«re.Pattern.sub» reSubstitute
  repeat wp_step
  have hk : ∀ b o, hp.get? b = some o → (hp.push { cls := .type "list", data := .seq #[] }).get? b = some o := fun b o e => Heap.get?_push_of_some _ e
  refine ⟨plainId_quiet (by decide +kernel) _, sub_loop prog w _ f hc t _ hp.objs.size _ (hk _ _ h78) (hk _ _ h77) (Heap.get?_push_size _ rfl) (Nat.ne_of_gt (Heap.lt_size h78)) (Nat.ne_of_gt (Heap.lt_size h77)) fun h' t' tk' hs => ?_⟩
  exact h _ _ _ fun b o e => (hs.2 b (Nat.ne_of_lt (Heap.lt_size e))).trans (hk b o e)

theorem sub_K {prog : Program} {w : World} {A : Around} {E : Value → Shared → Prop} {s : Shared} {Q : Value → Shared → Prop} {h₀ : Heap} {L : Addr} {m : Str → Option Value} {news : List (Addr × Obj)} {f : Addr} {of : Obj} {c : Nat} (hc : c = 42 ∨ c = 63 ∨ c = 91) (t : Tok)
    (X : (hd.heap_39 w.params).In h₀) (F : Fr h₀ L s.heap m) (N : News h₀ L s.heap news) (hf : (f, of) ∈ news) (hfc : of.cls = .type "function")
    (h : ∀ h' t' tk', Fr h₀ L h' m → News h₀ L h' news → Q (.str (S [c]) t') { s with heap := h', toks := tk' }) :
    wpAny (model prog w) A (call (.builtin "re.Pattern.sub") [.ref 78, .ref f, .str (S [c]) t]) Q E s :=
  sub_call hc t (F.keep _ _ (o78 X)) (F.keep _ _ (o77 X)) (N _ hf).1 hfc fun h' t' tk' hk => h h' t' tk' (F.grownK hk) (N.grown hk)
theorem gm_sub_K {w : World} {M : Model} {A : Around} {E : Value → Shared → Prop} {s : Shared} {pl : Sem Bool} {h₀ : Heap} {L : Addr} {m : Str → Option Value} {Q : Value × List Value → Shared → Prop} (X : (hd.heap_39 w.params).In h₀) (F : Fr h₀ L s.heap m) (h : Q (.builtin "re.Pattern.sub", [.ref 78]) s) :
    wpAny M A (getMethod (.ref 78) (Str.ofString "sub") pl) Q E s := gm_sub (F.keep _ _ (o78 X)) h
end
section
open PySem.Calls PySem.Spec

noncomputable def OkT (pos : Pos) (T : Obj) : Prop := T = tabObj #[] ∨ ∃ c', T = tabObj (#[] ++ #[rawInt pos.line, rawInt pos.col, .ref c'])

theorem lam_K {M : Model} {A : Around} {E : Value → Shared → Prop} {s : Shared} {h₀ : Heap} {L a c P : Addr} {m mg mb : Str → Option Value} {cn : Str} {cs : Scope} {news : List (Addr × Obj)}
  {p : Program} {loose : List Str} {mean : ExcName → Option Value} {params : Arguments} {body : Expr} {scope : Scope} {pos : Pos} {Q : Value → Shared → Prop} {am lr : Addr} {oA oL T : Obj}
  (hdef : defaultsOf params (envX cn cs L a (.ref c) []) = ([], [])) (F : Fr h₀ L s.heap m) (N : News h₀ L s.heap ((am, oA) :: (lr, oL) :: (P, T) :: news)) (TT : Top p loose mean mg mb h₀) (C : CodeHd h₀ c P) (hT : OkT pos T)
  (hn : ∀ p ∈ news, p.1 ≠ P) (ha : am ≠ P) (hl : lr ≠ P) (hcl : closureFor scope (envX cn cs L a (.ref c) []) = pure [])
  (h : ∀ f fo h' tk T', fo.cls = .type "function" → OkT pos T' → Fr h₀ L h' m → News h₀ L h' ((f, fo) :: (am, oA) :: (lr, oL) :: (P, T') :: news) → Q (.ref f) { s with heap := h', toks := tk }) :
  wpAny M A (eval (.Lambda params body scope pos) (envX cn cs L a (.ref c) [])) Q E s := by
  refine kla_eval hdef ?_
  rcases hT with rfl | ⟨c', rfl⟩
  · refine kla_nest F N TT C rfl (UpdF.tail ha (UpdF.tail hl (UpdF.head hn))) True.intro rfl hcl fun f c' oc vs t ctv h' tk F' N' h1 h2 h3 h4 => ?_
    exact h f _ h' tk _ rfl (.inr ⟨c', rfl⟩) F' (fun q hq => N' q (by
      rcases List.mem_cons.mp hq with rfl | hq
      · exact List.mem_cons_self ..
      · exact List.mem_cons_of_mem _ (List.mem_cons_of_mem _ hq)))
  · refine kla_hit (c' := c') F N TT C rfl (List.mem_cons_of_mem _ (List.mem_cons_of_mem _ (List.mem_cons_self ..))) (by simp [TriplesOk, rawInt]) (by simp [codeAmong, rawInt]) hcl fun f ctv h' tk F' N' h1 => ?_
    exact h f _ h' tk _ rfl (.inr ⟨c', rfl⟩) F' N'
end
section
open PySem.Calls PySem.Spec
section
variable {prog : Program} {w : World} {A : Around} {E : Value → Shared → Prop} {s : Shared} {env : Env} {pos : Pos} {value slice : Expr} {x y : Str} {t u : Tok} {h₀ : Heap} {L : Addr} {m : Str → Option Value} {news : List (Addr × Obj)} {Q : Value → Shared → Prop}
theorem item_K {l : Addr} {vs : List Value} {v : Value} {n : Nat} {k : Int} {u : Tok} (N : News h₀ L s.heap news) (hl : (l, listOf vs.toArray n) ∈ news) (h0 : 0 ≤ k) (hx : vs[k.toNat]? = some v) (hz : k < 2 ^ 63) (h : Q v s)
    (hs : subscripted slice false (.ref l) (.int k u) = operate [.ref l, .int k u] (getItem (.ref l) (.int k u)) := by with_unfolding_all rfl) :
    wpAny (model prog w) A (subscriptTail value slice (.ref l) (.int k u)) Q E s := by
  have hls : s.heap.IsList l vs.toArray := ⟨_, (N _ hl).1, rfl, n, rfl⟩
  exact tail_any hls.typeIs slot_list_getitem.lookup (wpAny_getItem_list hls h0 hz (by simpa using hx) h) hs
theorem len_K {l : Addr} {vs : List Value} {n : Nat} (N : News h₀ L s.heap news) (hl : (l, listOf vs.toArray n) ∈ news) (hz : vs.length ≤ 1000000)
    (h : Q (.int (vs.length : Int) (s.toks + 1)) { s with toks := s.toks + 1 + 1 }) : wpAny (model prog w) A (call (.builtin "len") [.ref l]) Q E s := by
  have hls : s.heap.IsList l vs.toArray := ⟨_, (N _ hl).1, rfl, n, rfl⟩
  refine len_list hls (by rw [List.size_toArray]; lia) ?_
  rw [List.size_toArray]
  exact h
end
end
section
open PySem.Calls PySem.Spec
/-- a frame's names, written out -/
noncomputable abbrev nm (l : List (Str × Value)) : Str → Option Value := kstB (fun _ => none) l
theorem lookup_if (y : Str) : ∀ l : List (Str × Value), List.lookup y l = nm l y
  | [] => rfl
  | (k, v) :: l => by
    show (match y == k with | true => some v | false => List.lookup y l) = if y = k then some v else nm l y
    rw [lookup_if y l]
    by_cases h : y = k
    · rw [if_pos h, h]; simp
    · have : (y == k) = false := by simpa using h
      rw [if_neg h, this]
theorem nm_if {y k : Str} {v : Value} {f : Option Value} {l : List (Str × Value)} (h : f = nm l y) : (if y = k then some v else f) = nm ((k, v) :: l) y := by
  rw [h]; rfl
theorem Fr_nm {h₀ h : Heap} {L : Addr} {m : Str → Option Value} {l : List (Str × Value)} (F : Fr h₀ L h m) (e : ∀ y, m y = nm l y) : Fr h₀ L h (nm l) := Fr_cast F (funext e)
theorem nm_upd {k : Str} {v0 v : Value} {l : List (Str × Value)} {u : Str → Option Value} : kstB (fun z => if ([] : List Str).contains z then u z else nm ((k, v0) :: l) z) [(k, v)] = nm ((k, v) :: l) := by
  funext y
  show (if y = k then some v else (if false = true then u y else if y = k then some v0 else nm l y)) = if y = k then some v else nm l y
  by_cases h : y = k
  · rw [if_pos h, if_pos h]
  · rw [if_neg h, if_neg h, if_neg (by decide), if_neg h]
end
section
open PySem.Calls PySem.Spec
theorem app_K {prog : Program} {w : World} {A : Around} {E : Value → Shared → Prop} {s : Shared} {h₀ : Heap} {L : Addr} {mm : Str → Option Value} {rest : List (Addr × Obj)} {l : Addr} {us : List Value} {n : Nat} {v : Value} {Q : Value → Shared → Prop} (F : Fr h₀ L s.heap mm) (N : News h₀ L s.heap ((l, listOf us.toArray n) :: rest))
    (hr : ∀ p ∈ rest, p.1 ≠ l) (hsz : us.length ≤ 1000000)
    (h : ∀ h' tk n', Fr h₀ L h' mm → News h₀ L h' ((l, listOf (us ++ [v]).toArray n') :: rest) → Q .none { s with heap := h', toks := tk }) :
    wpAny (model prog w) A (call (.builtin "list.append") [.ref l, v]) Q E s := by
  have hLi := N _ (List.mem_cons_self ..)
  refine call_meets PySem.F.slot_list_append ⟨_, hLi.1, rfl⟩ PySem.F.entry_list_append (PySem.F.args_list_append_2 _ _) (AutoListH.list_append_list_val_0 l us.toArray n v (by rw [List.size_toArray]; exact Nat.le_trans hsz (by decide))) ⟨hLi.1, ?_⟩
  have hs : Heap.SameBut l s.heap (s.heap.update l (Obj.mapSeq fun x_1 => x_1.push v)) := Heap.SameBut.update ..
  obtain ⟨n', e'⟩ := mapSeq_listOf us.toArray n fun x_1 => x_1.push v
  rw [List.push_toArray] at e'
  have ho' : (s.heap.update l (Obj.mapSeq fun x_1 => x_1.push v)).get? l = some (listOf (us ++ [v]).toArray n') := by
    rw [Heap.get?_update_self _ hLi.1 (by rw [e']; rfl), e']
  refine h _ _ n' (F.change hs (fun e => hLi.2.1 e) hLi.2.2) ?_
  have N' := N.update (List.mem_cons_self ..) hs ho'
  have e : ((l, listOf us.toArray n) :: rest).map (fun p => if p.1 = l then (l, listOf (us ++ [v]).toArray n') else p) = (l, listOf (us ++ [v]).toArray n') :: rest := by
    rw [List.map_cons, if_pos rfl]
    congr 1
    exact (List.map_congr_left fun p hp => if_neg (hr p hp)).trans (List.map_id _)
  rw [e] at N'
  exact N'
end
section
open PySem.Calls PySem.Spec
theorem Strs.toks {a : List (List Nat)} {x : List Value} (h : Strs a x) : ∃ l : List (Str × Tok), strValues l = x ∧ l.map (·.1) = a.map S := by
  induction h with
  | nil => exact ⟨[], rfl, rfl⟩
  | cons r t _ ih =>
    obtain ⟨l, h1, h2⟩ := ih
    exact ⟨(S r, t) :: l, by rw [← h1]; rfl, by simp [h2]⟩
theorem join_flat : ∀ a : List (List Nat), Str.join (S []) (a.map S) = S a.flatten
  | [] => rfl
  | [x] => by simp [Str.join]
  | x :: y :: r => by
    have ih := join_flat (y :: r)
    show S x ++ S [] ++ Str.join (S []) ((y :: r).map S) = _
    rw [ih, S_app, S_app]
    simp
theorem lens_flat (a : List (List Nat)) : ((a.map S).map (·.length)).sum = a.flatten.length := by
  induction a with
  | nil => rfl
  | cons x a ih => simp [Str.length] at ih ⊢; lia
theorem join_K {prog : Program} {w : World} {A : Around} {E : Value → Shared → Prop} {s : Shared} {h₀ : Heap} {L : Addr} {news : List (Addr × Obj)} {l : Addr} {vs : List Value} {n : Nat} {texts : List (List Nat)} {e : Str} {t : Tok} {Q : Value → Shared → Prop} (he : e = S []) (N : News h₀ L s.heap news) (hl : (l, listOf vs.toArray n) ∈ news)
    (hst : Strs texts vs) (hb : texts.flatten.length ≤ 1000000) (h : ∀ y t' k, y = S texts.flatten → y.length ≤ 1000000 → Q (.str y t') { s with toks := k }) :
    wpAny (model prog w) A (call (.builtin "str.join") [.str e t, .ref l]) Q E s := by
  subst he
  obtain ⟨ls, h1, h2⟩ := hst.toks
  have hls : s.heap.IsList l (strValues ls).toArray := ⟨_, (N _ hl).1, rfl, n, by rw [h1]⟩
  have hsz : sizeLine = 16777216 := sizeLine_eq
  refine call_meets PySem.F.slot_str_join (typeIs_str _ _ _) PySem.F.entry_str_join (PySem.F.args_str_join_2 _ _) (meets_str_join_list (S []) t l ls ?_) ⟨hls, post_join ls ⟨?_, fun t' k => ?_⟩⟩
  · rw [h2, StrLaws.joinTotal, lens_flat]
    unfold Builtin.Str.tooLong
    have : (S []).length = 0 := rfl
    rw [this, Nat.mul_zero, Nat.add_zero]
    exact decide_eq_false (by rw [hsz]; lia)
  · rw [h2]
    show (Txt.join (S []) (texts.map S)).length ≤ _
    have e9 : Txt.join (S []) (texts.map S) = S texts.flatten := (StrLaws.glued_eq_join _ _).trans (join_flat _)
    rw [e9, S_len, hsz]; lia
  · rw [h2]
    have e9 : Txt.join (S []) (texts.map S) = S texts.flatten := (StrLaws.glued_eq_join _ _).trans (join_flat _)
    rw [e9]
    exact h _ t' k rfl (by rw [S_len]; exact hb)
theorem toldG_ge {g : List (List Nat)} : ∀ {gs : List (List (List Nat))}, g ∈ gs → g.flatten.length ≤ (toldG gs).length
  | [], h => by cases h
  | [a], h => by
    rcases List.mem_singleton.mp h with rfl
    show _ ≤ ([46, 42] ++ g.flatten).length
    rw [List.length_append]; lia
  | a :: b :: gs, h => by
    rcases List.mem_cons.mp h with rfl | h
    · show _ ≤ (([40, 63, 62, 46, 42, 63] ++ g.flatten ++ [41]) ++ toldG (b :: gs)).length
      rw [List.length_append, List.length_append, List.length_append]; lia
    · have := toldG_ge h
      show _ ≤ (([40, 63, 62, 46, 42, 63] ++ a.flatten ++ [41]) ++ toldG (b :: gs)).length
      rw [List.length_append]; lia
end
section
open PySem.Calls PySem.Spec

theorem at_iff (x y : Str) (i : Nat) : StrLaws.At x y x.length i ↔ atL x.cps.toList y.cps.toList i = true := by
  have e1 : x.cps.toList.length = x.length := by simp [Str.length]
  have e2 : y.cps.toList.length = y.length := by simp [Str.length]
  unfold StrLaws.At atL
  rw [StrLaws.subAt_eq, e1, e2]
  simp
theorem find3_L (x y : Str) (i : Nat) : Txt.find3 x y (i : Int) = match findL x.cps.toList y.cps.toList i with | some k => (k : Int) | none => -1 := by
  have ef : PySem.fromIndex x.length (i : Int) = i := by
    unfold PySem.fromIndex
    rw [if_neg (by lia)]
    lia
  have e1 : x.cps.toList.length = x.length := by simp [Str.length]
  unfold Txt.find3
  rw [ef]
  rcases StrLaws.occ_head_from x y i 1 (Nat.le_refl 1) with ⟨h, hn⟩ | ⟨k, r, h, hk, ha, hn⟩
  · rw [h]
    have : findL x.cps.toList y.cps.toList i = none := by
      unfold findL
      rw [List.find?_eq_none]
      intro j hj hat
      exact hn j (List.mem_range'_1.mp hj).1 ((at_iff x y j).mpr hat)
    rw [this]
  · rw [h]
    have hkl : k ≤ x.length := by have := ha.1; lia
    have : findL x.cps.toList y.cps.toList i = some k := by
      unfold findL
      rw [List.find?_eq_some_iff_append]
      refine ⟨(at_iff x y k).mp ha, List.range' i (k - i), List.range' (k + 1) (x.length - k), ?_, ?_⟩
      · rw [e1, show x.length + 1 - i = (k - i) + (1 + (x.length - k)) by lia, ← List.range'_append_1, ← List.range'_append_1]
        rw [show i + (k - i) = k by lia]
        rfl
      · intro j hj
        have := List.mem_range'_1.mp hj
        have h9 := hn j this.1 (by lia)
        rw [at_iff] at h9
        simpa using h9
    rw [this]
theorem pick_mid (vs : List Value) (h : 2 ≤ vs.length) : (slicePick vs.toArray (some 1) (some (-1)) none).toList = (vs.drop 1).take (vs.length - 2) := by
  rw [kmk_pick_nat vs.toArray (a := 1) (b := vs.length - 1)]
  · simp; lia
  · unfold sliceBounds
    simp
    lia
theorem Strs.drop1 {a : List (List Nat)} {p : List Nat} {vs : List Value} (h : Strs (p :: a) vs) : Strs a (vs.drop 1) := by
  cases h with
  | cons r t h => exact h
theorem Strs.tk {a : List (List Nat)} {vs : List Value} (h : Strs a vs) : ∀ k, Strs (a.take k) (vs.take k) := by
  induction h with
  | nil => intro k; simp; exact .nil
  | cons r t _ ih =>
    intro k
    cases k with
    | zero => exact .nil
    | succ k => exact .cons r t (ih k)
theorem Strs.at {a : List (List Nat)} {vs : List Value} (h : Strs a vs) : ∀ {i : Nat} {v : Value}, vs[i]? = some v → ∃ r t, a[i]? = some r ∧ v = .str (S r) t := by
  induction h with
  | nil => intro i v h; simp at h
  | cons r t _ ih =>
    intro i v h
    cases i with
    | zero => simp at h; exact ⟨r, t, rfl, h.symm⟩
    | succ i => exact ih (by simpa using h)
theorem S_beq (a b : List Nat) : (S a == S b) = (a == b) := by
  rw [Bool.eq_iff_iff, beq_iff_eq, beq_iff_eq]
  exact ⟨fun h => S_inj h, fun h => by rw [h]⟩
theorem S_ne {a b : List Nat} (h : (S a != S b) = true) : (a == b) = false := by
  rw [Bool.eq_false_iff]
  intro h2
  rw [beq_iff_eq.mp h2] at h
  simp at h
theorem S_eq {a b : List Nat} (h : (S a != S b) = false) : a = b := by
  refine S_inj ?_
  simpa using h
theorem Strs.consE {r : List Nat} {x : Str} {t : Tok} {rs : List (List Nat)} {vs : List Value} (h : x = S r) (k : Strs rs vs) : Strs (r :: rs) (.str x t :: vs) := h ▸ .cons r t k
end
section
open PySem.Calls PySem.Spec
noncomputable abbrev plainO : Obj := { cls := .type "object", dict := none, data := .plain }
theorem ob_mro : mroOf (.type "object") = pure [.type "object"] := by rw [mroOf_type]; kernel_rfl
theorem ob_new : typeLookup (.type "object") (Str.ofString "__new__") = pure (some (.builtin "object.__new__")) := by rw [typeLookup_type, builtinLookup_eq_fast]; kernel_rfl
theorem ob_made : Bind.madeBy (.type "object") = pure (some "object.__new__") := madeBy_type ob_mro ob_new (by decide +kernel)
theorem ob_called : TypeCalled "object" "object.__new__" "object.__init__" :=
  ⟨by decide +kernel, by decide +kernel, ⟨_, _, ob_mro⟩, ob_made, by decide +kernel, by rw [isSubtype_type]; kernel_rfl, PySem.F.slot_object_init⟩
theorem ob_entry : entryFor table "object.__new__" = some Builtin.«object.__new__» := entryFor_of_tree (by kernel_rfl)
theorem ob_tc : checkTypeCall "object" ⟨[], []⟩ = pure () := by kernel_rfl
theorem ob_cn : checkBuiltinCall "object.__new__" ⟨[.type "object"], []⟩ = pure () := by kernel_rfl

theorem ob_meets : Meets (Builtin.«object.__new__» ⟨[.type "object"], []⟩) (fun _ R s => ∀ tk, R (.ok (.ret (.ref s.heap.objs.size))) { s with heap := s.heap.push plainO, toks := tk }) :=
  Meets.of_wp fun prog w A R s hs => by
    obtain ⟨hp, g, d, tk, os⟩ := s
    have h1 := ob_made
    have h2 := ob_mro
    unfold Builtin.«object.__new__»
    repeat (any_goals (first | assumption | wp_step))
    exact ⟨_, rfl, hs _⟩
theorem ob_init : Meets (Builtin.«object.__init__» ⟨[.ref a], []⟩) (fun _ R s => R (.ok (.ret .none)) s) :=
  Meets.of_wp fun prog w A R s hs => by
    obtain ⟨hp, g, d, tk, os⟩ := s
    unfold Builtin.«object.__init__»
    repeat (any_goals (first | assumption | wp_step))
    exact ⟨_, rfl, hs⟩
theorem obj_K {prog : Program} {w : World} {A : Around} {E : Value → Shared → Prop} {s : Shared} {h₀ : Heap} {L : Addr} {mm : Str → Option Value} {rest : List (Addr × Obj)} {Q : Value → Shared → Prop} (F : Fr h₀ L s.heap mm) (N : News h₀ L s.heap rest)
    (h : ∀ m h' tk, Fr h₀ L h' mm → News h₀ L h' ((m, plainO) :: rest) → (∀ p ∈ rest, p.1 < m) → Q (.ref m) { s with heap := h', toks := tk }) :
    wpAny (model prog w) A (call (.type "object") []) Q E s := by
  refine callType_meets (Q₁ := fun v s₁ => ∃ tk, v = .ref s.heap.objs.size ∧ s₁ = { s with heap := s.heap.push plainO, toks := tk }) ob_called ob_tc ob_cn ob_entry PySem.F.entry_object_init ob_meets (fun tk => ⟨tk, rfl, rfl⟩) ?_
  rintro obj s₁ ⟨tk, rfl, rfl⟩
  refine ⟨⟨_, Heap.get?_push_size _ rfl, rfl⟩, PySem.F.args_object_init_1 _, _, ob_init, rfl, ?_⟩
  have hk : ∀ b o, s.heap.get? b = some o → (s.heap.push plainO).get? b = some o := fun b o e => Heap.get?_push_of_some _ e
  exact h _ _ _ (F.grownK hk) (News.more (F.grownK hk) (N.grown hk) (Heap.get?_push_size _ rfl) (fun _ _ e => by cases e) (next_is_new F)) fun p hp => Heap.lt_size (N p hp).1
end
section
open PySem.Calls PySem.Spec
noncomputable abbrev iterO (l : Addr) : Obj := { cls := .type "list_iterator", data := .fields #[.ref l, .int 0 0] }
section
variable {prog : Program} {w : World} {A : Around} {E : Value → Shared → Prop} {s : Shared} {env : Env} {h₀ : Heap} {L : Addr} {x : Str} {body : List Stmt}
theorem iter_K {l : Addr} {vs : List Value} {nn : Nat} {m : Str → Option Value} {news : List (Addr × Obj)} {Q : Value → Shared → Prop} (F : Fr h₀ L s.heap m) (N : News h₀ L s.heap news) (hl : (l, listOf vs.toArray nn) ∈ news)
    (h : ∀ I h' tk, Fr h₀ L h' m → News h₀ L h' ((I, iterO l) :: news) → (∀ p ∈ news, p.1 < I) → Q (.ref I) { s with heap := h', toks := tk }) :
    wpAny (model prog w) A (call (.builtin "iter") [.ref l]) Q E s := by
  refine call_function_entry (by decide +kernel) (by decide +kernel) kdk_entry_iter (kdk_args_iter _) ?_
  unfold Builtin.«iter»
  refine wpAny_bind (m := someArgs "iter" 1 2 _) (wpAny_of_eq (a := [Value.ref l]) (by first | rfl | kernel_rfl!) ?_)
  show wpAny _ _ (pyIter (.ref l) >>= _) _ _ _
  have hls : s.heap.IsList l vs.toArray := ⟨_, (N _ hl).1, rfl, nn, rfl⟩
  refine wpAny_bind (wpAny_pyIter_list hls ?_)
  exact wpAny_pure ⟨_, rfl, h _ _ _ (F.push _) (News.push F N _ rfl) fun q hq => Heap.lt_size (N q hq).1⟩

theorem my_forI {σ : Type} {I l : Addr} {vs : List Value} {nn : Nat} {m₀ : Str → Option Value} {rest : List (Addr × Obj)} {Q : Flow → Shared → Prop}
    (Led : σ → List (Addr × Obj)) (ps : σ → List (Str × Value)) (stored : List Str) (P : Nat → σ → Prop) (c₀ : σ)
    (hh : A.handled = none) (F : Fr h₀ env.locals s.heap m₀) (N : News h₀ env.locals s.heap ((I, iterO l) :: rest))
    (hn : ∀ p ∈ Led c₀, p ∈ rest) (hL : ∀ c, (l, listOf vs.toArray nn) ∈ Led c) (hI : ∀ c, ∀ p ∈ Led c, p.1 ≠ I) (hk : ∀ p ∈ ps c₀, m₀ p.1 = some p.2) (hp : P 0 c₀)
    (turn : ∀ i v (c : σ) (u : Str → Option Value) h tk oI, vs[i]? = some v → P i c →
      Fr h₀ env.locals h (fun y => if y = x then some v else kstB (fun z => if stored.contains z then u z else m₀ z) (ps c) y) → News h₀ env.locals h (Led c ++ [(I, oI)]) →
      wpAny (model prog w) A (execs body env) (InvPostG h₀ env.locals (MfJ Led ps x stored m₀ (P (i + 1))) [(I, oI)] { s with heap := h, toks := tk } Q) E { s with heap := h, toks := tk })
    (done : ∀ (c : σ) (u : Str → Option Value) h tk, P vs.length c → Fr h₀ env.locals h (fun y => if y = x then u y else kstB (fun z => if stored.contains z then u z else m₀ z) (ps c) y) → News h₀ env.locals h (Led c) → Q .next { s with heap := h, toks := tk }) :
    wpAny (model prog w) A (pyIter (.ref I)) (fun it s₂ => LoopAtV prog w A h₀ env x body Q E it s₂) E s := by
  have NI := N _ (List.mem_cons_self ..)
  have hNl := N _ (List.mem_cons_of_mem _ (hn _ (hL c₀)))
  have hne : l ≠ I := hI c₀ _ (hL c₀)
  have hls : s.heap.IsList l vs.toArray := ⟨_, hNl.1, rfl, nn, rfl⟩
  have hit : s.heap.IsListIter I l 0 := ⟨_, NI.1, rfl, rfl⟩
  refine wpAny_pyIter_listiter hit ?_
  have W := Walks.list (prog := prog) (w := w) hh I l hne vs.toArray
  have hlen : vs.toArray.size = vs.length := by simp
  rw [hlen] at W
  refine ⟨I, [I, l], [I], vs.length, _, _, m₀, Led c₀, (fun i m nx => MfJ Led ps x stored m₀ (P i) m nx), rfl, W, ?_, ?_, ?_, ⟨hit, hls⟩, F, (fun p hp => N p (List.mem_cons_of_mem _ (hn p hp))), ⟨c₀, rfl, hk, fun _ _ _ _ => rfl, hp⟩, ?_, ?_⟩
  · intro hm
    rcases List.mem_cons.mp hm with e | hm
    · exact NI.2.1 e.symm
    · exact hNl.2.1 (List.mem_singleton.mp hm).symm
  · intro b hb
    rw [List.mem_singleton.mp hb]
    exact NI.2.2
  · intro p hp hq
    exact hI c₀ p hp (List.mem_singleton.mp hq)
  · rintro i v m₁ nx s₁ own ⟨hh', tk', rfl⟩ hin hP ⟨c, rfl, h1, h2, hp'⟩ _ hown hget hfp hst F₁ N₁
    have hP' : vs[i]? = some v := by simpa using hP
    obtain ⟨⟨oI, hoI, _⟩, _⟩ := id hst
    have hIown : (I, oI) ∈ own := hfp I (List.mem_cons_self ..) NI.2.2 oI hoI
    have N₂ : News h₀ env.locals hh' (Led c ++ [(I, oI)]) := fun p hp => N₁ p ((List.mem_append.mp hp).elim (fun h => List.mem_append.mpr (.inr h)) fun h => List.mem_append.mpr (.inl (List.mem_singleton.mp h ▸ hIown)))
    have hlo : hh'.get? l = some (listOf vs.toArray nn) := (N₁ _ (List.mem_append.mpr (.inr (hL c)))).1
    refine wpAny_mono (turn i v c m₁ hh' tk' oI hP' hp' (kst_fr h1 h2 F₁) N₂) (fun f s₂ p => ?_) fun _ _ e => e
    have fin : InvEndG h₀ env.locals (MfJ Led ps x stored m₀ (P (i + 1))) [(I, oI)] { s with heap := hh', toks := tk' } s₂ →
        LoopStepU h₀ env.locals [I] own (MfJ Led ps x stored m₀ (P (i + 1))) { s with heap := hh', toks := tk' } .next s₂ := by
      rintro ⟨h', tk, m', news', nx, e, F', N', hn', ho, _, hm⟩
      obtain ⟨c', rfl, hm⟩ := hm
      refine ⟨rfl, h', tk, m', Led c', e, F', fun p hp => ?_, fun p hp hq => hI c' p hp (List.mem_singleton.mp hq), c', rfl, hm⟩
      rcases List.mem_append.mp hp with h | h
      · have h2 : hh'.get? p.1 = some p.2 := hget p h
        rcases List.mem_cons.mp (hown p h) with h3 | h3
        · rw [h3, hoI] at h2
          have h4 : p = (I, oI) := Prod.ext h3 (Option.some.inj h2).symm
          rw [h4]
          exact N' _ (ho _ (List.mem_singleton.mpr rfl))
        · rw [List.mem_singleton.mp h3, hlo] at h2
          have h4 : p = (l, listOf vs.toArray nn) := Prod.ext (List.mem_singleton.mp h3) (Option.some.inj h2).symm
          rw [h4]
          exact N' _ (hn' _ (hL c'))
      · exact N' p (hn' p h)
    cases f with
    | ret v => exact .ret p
    | brk => exact .brk p
    | next => exact .next (fin p)
    | cont => exact .cont (fin p)
  · rintro h' tk m' news' F' N' _ ⟨c, rfl, h1, h2, hp'⟩
    exact done c m' h' tk hp' (kst_frOut h1 h2 F') N'
end
end
section
open PySem.Calls PySem.Spec
section
variable {prog : Program} {w : World} {A : Around} {E : Value → Shared → Prop} {s : Shared} {h₀ : Heap} {L : Addr} {m : Str → Option Value} {news : List (Addr × Obj)} {Q : Value → Shared → Prop}
theorem ne_ints_known {a b : Addr} {vs us : List Value} {n n' : Nat} {ns ms : List Int} {bb : Bool} (N : News h₀ L s.heap news) (hl : (a, listOf vs.toArray n) ∈ news) (hi : IntsAre vs ns) (hl' : (b, listOf us.toArray n') ∈ news) (hi' : IntsAre us ms) (hu : A.units + 64 < cLine)
    (hb : (!decide (ns = ms)) = bb) (h : Q (.bool bb) s) : wpAny (model prog w) A (compareOp .NotEq (.ref a) (.ref b)) Q E s := by
  subst hb
  exact ne_intsK ⟨_, (N _ hl).1, rfl, n, rfl⟩ hi ⟨_, (N _ hl').1, rfl, n', rfl⟩ hi' hu h
theorem eq_ints_known {a b : Addr} {vs us : List Value} {n n' : Nat} {ns ms : List Int} {bb : Bool} (N : News h₀ L s.heap news) (hl : (a, listOf vs.toArray n) ∈ news) (hi : IntsAre vs ns) (hl' : (b, listOf us.toArray n') ∈ news) (hi' : IntsAre us ms) (hu : A.units + 64 < cLine)
    (hb : (decide (ns = ms)) = bb) (h : Q (.bool bb) s) : wpAny (model prog w) A (compareOp .Eq (.ref a) (.ref b)) Q E s := by
  subst hb
  exact eq_intsK ⟨_, (N _ hl).1, rfl, n, rfl⟩ hi ⟨_, (N _ hl').1, rfl, n', rfl⟩ hi' hu h
theorem ints_kf {vs : List Value} {ns : List Int} (h : IntsAre vs ns) : kf_ints vs = true := by
  induction h with
  | nil => rfl
  | cons _ _ _ ih => exact ih
theorem ints_any {k : Int} {vs : List Value} {ns : List Int} (h : IntsAre vs ns) : vs.any (isInt k) = ns.contains k := by
  induction h with
  | nil => rfl
  | cons a _ _ ih =>
    rw [List.any_cons, List.contains_cons, ih]
    congr 1
    show (decide (a = k)) = (k == a)
    rw [Bool.eq_iff_iff, decide_eq_true_eq, beq_iff_eq]
    exact eq_comm
theorem in_ints_K {a : Addr} {vs : List Value} {n : Nat} {ns : List Int} {k : Int} {t : Tok} (N : News h₀ L s.heap news) (hl : (a, listOf vs.toArray n) ∈ news) (hi : IntsAre vs ns) (h : Q (.bool (ns.contains k)) s) :
    wpAny (model prog w) A (compareOp .In (.int k t) (.ref a)) Q E s :=
  kf_in N hl (by rw [List.toList_toArray]; exact ints_kf hi) (by rw [List.toList_toArray]; exact ints_any hi) h
theorem range_list_K {r : Addr} {a b : Int} {t₀ u₀ v₀ : Tok} {n : Nat} (hh : A.handled = none) (F : Fr h₀ L s.heap m) (N : News h₀ L s.heap news) (hr : IsRange s.heap r a b 1 t₀ u₀ v₀) (ha : 0 ≤ a) (hab : a ≤ b) (hb : b ≤ 1000000) (hn : b = a + (n : Int))
    (h : ∀ D us c h' tk, Fr h₀ L h' m → News h₀ L h' ((D, listOf (List.toArray us) c) :: news) → (∀ p ∈ news, p.1 < D) → IntsAre us (rangeKs a n) → Q (.ref D) { s with heap := h', toks := tk }) :
    wpAny (model prog w) A (call (.type "list") [.ref r]) Q E s := by
  have e : (b - a).toNat = n := by lia
  exact kll_range hh F N hr (small_one (by lia) (by lia) (by lia) (by lia)) (by rw [rangeSize_nat, e]) (by lia) h
theorem tup_K {value slice : Expr} {a : Addr} {vs : List Value} {n : Nat} {k : Int} {u : Tok} {j : Nat} {x : Value} (N : News h₀ L s.heap news) (hl : (a, ({ cls := .type "tuple", data := .seq vs.toArray n } : Obj)) ∈ news) (hlo : -(2 ^ 63) ≤ k) (hhi : k < 2 ^ 63) (hj : seqIndex? k vs.length = some j) (hx : vs[j]? = some x) (h : Q x s)
    (hs : subscripted slice false (.ref a) (.int k u) = operate [.ref a, .int k u] (getItem (.ref a) (.int k u)) := by with_unfolding_all rfl) :
    wpAny (model prog w) A (subscriptTail value slice (.ref a) (.int k u)) Q E s :=
  item_tupleT (News.isTup N hl) hlo hhi hj hx h hs
theorem str_app_len (a b : Str) : (a ++ b).length = a.length + b.length := by simp [Str.length, Str.cps_append]
theorem add_K {x y : Str} {t u : Tok} (hsz : x.length + y.length ≤ 16777216) (h : (x ++ y).length = x.length + y.length → ∀ t' tk, Q (.str (x ++ y) t') { s with toks := tk }) : wpAny (model prog w) A (binaryOp .Add (.str x t) (.str y u)) Q E s :=
  add_str (h (str_app_len x y)) (by rw [sizeLine_eq]; exact hsz)
theorem iadd_K {x y : Str} {t u : Tok} (hsz : x.length + y.length ≤ 16777216) (h : (x ++ y).length = x.length + y.length → ∀ t' tk, Q (.str (x ++ y) t') { s with toks := tk }) : wpAny (model prog w) A (inplaceOp .Add (.str x t) (.str y u)) Q E s :=
  iadd_str (h (str_app_len x y)) (by rw [sizeLine_eq]; exact hsz)
end
theorem rangeKs_nat (a n : Nat) : rangeKs (a : Int) n = (List.range' a n).map fun (k : Nat) => (k : Int) := by
  unfold rangeKs
  rw [List.range'_eq_map_range, List.map_map]
  refine List.map_congr_left fun k _ => ?_
  show (a : Int) + (k : Int) = (((a + k : Nat)) : Int)
  lia
end
section
open PySem.Calls PySem.Spec
theorem find_K {prog : Program} {w : World} {A : Around} {E : Value → Shared → Prop} {s : Shared} {x y : Str} {t u v : Tok} {i : Int} {Q : Value → Shared → Prop} (h0 : 0 ≤ i)
    (h : ∀ r : Int, r = (match findL x.cps.toList y.cps.toList i.toNat with | some k => (k : Int) | none => -1) → Q (.int r s.toks) { s with toks := s.toks + 1 }) : wpAny (model prog w) A (call (.builtin "str.find") [.str x t, .str y u, .int i v]) Q E s := by
  refine SC.find3 (h _ ?_)
  obtain ⟨k, rfl⟩ := Int.eq_ofNat_of_zero_le h0
  rw [find3_L]
  rfl
theorem find_known {prog : Program} {w : World} {A : Around} {E : Value → Shared → Prop} {s : Shared} {x y : Str} {t u v : Tok} {i r : Int} {Q : Value → Shared → Prop} (h0 : 0 ≤ i) (hr : (match findL x.cps.toList y.cps.toList i.toNat with | some k => (k : Int) | none => -1) = r)
    (h : Q (.int r s.toks) { s with toks := s.toks + 1 }) : wpAny (model prog w) A (call (.builtin "str.find") [.str x t, .str y u, .int i v]) Q E s :=
  find_K h0 fun r' e => by rw [e, hr]; exact h
theorem in_known {prog : Program} {w : World} {A : Around} {E : Value → Shared → Prop} {s : Shared} {x y : Str} {t u : Tok} {b : Bool} {Q : Value → Shared → Prop} (hb : (!(Builtin.Str.occurrences x y 0 x.length 1).isEmpty) = b) (h : Q (.bool b) s) : wpAny (model prog w) A (compareOp .In (.str y u) (.str x t)) Q E s := by
  refine in_str ?_
  rw [hb]; exact h
theorem in_signs (s : Str) (n : Nat) : (!(Builtin.Str.occurrences s (S [n]) 0 s.length 1).isEmpty) = decide (n ∈ s.cps.toList) := by
  have h := StrLaws.found_one s n
  have e2 : (⟨#[n]⟩ : Str) = S [n] := rfl
  rw [e2] at h
  rw [h]
section
variable {prog : Program} {w : World} {A : Around} {E : Value → Shared → Prop} {s : Shared} {h₀ : Heap} {L : Addr} {m : Str → Option Value} {news : List (Addr × Obj)}
theorem get_last_K {l : Addr} {vs : List Value} {v : Value} {n : Nat} {u : Tok} {Q : Value → Shared → Prop} (N : News h₀ L s.heap news) (hl : (l, listOf (vs ++ [v]).toArray n) ∈ news) (hz : vs.length ≤ 1000000) (h : Q v s) :
    wpAny (model prog w) A (getItem (.ref l) (.int (-1) u)) Q E s := by
  have hls : s.heap.IsList l (vs ++ [v]).toArray := ⟨_, (N _ hl).1, rfl, n, rfl⟩
  refine wpAny_getItem_list_neg hls (by decide) ?_ (by decide) ?_ h
  · rw [List.size_toArray, List.length_append, List.length_singleton]; lia
  · rw [List.size_toArray, List.length_append, List.length_singleton]
    have : (-1 + (((vs.length + 1 : Nat)) : Int)).toNat = vs.length := by lia
    rw [this]
    simp
theorem set_last_K {l : Addr} {vs : List Value} {v v' : Value} {n : Nat} {u : Tok} {Q : Unit → Shared → Prop} {rest : List (Addr × Obj)} (F : Fr h₀ L s.heap m) (N : News h₀ L s.heap ((l, listOf (vs ++ [v]).toArray n) :: rest)) (hr : ∀ p ∈ rest, p.1 ≠ l) (hz : vs.length ≤ 1000000)
    (h : ∀ h', Fr h₀ L h' m → News h₀ L h' ((l, listOf (vs ++ [v']).toArray n) :: rest) → Q () { s with heap := h' }) :
    wpAny (model prog w) A (setItem (.ref l) (.int (-1) u) v') Q E s := by
  have z := N (l, listOf (vs ++ [v]).toArray n) (List.mem_cons_self ..)
  have hs : (vs ++ [v]).toArray.size = vs.length + 1 := by rw [List.size_toArray, List.length_append, List.length_singleton]
  refine ki_setBack z.1 (by decide) (by rw [hs]; lia) (by decide) (h _ (F.change (Heap.SameBut.update ..) z.2.1 z.2.2) ?_)
  refine ki_turn (pre := []) _ N (fun _ h => by cases h) hr ?_ ?_
  · rw [hs]
    have : (-1 + (((vs.length + 1 : Nat)) : Int)).toNat = vs.length := by lia
    rw [this]
    apply Array.toList_inj.mp
    simp
  · simp
end
end
section
open PySem.Calls PySem.Spec

local macro_rules | `(tactic| walk_at "compareOp In str ref") => `(tactic| ((rename _ = 42 ∨ _ = 63 ∨ _ = 91 => hc9); (refine Pause.out ?_)))
theorem truthy_one {prog : Program} {w : World} {A : Around} {E : Value → Shared → Prop} {s : Shared} {c : Nat} {t : Tok} {Q : Bool → Shared → Prop} (h : Q true { s with toks := s.toks + 1 + 1 }) : wpAny (model prog w) A (truthy (.str (S [c]) t)) Q E s :=
  PySem.P.truthy_str (by rw [S_len]; exact (by decide : ¬ ((1 : Nat) : Int) ≥ 2 ^ 63)) (by rw [S_len]; exact h)
local macro_rules | `(tactic| walk_at "truthy str") => `(tactic| refine PauseK.o 0 ?_)
local macro_rules | `(tactic| walk_at "KswEnd") => `(tactic| (refine Pause.out ?_))
local macro_rules | `(tactic| walk_at "execs cons") => `(tactic| ((with_reducible show wpAny _ _ (execs (Stmt.While _ _ _ _ :: _) _) _ _ _); (refine Pause.out ?_)))
local macro_rules | `(tactic| walk_at "getAttr ref") => `(tactic| refine PauseK.o 1 ?_)
local macro_rules | `(tactic| walk_at "callWith ref") => `(tactic| (k_here; with_unfolding_all (refine' callWith_add2 ‹_› (by k_mem) ?_ (by exact rfl))))
local macro_rules | `(tactic| walk_at "And") => `(tactic| ((with_reducible show Str.length (_ ++ _) ≤ sizeLine ∧ _); k_dflt (refine' And.intro (by decide +kernel) ?_)))
local macro_rules | `(tactic| walk_at "And") => `(tactic| (k_here; (with_reducible refine' And.intro (by (k_dflt exact (‹News _ _ _ _› (_, _) (by k_mem)).1)) ?_)))
local macro_rules | `(tactic| walk_at "call ref") => `(tactic| refine PauseK.o 2 ?_)
local macro_rules | `(tactic| walk_at "subscriptTail Name Name str int") => `(tactic| refine PauseK.o 3 ?_)
local macro_rules | `(tactic| walk_at "subscriptTail Name Slice str ref") => `(tactic| refine PauseK.o 4 ?_)
local macro_rules | `(tactic| walk_at "subscriptTail Name UnaryOp ref int") => `(tactic| refine PauseK.o 5 ?_)
local macro_rules | `(tactic| walk_at "compareOp Eq str str") => `(tactic| (k_here; k_dflt (refine' eq_known (b := false) ‹_› ?_)))
theorem notin_known {prog : Program} {w : World} {A : Around} {E : Value → Shared → Prop} {s : Shared} {x y : Str} {t u : Tok} {b : Bool} {Q : Value → Shared → Prop} (hb : (Builtin.Str.occurrences x y 0 x.length 1).isEmpty = b) (h : Q (.bool b) s) : wpAny (model prog w) A (compareOp .NotIn (.str y u) (.str x t)) Q E s := by
  refine notIn_str ?_
  rw [Bool.not_not, hb]
  exact h
theorem ne_known9 {prog : Program} {w : World} {A : Around} {E : Value → Shared → Prop} {s : Shared} {x y : Str} {t u : Tok} {b : Bool} {Q : Value → Shared → Prop} (hb : (x == y) = b) (h : Q (.bool (!b)) s) : wpAny (model prog w) A (compareOp .NotEq (.str x t) (.str y u)) Q E s := by
  subst hb
  exact ne_str h
local macro_rules | `(tactic| walk_at "compareOp NotEq str str") => `(tactic| (k_here; k_dflt (refine' ne_known9 (b := false) ‹_› ?_); walk_at "my d"))
local macro_rules | `(tactic| walk_at "compareOp NotIn str str") => `(tactic| refine PauseK.o 6 ?_)
theorem isnot_sr {M : Model} {A : Around} {E : Value → Shared → Prop} {s : Shared} {x : Str} {t : Tok} {a : Addr} {Q : Value → Shared → Prop} (h : Q (.bool true) s) : wpAny M A (compareOp .IsNot (.str x t) (.ref a)) Q E s := fun _ _ _ => h
local macro_rules | `(tactic| walk_at "compareOp IsNot str ref") => `(tactic| refine PauseK.o 7 ?_)
local macro_rules | `(tactic| walk_at "getMethod ref") => `(tactic| refine PauseK.o 8 ?_)
local macro_rules | `(tactic| walk_at "call builtin:re.Pattern.sub") => `(tactic| refine PauseK.o 9 ?_)
local macro_rules | `(tactic| walk_at "eval Lambda") => `(tactic| refine PauseK.o 10 ?_)
local macro_rules | `(tactic| walk_at "truthy ref") => `(tactic| refine PauseK.o 11 ?_)
local macro_rules | `(tactic| walk_at "call builtin:str.replace") => `(tactic| refine PauseK.o 12 ?_)
local macro_rules | `(tactic| walk_at "execs cons") => `(tactic| (k_here; (refine' toks_keep ?k1 ?_); (case k1 => ((fail_if_success assumption); first | exact Nat.le_add_left 1 _ | lia)); (try (rename 1 ≤ _ => old'; clear old')); intro tk' htk'))

theorem ResIs.snoc_inv {aS : Addr} {os vs v} (h : ResIs aS os (vs ++ [v])) : ∃ os' o, os = os' ++ [o] ∧ ResIs aS os' vs ∧ (o = none ∧ v = .ref aS ∨ ∃ r t, o = some r ∧ v = .str (S r) t) := by
  induction vs generalizing os with
  | nil =>
    cases h with
    | star h => cases h; exact ⟨[], none, rfl, .nil, .inl ⟨rfl, rfl⟩⟩
    | re r t h => cases h; exact ⟨[], some r, rfl, .nil, .inr ⟨r, t, rfl, rfl⟩⟩
  | cons w vs ih =>
    cases h with
    | star h => obtain ⟨os', o, rfl, h1, h2⟩ := ih h; exact ⟨none :: os', o, rfl, .star h1, h2⟩
    | re r t h => obtain ⟨os', o, rfl, h1, h2⟩ := ih h; exact ⟨some r :: os', o, rfl, .re r t h1, h2⟩

structure S104 where
  pre : List Tk
  us : List Value
  n : Nat
  T : Obj
  ti : Tok

theorem OkT.tab {pos : Pos} {T : Obj} (h : OkT pos T) : ∃ ps, T = tabObj ps := by
  rcases h with rfl | ⟨c', rfl⟩
  · exact ⟨_, rfl⟩
  · exact ⟨_, rfl⟩
noncomputable abbrev lamPos : Pos := ⟨137, 39, 137, 76⟩
theorem ResIs.snoc_reX {aS : Addr} {os vs} (h : ResIs aS os vs) {r : List Nat} {x : Str} {t : Tok} (hx : x = S r) : ResIs aS (os ++ [some r]) (vs ++ [.str x t]) := hx ▸ h.snoc_re r t

theorem end104 {aS am lr : Addr} {toks pre post : List Tk} {tok : Tk} {g : Heap} {L : Addr} {s : Shared} {h' : Heap} {tk n n' : Nat} {us us' : List Value} {TT TT' : Obj} {ti ti' : Tok} {m₀ m' : Str → Option Value} {news : List (Addr × Obj)} {k : Int}
  (hpost : toks = pre ++ tok :: post) (hk9 : k = ((render pre).length : Int) + ((rTk tok).length : Int))
  (F : Fr g L h' m') (N : News g L h' ((am, boundO lr) :: (lr, listOf us'.toArray n') :: (99, TT') :: news)) (hres : ResIs aS (outTk (pre ++ [tok])) us') (hT : OkT lamPos TT')
  (hk : m' (Str.ofString "i") = some (.int k ti'))
  (hr : ∀ z, (∀ p ∈ [(Str.ofString "i", Value.int k ti')], z ≠ p.1) → [Str.ofString "c", Str.ofString "j", Str.ofString "stuff", Str.ofString "chunks", Str.ofString "k", Str.ofString "chunk"].contains z = false → m' z = m₀ z) :
  KswEnd (σ := S104) g L s (fun c => (am, boundO lr) :: (lr, listOf c.us.toArray c.n) :: (99, c.T) :: news) (fun c => [(Str.ofString "i", .int ((render c.pre).length : Int) c.ti)]) (fun _ => True)
    [Str.ofString "c", Str.ofString "j", Str.ofString "stuff", Str.ofString "chunks", Str.ofString "k", Str.ofString "chunk"] m₀
    (fun c => ∃ post, toks = c.pre ++ post ∧ ResIs aS (outTk c.pre) c.us ∧ OkT lamPos c.T) (fun c => toks.length - c.pre.length) ⟨pre, us, n, TT, ti⟩ { s with heap := h', toks := tk } := by
  have e : ((render (pre ++ [tok])).length : Int) = k := by
    rw [hk9, render_append, List.length_append, render_cons]
    simp [render]
  refine ksw_end ⟨pre ++ [tok], us', n', TT', ti'⟩ F N (fun _ h => h) trivial ?_ ?_ ⟨post, by rw [hpost]; simp, hres, hT⟩ ?_
  · intro p hp
    rcases List.mem_singleton.mp hp with rfl
    dsimp only
    rw [e]
    exact hk
  · intro z h1 h2
    refine hr z (fun p hp => ?_) h2
    rcases List.mem_singleton.mp hp with rfl
    exact h1 (Str.ofString "i", Value.int ((render (pre ++ [tok])).length : Int) ti') (List.mem_singleton.mpr rfl)
  · dsimp only
    rw [hpost]
    simp only [List.length_append, List.length_cons, List.length_nil]
    lia

theorem h_idx {toks pre post : List Tk} {t : Tk} {l : List Nat} (hl : l = render toks) (e : toks = pre ++ t :: post) (j : Nat) (hj : j < (rTk t).length) {k : Int} (hk : k = ((render pre).length : Int) + (j : Int)) {c : Nat} (hc : (rTk t)[j]? = some c) :
    (S l).cps.toList[k.toNat]? = some c := by
  rw [S_cps, hk, show (((render pre).length : Int) + (j : Int)).toNat = (render pre).length + j by lia, hl, e, at_tok rfl j hj, hc]

set_option linter.unusedVariables false in
theorem c104 (w : World) (p : Program) (loose : List Str) (mean : ExcName → Option Value) (mg mb : Str → Option Value) (news : List (Addr × Obj)) (aS : Addr) (oS : Obj) (l : List Nat) (t tq : Tok) (toks : List Tk)
   (hS : (aS, oS) ∈ news) (h99 : ∀ p ∈ news, p.1 ≠ 99) (hlr : l = render toks) (htk : ∀ t ∈ toks, okTk t) (hl : l.length ≤ 20000) :
  ∀ (dp un : Nat) (gd : Option (List Code)) (cn : Str) (cs : Scope) (a : Addr) (ccd : Value) (cl : List (Str × Addr)) (outer : List Env) (A₀ : Around) (base h₀ : Heap) (L : Addr) (m : Str → Option Value) (s : Shared) (Q E : Value → Shared → Prop),
    Below A₀ base outer h₀ → Fr h₀ L s.heap m → (hd.heap_39 w.params).In h₀ → News h₀ L s.heap ((99, tabObj #[]) :: news) → Top p loose mean mg mb h₀ → CodeHd base 103 99 → cs.kind = .function →
    dp + 3 < recursionLimit → un + 8 * 3 < cLine →
    (∀ v h' tk', (∃ lr us n ps, v = .ref lr ∧ ResIs aS (outTk toks) us ∧ (∀ p ∈ news, p.1 < lr) ∧ News h₀ L h' ((lr, listOf us.toArray n) :: (99, tabObj ps) :: news)) → Fr h₀ L h' m → Q v { s with heap := h', toks := tk' }) →
      wpAny (model PG w) (ktrTop dp un gd cn cs L a ccd cl outer) (call (.ref 104) [.str (S l) t, .ref aS, .str (S [46]) tq]) Q E s := by
  w_top off
  intro dp un gd cn cs a ccd cl outer A₀ base h₀ L m s Q E B F X N T hC hk hd hu hret
  have hfl : (S l).length ≤ 20000 := by rw [S_len]; exact hl
  refine wpAny_call ?_
  k_dflt cell_enter
  (k_steps; repeat' ((first | ((with_reducible refine PauseK.mk (n := 0) ?_); with_reducible (k_here; with_reducible refine truthy_one ?_; (try dsimp only))) | ((with_reducible refine PauseK.mk (n := 1) ?_); with_reducible (k_here; k_dflt (refine' getAttr_append_K ‹_› ‹_› (by k_mem) ?_); ((rename Fr _ _ _ _ => lF'); (rename News _ _ _ _ => lN'); clear lF' lN'; intros; (try dsimp only)))) | ((with_reducible refine PauseK.mk (n := 2) ?_); with_reducible (k_here; k_dflt (refine' call_add_K ‹_› (by first | assumption | exact ntl ‹_› | exact ntl (ntl ‹_›)) ‹_› (by exact (by assumption : ∀ (T : Obj) (p : Addr × Obj), p ∈ (99, T) :: _ → p.1 ≠ _) _) (by first | assumption | lia | (rw [List.length_append, List.length_singleton]; lia)) ?_); ((rename Fr _ _ _ _ => lF'); (rename News _ _ _ _ => lN'); clear lF' lN'; intros; (try dsimp only)))) | ((with_reducible refine PauseK.mk (n := 2) ?_); with_reducible (k_here; with_unfolding_all (refine' useS ‹_› ‹_› ‹_› ‹_› ‹_› (by first | exact rfl | assumption) (c97 _ _ _ _ _ _ _ _ ‹_› _) (by ktr_room) (by ktr_units) ?_); (intro v' h' tk' hR' F' N'; obtain ⟨t', hR'⟩ := hR'; subst hR'; (try dsimp only); (try k_fold)))) | ((with_reducible refine PauseK.mk (n := 3) ?_); with_reducible (k_here; k_dflt (refine' idx_K2 (by first | assumption | lia) ‹_› (by first | assumption | lia) ?_ (by with_unfolding_all rfl) (by (intro _; with_unfolding_all rfl))); (try dsimp only))) | ((with_reducible refine PauseK.mk (n := 4) ?_); with_reducible (k_here; (with_reducible show wpAny _ _ (subscriptTail _ (Expr.Slice (some _) (some _) none _) (Value.str _ _) (Value.ref _)) _ _ _); k_dflt (refine' slice_ss_K2 (s := ⟨_, _, _, _, _⟩) ‹_› ‹_› (by first | assumption | lia) (by first | assumption | lia) (by first | assumption | lia) ‹_› ?_ (by with_unfolding_all rfl) (by (intro _; with_unfolding_all rfl))); ((rename Fr _ _ _ _ => lF'); (rename News _ _ _ _ => lN'); clear lF' lN'; intros; (try dsimp only)))) | ((with_reducible refine PauseK.mk (n := 5) ?_); with_reducible (k_here; (with_reducible show wpAny _ _ (subscriptTail _ _ (Value.ref _) (Value.int (-1) _)) _ _ _); k_dflt (refine' last_K ‹_› (by k_mem) (by first | assumption | lia) ?_ (by with_unfolding_all rfl)))) | ((with_reducible refine PauseK.mk (n := 6) ?_); with_reducible (k_here; (refine' notin_known ‹_› ?_); (try dsimp only))) | ((with_reducible refine PauseK.mk (n := 7) ?_); with_reducible (k_here; refine isnot_sr ?_)) | ((with_reducible refine PauseK.mk (n := 8) ?_); with_reducible (k_here; k_dflt (refine' gm_sub_K (by k_asm) ‹_› ?_); (try dsimp only))) | ((with_reducible refine PauseK.mk (n := 9) ?_); with_reducible (k_here; k_dflt (refine' sub_K (by first | decide | assumption) _ (by k_asm) ‹_› ‹_› (by k_mem) ‹_› ?_); ((rename Fr _ _ _ _ => lF'); (rename News _ _ _ _ => lN'); clear lF' lN'; intros; (try dsimp only)))) | ((with_reducible refine PauseK.mk (n := 10) ?_); with_reducible (k_here; k_dflt (refine' lam_K (by exact rfl) ‹_› ‹_› (by k_asm) (by kn_code) ‹_› ‹_› ‹_› ‹_› (by exact rfl) ?_); ((rename Fr _ _ _ _ => lF'); (rename News _ _ _ _ => lN'); clear lF' lN'; intros; (try dsimp only)))) | ((with_reducible refine PauseK.mk (n := 11) ?_); with_reducible (k_here; k_dflt (refine' truthy_known ‹_› (by k_mem) (by first | lia | (rw [List.length_append, List.length_singleton]; lia)) ‹_› ?_); (try dsimp only))) | ((with_reducible refine PauseK.mk (n := 12) ?_); (k_here; (refine' replace_known (by exact Nat.ne_of_gt (by assumption)) (by exact Nat.succ_ne_zero _) (by exact Nat.ne_of_lt (Nat.lt_succ_self _)) (by decide +kernel) (by first | decide +kernel | (rw [S_len]; exact (by decide : 1 ≤ 1048576))) (by decide +kernel) ‹_› ?_); (intros; (try dsimp only))))); k_steps))
  rename_i g1 L1 h1 FG B1 X1 T1 lr h2 q1 h3 tk2 am h4 tk3 q2 q3 h5 tk4 D1 h6 q4 h7 h8 h9 F1 N1 tk9 htk9
  refine Pause.mk ?_
  refine wpAny_execs_cons ?_
  have hna : am ≠ 99 := Nat.ne_of_gt (Nat.lt_trans q1.1 q2)
  have hnl : lr ≠ 99 := Nat.ne_of_gt q1.1
  have hq : ∀ p ∈ (99, tabObj #[]) :: news, p.1 ≠ lr := by
    intro p hp
    rcases List.mem_cons.mp hp with rfl | hp
    · exact Nat.ne_of_lt q1.1
    · exact Nat.ne_of_lt (kst_ltOf q1.2 p hp)
  with_unfolding_all refine ksw_while (σ := S104) (fun c => (am, boundO lr) :: (lr, listOf c.us.toArray c.n) :: (99, c.T) :: news) (fun c => [(Str.ofString "i", .int ((render c.pre).length : Int) c.ti)]) (fun _ => True) [Str.ofString "c", Str.ofString "j", Str.ofString "stuff", Str.ofString "chunks", Str.ofString "k", Str.ofString "chunk"] (fun c => ∃ post, toks = c.pre ++ post ∧ ResIs aS (outTk c.pre) c.us ∧ OkT lamPos c.T) (fun c => toks.length - c.pre.length) ⟨[], [], 0, tabObj #[], _⟩ F1 (fun p hp => N1 p (List.mem_cons_of_mem _ hp)) trivial (by kst_all) ⟨toks, rfl, .nil, .inl rfl⟩ ?_
  rintro ⟨pre, us, n, TT, ti⟩ u h tk _ ⟨post, hpost, hres, hokT⟩ F2 N2
  dsimp only at hpost hres hokT F2 N2
  have hul : us.length ≤ 20000 := by
    rw [← hres.len]
    have h1 := outTk_len pre
    have h2 := render_len_ge pre
    have h3 : (render pre).length ≤ l.length := by rw [hlr, hpost, render_append, List.length_append]; lia
    lia
  have hq' : ∀ (T : Obj) (p : Addr × Obj), p ∈ (99, T) :: news → p.1 ≠ lr := by
    intro T9 p hp
    rcases List.mem_cons.mp hp with rfl | hp
    · exact Nat.ne_of_lt q1.1
    · exact hq p (List.mem_cons_of_mem _ hp)
  have hlen : ((S l).length : Int) = (l.length : Int) := by rw [S_len]
  cases post with
  | nil =>
    have e1 : (render pre).length = l.length := by rw [hlr, hpost, List.append_nil]
    (k_steps; repeat' ((first | ((with_reducible refine PauseK.mk (n := 0) ?_); with_reducible (k_here; with_reducible refine truthy_one ?_; (try dsimp only))) | ((with_reducible refine PauseK.mk (n := 1) ?_); with_reducible (k_here; k_dflt (refine' getAttr_append_K ‹_› ‹_› (by k_mem) ?_); ((rename Fr _ _ _ _ => lF'); (rename News _ _ _ _ => lN'); clear lF' lN'; intros; (try dsimp only)))) | ((with_reducible refine PauseK.mk (n := 2) ?_); with_reducible (k_here; k_dflt (refine' call_add_K ‹_› (by first | assumption | exact ntl ‹_› | exact ntl (ntl ‹_›)) ‹_› (by exact (by assumption : ∀ (T : Obj) (p : Addr × Obj), p ∈ (99, T) :: _ → p.1 ≠ _) _) (by first | assumption | lia | (rw [List.length_append, List.length_singleton]; lia)) ?_); ((rename Fr _ _ _ _ => lF'); (rename News _ _ _ _ => lN'); clear lF' lN'; intros; (try dsimp only)))) | ((with_reducible refine PauseK.mk (n := 2) ?_); with_reducible (k_here; with_unfolding_all (refine' useS ‹_› ‹_› ‹_› ‹_› ‹_› (by first | exact rfl | assumption) (c97 _ _ _ _ _ _ _ _ ‹_› _) (by ktr_room) (by ktr_units) ?_); (intro v' h' tk' hR' F' N'; obtain ⟨t', hR'⟩ := hR'; subst hR'; (try dsimp only); (try k_fold)))) | ((with_reducible refine PauseK.mk (n := 3) ?_); with_reducible (k_here; k_dflt (refine' idx_K2 (by first | assumption | lia) ‹_› (by first | assumption | lia) ?_ (by with_unfolding_all rfl) (by (intro _; with_unfolding_all rfl))); (try dsimp only))) | ((with_reducible refine PauseK.mk (n := 4) ?_); with_reducible (k_here; (with_reducible show wpAny _ _ (subscriptTail _ (Expr.Slice (some _) (some _) none _) (Value.str _ _) (Value.ref _)) _ _ _); k_dflt (refine' slice_ss_K2 (s := ⟨_, _, _, _, _⟩) ‹_› ‹_› (by first | assumption | lia) (by first | assumption | lia) (by first | assumption | lia) ‹_› ?_ (by with_unfolding_all rfl) (by (intro _; with_unfolding_all rfl))); ((rename Fr _ _ _ _ => lF'); (rename News _ _ _ _ => lN'); clear lF' lN'; intros; (try dsimp only)))) | ((with_reducible refine PauseK.mk (n := 5) ?_); with_reducible (k_here; (with_reducible show wpAny _ _ (subscriptTail _ _ (Value.ref _) (Value.int (-1) _)) _ _ _); k_dflt (refine' last_K ‹_› (by k_mem) (by first | assumption | lia) ?_ (by with_unfolding_all rfl)))) | ((with_reducible refine PauseK.mk (n := 6) ?_); with_reducible (k_here; (refine' notin_known ‹_› ?_); (try dsimp only))) | ((with_reducible refine PauseK.mk (n := 7) ?_); with_reducible (k_here; refine isnot_sr ?_)) | ((with_reducible refine PauseK.mk (n := 8) ?_); with_reducible (k_here; k_dflt (refine' gm_sub_K (by k_asm) ‹_› ?_); (try dsimp only))) | ((with_reducible refine PauseK.mk (n := 9) ?_); with_reducible (k_here; k_dflt (refine' sub_K (by first | decide | assumption) _ (by k_asm) ‹_› ‹_› (by k_mem) ‹_› ?_); ((rename Fr _ _ _ _ => lF'); (rename News _ _ _ _ => lN'); clear lF' lN'; intros; (try dsimp only)))) | ((with_reducible refine PauseK.mk (n := 10) ?_); with_reducible (k_here; k_dflt (refine' lam_K (by exact rfl) ‹_› ‹_› (by k_asm) (by kn_code) ‹_› ‹_› ‹_› ‹_› (by exact rfl) ?_); ((rename Fr _ _ _ _ => lF'); (rename News _ _ _ _ => lN'); clear lF' lN'; intros; (try dsimp only)))) | ((with_reducible refine PauseK.mk (n := 11) ?_); with_reducible (k_here; k_dflt (refine' truthy_known ‹_› (by k_mem) (by first | lia | (rw [List.length_append, List.length_singleton]; lia)) ‹_› ?_); (try dsimp only))) | ((with_reducible refine PauseK.mk (n := 12) ?_); (k_here; (refine' replace_known (by exact Nat.ne_of_gt (by assumption)) (by exact Nat.succ_ne_zero _) (by exact Nat.ne_of_lt (Nat.lt_succ_self _)) (by decide +kernel) (by first | decide +kernel | (rw [S_len]; exact (by decide : 1 ≤ 1048576))) (by decide +kernel) ‹_› ?_); (intros; (try dsimp only))))); k_steps))
    · obtain ⟨ps, rfl⟩ := hokT.tab
      exact hret _ _ _ ⟨_, _, _, _, rfl, by rw [hpost, List.append_nil]; exact hres, fun p hp => kst_ltOf q1.2 p hp, cb_drop (by assumption) fun p hp => List.mem_cons_of_mem _ hp⟩ (by assumption)
    · exfalso
      lia
  | cons tok post =>
    have hok := htk tok (by rw [hpost]; simp)
    have e1 : (render pre).length + (rTk tok).length ≤ l.length := by rw [hlr, hpost, render_append, render_cons, List.length_append, List.length_append]; lia
    have e2 := rTk_pos tok
    cases tok with
    | star =>
      have hx := h_idx hlr hpost 0 (by decide) (k := ((render pre).length : Int)) (by lia) (c := 42) rfl
      rcases List.eq_nil_or_concat us with e9 | ⟨vs, v, e9⟩
      · subst e9
        have hb : (!([] : List Value).isEmpty) = false := rfl
        (k_steps; repeat' ((first | ((with_reducible refine PauseK.mk (n := 0) ?_); with_reducible (k_here; with_reducible refine truthy_one ?_; (try dsimp only))) | ((with_reducible refine PauseK.mk (n := 1) ?_); with_reducible (k_here; k_dflt (refine' getAttr_append_K ‹_› ‹_› (by k_mem) ?_); ((rename Fr _ _ _ _ => lF'); (rename News _ _ _ _ => lN'); clear lF' lN'; intros; (try dsimp only)))) | ((with_reducible refine PauseK.mk (n := 2) ?_); with_reducible (k_here; k_dflt (refine' call_add_K ‹_› (by first | assumption | exact ntl ‹_› | exact ntl (ntl ‹_›)) ‹_› (by exact (by assumption : ∀ (T : Obj) (p : Addr × Obj), p ∈ (99, T) :: _ → p.1 ≠ _) _) (by first | assumption | lia | (rw [List.length_append, List.length_singleton]; lia)) ?_); ((rename Fr _ _ _ _ => lF'); (rename News _ _ _ _ => lN'); clear lF' lN'; intros; (try dsimp only)))) | ((with_reducible refine PauseK.mk (n := 2) ?_); with_reducible (k_here; with_unfolding_all (refine' useS ‹_› ‹_› ‹_› ‹_› ‹_› (by first | exact rfl | assumption) (c97 _ _ _ _ _ _ _ _ ‹_› _) (by ktr_room) (by ktr_units) ?_); (intro v' h' tk' hR' F' N'; obtain ⟨t', hR'⟩ := hR'; subst hR'; (try dsimp only); (try k_fold)))) | ((with_reducible refine PauseK.mk (n := 3) ?_); with_reducible (k_here; k_dflt (refine' idx_K2 (by first | assumption | lia) ‹_› (by first | assumption | lia) ?_ (by with_unfolding_all rfl) (by (intro _; with_unfolding_all rfl))); (try dsimp only))) | ((with_reducible refine PauseK.mk (n := 4) ?_); with_reducible (k_here; (with_reducible show wpAny _ _ (subscriptTail _ (Expr.Slice (some _) (some _) none _) (Value.str _ _) (Value.ref _)) _ _ _); k_dflt (refine' slice_ss_K2 (s := ⟨_, _, _, _, _⟩) ‹_› ‹_› (by first | assumption | lia) (by first | assumption | lia) (by first | assumption | lia) ‹_› ?_ (by with_unfolding_all rfl) (by (intro _; with_unfolding_all rfl))); ((rename Fr _ _ _ _ => lF'); (rename News _ _ _ _ => lN'); clear lF' lN'; intros; (try dsimp only)))) | ((with_reducible refine PauseK.mk (n := 5) ?_); with_reducible (k_here; (with_reducible show wpAny _ _ (subscriptTail _ _ (Value.ref _) (Value.int (-1) _)) _ _ _); k_dflt (refine' last_K ‹_› (by k_mem) (by first | assumption | lia) ?_ (by with_unfolding_all rfl)))) | ((with_reducible refine PauseK.mk (n := 6) ?_); with_reducible (k_here; (refine' notin_known ‹_› ?_); (try dsimp only))) | ((with_reducible refine PauseK.mk (n := 7) ?_); with_reducible (k_here; refine isnot_sr ?_)) | ((with_reducible refine PauseK.mk (n := 8) ?_); with_reducible (k_here; k_dflt (refine' gm_sub_K (by k_asm) ‹_› ?_); (try dsimp only))) | ((with_reducible refine PauseK.mk (n := 9) ?_); with_reducible (k_here; k_dflt (refine' sub_K (by first | decide | assumption) _ (by k_asm) ‹_› ‹_› (by k_mem) ‹_› ?_); ((rename Fr _ _ _ _ => lF'); (rename News _ _ _ _ => lN'); clear lF' lN'; intros; (try dsimp only)))) | ((with_reducible refine PauseK.mk (n := 10) ?_); with_reducible (k_here; k_dflt (refine' lam_K (by exact rfl) ‹_› ‹_› (by k_asm) (by kn_code) ‹_› ‹_› ‹_› ‹_› (by exact rfl) ?_); ((rename Fr _ _ _ _ => lF'); (rename News _ _ _ _ => lN'); clear lF' lN'; intros; (try dsimp only)))) | ((with_reducible refine PauseK.mk (n := 11) ?_); with_reducible (k_here; k_dflt (refine' truthy_known ‹_› (by k_mem) (by first | lia | (rw [List.length_append, List.length_singleton]; lia)) ‹_› ?_); (try dsimp only))) | ((with_reducible refine PauseK.mk (n := 12) ?_); (k_here; (refine' replace_known (by exact Nat.ne_of_gt (by assumption)) (by exact Nat.succ_ne_zero _) (by exact Nat.ne_of_lt (Nat.lt_succ_self _)) (by decide +kernel) (by first | decide +kernel | (rw [S_len]; exact (by decide : 1 ≤ 1048576))) (by decide +kernel) ‹_› ?_); (intros; (try dsimp only))))); k_steps))
        rename Fr _ _ _ _ => F9
        rename News _ _ _ _ => N9
        have hor : outTk pre = [] := List.length_eq_zero_iff.mp hres.len
        refine Pause.mk ?_
        exact end104 hpost rfl F9 N9 (by rw [outTk_snoc, hor]; exact .star .nil) hokT (by with_unfolding_all rfl) (by walk_at "my same2")
      · rw [List.concat_eq_append] at e9
        subst e9
        have hb : (!(vs ++ [v]).isEmpty) = true := by simp
        rw [List.length_append, List.length_singleton] at hul
        obtain ⟨os', o, ho, hr1, hv⟩ := hres.snoc_inv
        rcases hv with ⟨rfl, rfl⟩ | ⟨r, t9, rfl, rfl⟩
        · (k_steps; repeat' ((first | ((with_reducible refine PauseK.mk (n := 0) ?_); with_reducible (k_here; with_reducible refine truthy_one ?_; (try dsimp only))) | ((with_reducible refine PauseK.mk (n := 1) ?_); with_reducible (k_here; k_dflt (refine' getAttr_append_K ‹_› ‹_› (by k_mem) ?_); ((rename Fr _ _ _ _ => lF'); (rename News _ _ _ _ => lN'); clear lF' lN'; intros; (try dsimp only)))) | ((with_reducible refine PauseK.mk (n := 2) ?_); with_reducible (k_here; k_dflt (refine' call_add_K ‹_› (by first | assumption | exact ntl ‹_› | exact ntl (ntl ‹_›)) ‹_› (by exact (by assumption : ∀ (T : Obj) (p : Addr × Obj), p ∈ (99, T) :: _ → p.1 ≠ _) _) (by first | assumption | lia | (rw [List.length_append, List.length_singleton]; lia)) ?_); ((rename Fr _ _ _ _ => lF'); (rename News _ _ _ _ => lN'); clear lF' lN'; intros; (try dsimp only)))) | ((with_reducible refine PauseK.mk (n := 2) ?_); with_reducible (k_here; with_unfolding_all (refine' useS ‹_› ‹_› ‹_› ‹_› ‹_› (by first | exact rfl | assumption) (c97 _ _ _ _ _ _ _ _ ‹_› _) (by ktr_room) (by ktr_units) ?_); (intro v' h' tk' hR' F' N'; obtain ⟨t', hR'⟩ := hR'; subst hR'; (try dsimp only); (try k_fold)))) | ((with_reducible refine PauseK.mk (n := 3) ?_); with_reducible (k_here; k_dflt (refine' idx_K2 (by first | assumption | lia) ‹_› (by first | assumption | lia) ?_ (by with_unfolding_all rfl) (by (intro _; with_unfolding_all rfl))); (try dsimp only))) | ((with_reducible refine PauseK.mk (n := 4) ?_); with_reducible (k_here; (with_reducible show wpAny _ _ (subscriptTail _ (Expr.Slice (some _) (some _) none _) (Value.str _ _) (Value.ref _)) _ _ _); k_dflt (refine' slice_ss_K2 (s := ⟨_, _, _, _, _⟩) ‹_› ‹_› (by first | assumption | lia) (by first | assumption | lia) (by first | assumption | lia) ‹_› ?_ (by with_unfolding_all rfl) (by (intro _; with_unfolding_all rfl))); ((rename Fr _ _ _ _ => lF'); (rename News _ _ _ _ => lN'); clear lF' lN'; intros; (try dsimp only)))) | ((with_reducible refine PauseK.mk (n := 5) ?_); with_reducible (k_here; (with_reducible show wpAny _ _ (subscriptTail _ _ (Value.ref _) (Value.int (-1) _)) _ _ _); k_dflt (refine' last_K ‹_› (by k_mem) (by first | assumption | lia) ?_ (by with_unfolding_all rfl)))) | ((with_reducible refine PauseK.mk (n := 6) ?_); with_reducible (k_here; (refine' notin_known ‹_› ?_); (try dsimp only))) | ((with_reducible refine PauseK.mk (n := 7) ?_); with_reducible (k_here; refine isnot_sr ?_)) | ((with_reducible refine PauseK.mk (n := 8) ?_); with_reducible (k_here; k_dflt (refine' gm_sub_K (by k_asm) ‹_› ?_); (try dsimp only))) | ((with_reducible refine PauseK.mk (n := 9) ?_); with_reducible (k_here; k_dflt (refine' sub_K (by first | decide | assumption) _ (by k_asm) ‹_› ‹_› (by k_mem) ‹_› ?_); ((rename Fr _ _ _ _ => lF'); (rename News _ _ _ _ => lN'); clear lF' lN'; intros; (try dsimp only)))) | ((with_reducible refine PauseK.mk (n := 10) ?_); with_reducible (k_here; k_dflt (refine' lam_K (by exact rfl) ‹_› ‹_› (by k_asm) (by kn_code) ‹_› ‹_› ‹_› ‹_› (by exact rfl) ?_); ((rename Fr _ _ _ _ => lF'); (rename News _ _ _ _ => lN'); clear lF' lN'; intros; (try dsimp only)))) | ((with_reducible refine PauseK.mk (n := 11) ?_); with_reducible (k_here; k_dflt (refine' truthy_known ‹_› (by k_mem) (by first | lia | (rw [List.length_append, List.length_singleton]; lia)) ‹_› ?_); (try dsimp only))) | ((with_reducible refine PauseK.mk (n := 12) ?_); (k_here; (refine' replace_known (by exact Nat.ne_of_gt (by assumption)) (by exact Nat.succ_ne_zero _) (by exact Nat.ne_of_lt (Nat.lt_succ_self _)) (by decide +kernel) (by first | decide +kernel | (rw [S_len]; exact (by decide : 1 ≤ 1048576))) (by decide +kernel) ‹_› ?_); (intros; (try dsimp only))))); k_steps))
          rename Fr _ _ _ _ => F9
          rename News _ _ _ _ => N9
          refine Pause.mk ?_
          exact end104 hpost rfl F9 N9 (by rw [outTk_snoc, ho, outStep, if_pos (by simp), ← ho]; exact hres) hokT (by with_unfolding_all rfl) (by walk_at "my same2")
        · (k_steps; repeat' ((first | ((with_reducible refine PauseK.mk (n := 0) ?_); with_reducible (k_here; with_reducible refine truthy_one ?_; (try dsimp only))) | ((with_reducible refine PauseK.mk (n := 1) ?_); with_reducible (k_here; k_dflt (refine' getAttr_append_K ‹_› ‹_› (by k_mem) ?_); ((rename Fr _ _ _ _ => lF'); (rename News _ _ _ _ => lN'); clear lF' lN'; intros; (try dsimp only)))) | ((with_reducible refine PauseK.mk (n := 2) ?_); with_reducible (k_here; k_dflt (refine' call_add_K ‹_› (by first | assumption | exact ntl ‹_› | exact ntl (ntl ‹_›)) ‹_› (by exact (by assumption : ∀ (T : Obj) (p : Addr × Obj), p ∈ (99, T) :: _ → p.1 ≠ _) _) (by first | assumption | lia | (rw [List.length_append, List.length_singleton]; lia)) ?_); ((rename Fr _ _ _ _ => lF'); (rename News _ _ _ _ => lN'); clear lF' lN'; intros; (try dsimp only)))) | ((with_reducible refine PauseK.mk (n := 2) ?_); with_reducible (k_here; with_unfolding_all (refine' useS ‹_› ‹_› ‹_› ‹_› ‹_› (by first | exact rfl | assumption) (c97 _ _ _ _ _ _ _ _ ‹_› _) (by ktr_room) (by ktr_units) ?_); (intro v' h' tk' hR' F' N'; obtain ⟨t', hR'⟩ := hR'; subst hR'; (try dsimp only); (try k_fold)))) | ((with_reducible refine PauseK.mk (n := 3) ?_); with_reducible (k_here; k_dflt (refine' idx_K2 (by first | assumption | lia) ‹_› (by first | assumption | lia) ?_ (by with_unfolding_all rfl) (by (intro _; with_unfolding_all rfl))); (try dsimp only))) | ((with_reducible refine PauseK.mk (n := 4) ?_); with_reducible (k_here; (with_reducible show wpAny _ _ (subscriptTail _ (Expr.Slice (some _) (some _) none _) (Value.str _ _) (Value.ref _)) _ _ _); k_dflt (refine' slice_ss_K2 (s := ⟨_, _, _, _, _⟩) ‹_› ‹_› (by first | assumption | lia) (by first | assumption | lia) (by first | assumption | lia) ‹_› ?_ (by with_unfolding_all rfl) (by (intro _; with_unfolding_all rfl))); ((rename Fr _ _ _ _ => lF'); (rename News _ _ _ _ => lN'); clear lF' lN'; intros; (try dsimp only)))) | ((with_reducible refine PauseK.mk (n := 5) ?_); with_reducible (k_here; (with_reducible show wpAny _ _ (subscriptTail _ _ (Value.ref _) (Value.int (-1) _)) _ _ _); k_dflt (refine' last_K ‹_› (by k_mem) (by first | assumption | lia) ?_ (by with_unfolding_all rfl)))) | ((with_reducible refine PauseK.mk (n := 6) ?_); with_reducible (k_here; (refine' notin_known ‹_› ?_); (try dsimp only))) | ((with_reducible refine PauseK.mk (n := 7) ?_); with_reducible (k_here; refine isnot_sr ?_)) | ((with_reducible refine PauseK.mk (n := 8) ?_); with_reducible (k_here; k_dflt (refine' gm_sub_K (by k_asm) ‹_› ?_); (try dsimp only))) | ((with_reducible refine PauseK.mk (n := 9) ?_); with_reducible (k_here; k_dflt (refine' sub_K (by first | decide | assumption) _ (by k_asm) ‹_› ‹_› (by k_mem) ‹_› ?_); ((rename Fr _ _ _ _ => lF'); (rename News _ _ _ _ => lN'); clear lF' lN'; intros; (try dsimp only)))) | ((with_reducible refine PauseK.mk (n := 10) ?_); with_reducible (k_here; k_dflt (refine' lam_K (by exact rfl) ‹_› ‹_› (by k_asm) (by kn_code) ‹_› ‹_› ‹_› ‹_› (by exact rfl) ?_); ((rename Fr _ _ _ _ => lF'); (rename News _ _ _ _ => lN'); clear lF' lN'; intros; (try dsimp only)))) | ((with_reducible refine PauseK.mk (n := 11) ?_); with_reducible (k_here; k_dflt (refine' truthy_known ‹_› (by k_mem) (by first | lia | (rw [List.length_append, List.length_singleton]; lia)) ‹_› ?_); (try dsimp only))) | ((with_reducible refine PauseK.mk (n := 12) ?_); (k_here; (refine' replace_known (by exact Nat.ne_of_gt (by assumption)) (by exact Nat.succ_ne_zero _) (by exact Nat.ne_of_lt (Nat.lt_succ_self _)) (by decide +kernel) (by first | decide +kernel | (rw [S_len]; exact (by decide : 1 ≤ 1048576))) (by decide +kernel) ‹_› ?_); (intros; (try dsimp only))))); k_steps))
          rename Fr _ _ _ _ => F9
          rename News _ _ _ _ => N9
          refine Pause.mk ?_
          exact end104 hpost rfl F9 N9 (by rw [outTk_snoc, ho, outStep, if_neg (by simp), ← ho]; exact hres.snoc_star) hokT (by with_unfolding_all rfl) (by walk_at "my same2")
    | lit c =>
      have hx := h_idx hlr hpost 0 (by simp [rTk]) (k := ((render pre).length : Int)) (by lia) (c := c) rfl
      obtain ⟨hc, hc1, hc2, hc3⟩ := hok
      have n1 : (S [c] == Str.ofString "*") = false := by rw [show Str.ofString "*" = S [42] by decide +kernel]; exact beq_false_of_ne fun e => hc1 (by have := S_inj e; simpa using this)
      have n2 : (S [c] == Str.ofString "?") = false := by rw [show Str.ofString "?" = S [63] by decide +kernel]; exact beq_false_of_ne fun e => hc2 (by have := S_inj e; simpa using this)
      have n3 : (S [c] == Str.ofString "[") = false := by rw [show Str.ofString "[" = S [91] by decide +kernel]; exact beq_false_of_ne fun e => hc3 (by have := S_inj e; simpa using this)
      (k_steps; repeat' ((first | ((with_reducible refine PauseK.mk (n := 0) ?_); with_reducible (k_here; with_reducible refine truthy_one ?_; (try dsimp only))) | ((with_reducible refine PauseK.mk (n := 1) ?_); with_reducible (k_here; k_dflt (refine' getAttr_append_K ‹_› ‹_› (by k_mem) ?_); ((rename Fr _ _ _ _ => lF'); (rename News _ _ _ _ => lN'); clear lF' lN'; intros; (try dsimp only)))) | ((with_reducible refine PauseK.mk (n := 2) ?_); with_reducible (k_here; k_dflt (refine' call_add_K ‹_› (by first | assumption | exact ntl ‹_› | exact ntl (ntl ‹_›)) ‹_› (by exact (by assumption : ∀ (T : Obj) (p : Addr × Obj), p ∈ (99, T) :: _ → p.1 ≠ _) _) (by first | assumption | lia | (rw [List.length_append, List.length_singleton]; lia)) ?_); ((rename Fr _ _ _ _ => lF'); (rename News _ _ _ _ => lN'); clear lF' lN'; intros; (try dsimp only)))) | ((with_reducible refine PauseK.mk (n := 2) ?_); with_reducible (k_here; with_unfolding_all (refine' useS ‹_› ‹_› ‹_› ‹_› ‹_› (by first | exact rfl | assumption) (c97 _ _ _ _ _ _ _ _ ‹_› _) (by ktr_room) (by ktr_units) ?_); (intro v' h' tk' hR' F' N'; obtain ⟨t', hR'⟩ := hR'; subst hR'; (try dsimp only); (try k_fold)))) | ((with_reducible refine PauseK.mk (n := 3) ?_); with_reducible (k_here; k_dflt (refine' idx_K2 (by first | assumption | lia) ‹_› (by first | assumption | lia) ?_ (by with_unfolding_all rfl) (by (intro _; with_unfolding_all rfl))); (try dsimp only))) | ((with_reducible refine PauseK.mk (n := 4) ?_); with_reducible (k_here; (with_reducible show wpAny _ _ (subscriptTail _ (Expr.Slice (some _) (some _) none _) (Value.str _ _) (Value.ref _)) _ _ _); k_dflt (refine' slice_ss_K2 (s := ⟨_, _, _, _, _⟩) ‹_› ‹_› (by first | assumption | lia) (by first | assumption | lia) (by first | assumption | lia) ‹_› ?_ (by with_unfolding_all rfl) (by (intro _; with_unfolding_all rfl))); ((rename Fr _ _ _ _ => lF'); (rename News _ _ _ _ => lN'); clear lF' lN'; intros; (try dsimp only)))) | ((with_reducible refine PauseK.mk (n := 5) ?_); with_reducible (k_here; (with_reducible show wpAny _ _ (subscriptTail _ _ (Value.ref _) (Value.int (-1) _)) _ _ _); k_dflt (refine' last_K ‹_› (by k_mem) (by first | assumption | lia) ?_ (by with_unfolding_all rfl)))) | ((with_reducible refine PauseK.mk (n := 6) ?_); with_reducible (k_here; (refine' notin_known ‹_› ?_); (try dsimp only))) | ((with_reducible refine PauseK.mk (n := 7) ?_); with_reducible (k_here; refine isnot_sr ?_)) | ((with_reducible refine PauseK.mk (n := 8) ?_); with_reducible (k_here; k_dflt (refine' gm_sub_K (by k_asm) ‹_› ?_); (try dsimp only))) | ((with_reducible refine PauseK.mk (n := 9) ?_); with_reducible (k_here; k_dflt (refine' sub_K (by first | decide | assumption) _ (by k_asm) ‹_› ‹_› (by k_mem) ‹_› ?_); ((rename Fr _ _ _ _ => lF'); (rename News _ _ _ _ => lN'); clear lF' lN'; intros; (try dsimp only)))) | ((with_reducible refine PauseK.mk (n := 10) ?_); with_reducible (k_here; k_dflt (refine' lam_K (by exact rfl) ‹_› ‹_› (by k_asm) (by kn_code) ‹_› ‹_› ‹_› ‹_› (by exact rfl) ?_); ((rename Fr _ _ _ _ => lF'); (rename News _ _ _ _ => lN'); clear lF' lN'; intros; (try dsimp only)))) | ((with_reducible refine PauseK.mk (n := 11) ?_); with_reducible (k_here; k_dflt (refine' truthy_known ‹_› (by k_mem) (by first | lia | (rw [List.length_append, List.length_singleton]; lia)) ‹_› ?_); (try dsimp only))) | ((with_reducible refine PauseK.mk (n := 12) ?_); (k_here; (refine' replace_known (by exact Nat.ne_of_gt (by assumption)) (by exact Nat.succ_ne_zero _) (by exact Nat.ne_of_lt (Nat.lt_succ_self _)) (by decide +kernel) (by first | decide +kernel | (rw [S_len]; exact (by decide : 1 ≤ 1048576))) (by decide +kernel) ‹_› ?_); (intros; (try dsimp only))))); k_steps))
      rename Fr _ _ _ _ => F9
      rename News _ _ _ _ => N9
      refine Pause.mk ?_
      exact end104 hpost rfl F9 N9 (by rw [outTk_snoc]; exact hres.snoc_re _ _) hokT (by with_unfolding_all rfl) (by walk_at "my same2")
    | brk c =>
      have hx := h_idx hlr hpost 0 (by simp [rTk]) (k := ((render pre).length : Int)) (by lia) (c := 91) rfl
      have hx1 := h_idx hlr hpost 1 (by simp [rTk]) (k := ((render pre).length : Int) + 1) (by lia) (c := c) rfl
      have hx2 := h_idx hlr hpost 2 (by simp [rTk]) (k := ((render pre).length : Int) + 1 + 1) (by lia) (c := 93) rfl
      have hcut : cut (S l).cps.toList (((render pre).length : Int) + 1) (((render pre).length : Int) + 1 + 1) = [c] := by
        unfold cut
        rw [S_cps, show (((render pre).length : Int) + 1).toNat = (render pre).length + 1 by lia, show (((render pre).length : Int) + 1 + 1 - (((render pre).length : Int) + 1)).toNat = 1 by lia, hlr, hpost, render_append, render_cons]
        rw [List.drop_append, List.drop_of_length_le (by lia), Nat.add_sub_cancel_left]
        rfl
      simp only [rTk, List.length_cons, List.length_nil] at e1
      have hc3 : c = 42 ∨ c = 63 ∨ c = 91 := hok
      have nb : (S [c] == Str.ofString "!") = false := by rcases hc3 with rfl | rfl | rfl <;> decide +kernel
      have ne : (S [c] == Str.ofString "]") = false := by rcases hc3 with rfl | rfl | rfl <;> decide +kernel
      have hrep : Txt.replace (S [c]) (Str.ofString "\\") (Str.ofString "\\\\") = S [c] := by rcases hc3 with rfl | rfl | rfl <;> decide +kernel
      have hnin : (Builtin.Str.occurrences (S [c]) (Str.ofString "-") 0 (S [c]).length 1).isEmpty = true := by rcases hc3 with rfl | rfl | rfl <;> decide +kernel
      (k_steps; repeat' ((first | ((with_reducible refine PauseK.mk (n := 0) ?_); with_reducible (k_here; with_reducible refine truthy_one ?_; (try dsimp only))) | ((with_reducible refine PauseK.mk (n := 1) ?_); with_reducible (k_here; k_dflt (refine' getAttr_append_K ‹_› ‹_› (by k_mem) ?_); ((rename Fr _ _ _ _ => lF'); (rename News _ _ _ _ => lN'); clear lF' lN'; intros; (try dsimp only)))) | ((with_reducible refine PauseK.mk (n := 2) ?_); with_reducible (k_here; k_dflt (refine' call_add_K ‹_› (by first | assumption | exact ntl ‹_› | exact ntl (ntl ‹_›)) ‹_› (by exact (by assumption : ∀ (T : Obj) (p : Addr × Obj), p ∈ (99, T) :: _ → p.1 ≠ _) _) (by first | assumption | lia | (rw [List.length_append, List.length_singleton]; lia)) ?_); ((rename Fr _ _ _ _ => lF'); (rename News _ _ _ _ => lN'); clear lF' lN'; intros; (try dsimp only)))) | ((with_reducible refine PauseK.mk (n := 2) ?_); with_reducible (k_here; with_unfolding_all (refine' useS ‹_› ‹_› ‹_› ‹_› ‹_› (by first | exact rfl | assumption) (c97 _ _ _ _ _ _ _ _ ‹_› _) (by ktr_room) (by ktr_units) ?_); (intro v' h' tk' hR' F' N'; obtain ⟨t', hR'⟩ := hR'; subst hR'; (try dsimp only); (try k_fold)))) | ((with_reducible refine PauseK.mk (n := 3) ?_); with_reducible (k_here; k_dflt (refine' idx_K2 (by first | assumption | lia) ‹_› (by first | assumption | lia) ?_ (by with_unfolding_all rfl) (by (intro _; with_unfolding_all rfl))); (try dsimp only))) | ((with_reducible refine PauseK.mk (n := 4) ?_); with_reducible (k_here; (with_reducible show wpAny _ _ (subscriptTail _ (Expr.Slice (some _) (some _) none _) (Value.str _ _) (Value.ref _)) _ _ _); k_dflt (refine' slice_ss_K2 (s := ⟨_, _, _, _, _⟩) ‹_› ‹_› (by first | assumption | lia) (by first | assumption | lia) (by first | assumption | lia) ‹_› ?_ (by with_unfolding_all rfl) (by (intro _; with_unfolding_all rfl))); ((rename Fr _ _ _ _ => lF'); (rename News _ _ _ _ => lN'); clear lF' lN'; intros; (try dsimp only)))) | ((with_reducible refine PauseK.mk (n := 5) ?_); with_reducible (k_here; (with_reducible show wpAny _ _ (subscriptTail _ _ (Value.ref _) (Value.int (-1) _)) _ _ _); k_dflt (refine' last_K ‹_› (by k_mem) (by first | assumption | lia) ?_ (by with_unfolding_all rfl)))) | ((with_reducible refine PauseK.mk (n := 6) ?_); with_reducible (k_here; (refine' notin_known ‹_› ?_); (try dsimp only))) | ((with_reducible refine PauseK.mk (n := 7) ?_); with_reducible (k_here; refine isnot_sr ?_)) | ((with_reducible refine PauseK.mk (n := 8) ?_); with_reducible (k_here; k_dflt (refine' gm_sub_K (by k_asm) ‹_› ?_); (try dsimp only))) | ((with_reducible refine PauseK.mk (n := 9) ?_); with_reducible (k_here; k_dflt (refine' sub_K (by first | decide | assumption) _ (by k_asm) ‹_› ‹_› (by k_mem) ‹_› ?_); ((rename Fr _ _ _ _ => lF'); (rename News _ _ _ _ => lN'); clear lF' lN'; intros; (try dsimp only)))) | ((with_reducible refine PauseK.mk (n := 10) ?_); with_reducible (k_here; k_dflt (refine' lam_K (by exact rfl) ‹_› ‹_› (by k_asm) (by kn_code) ‹_› ‹_› ‹_› ‹_› (by exact rfl) ?_); ((rename Fr _ _ _ _ => lF'); (rename News _ _ _ _ => lN'); clear lF' lN'; intros; (try dsimp only)))) | ((with_reducible refine PauseK.mk (n := 11) ?_); with_reducible (k_here; k_dflt (refine' truthy_known ‹_› (by k_mem) (by first | lia | (rw [List.length_append, List.length_singleton]; lia)) ‹_› ?_); (try dsimp only))) | ((with_reducible refine PauseK.mk (n := 12) ?_); (k_here; (refine' replace_known (by exact Nat.ne_of_gt (by assumption)) (by exact Nat.succ_ne_zero _) (by exact Nat.ne_of_lt (Nat.lt_succ_self _)) (by decide +kernel) (by first | decide +kernel | (rw [S_len]; exact (by decide : 1 ≤ 1048576))) (by decide +kernel) ‹_› ?_); (intros; (try dsimp only))))); k_steps))
      rename Fr _ _ _ _ => F8
      rename News _ _ _ _ => N8
      refine Pause.mk ?_
      refine wpAny_execs_cons ?_
      with_unfolding_all refine ksw_while (σ := Nat × Tok) (fun _ => (am, boundO lr) :: (lr, listOf us.toArray n) :: (99, TT) :: news) (fun c => [(Str.ofString "j", .int (((render pre).length : Int) + 1 + (c.1 : Int)) c.2)]) (fun _ => True) [] (fun c => c.1 ≤ 1) (fun c => 2 - c.1) (0, _) F8 N8 trivial (by kst_all) (Nat.zero_le 1) ?_
      rintro ⟨k9, tj⟩ u2 h2 tk2 _ hk9 F7 N7
      dsimp only at hk9 F7 N7
      have hk9' : k9 = 0 ∨ k9 = 1 := by lia
      rcases hk9' with rfl | rfl
      · rw [show ((render pre).length : Int) + 1 + ((0 : Nat) : Int) = ((render pre).length : Int) + 1 by lia] at F7
        (k_steps; repeat' ((first | ((with_reducible refine PauseK.mk (n := 0) ?_); with_reducible (k_here; with_reducible refine truthy_one ?_; (try dsimp only))) | ((with_reducible refine PauseK.mk (n := 1) ?_); with_reducible (k_here; k_dflt (refine' getAttr_append_K ‹_› ‹_› (by k_mem) ?_); ((rename Fr _ _ _ _ => lF'); (rename News _ _ _ _ => lN'); clear lF' lN'; intros; (try dsimp only)))) | ((with_reducible refine PauseK.mk (n := 2) ?_); with_reducible (k_here; k_dflt (refine' call_add_K ‹_› (by first | assumption | exact ntl ‹_› | exact ntl (ntl ‹_›)) ‹_› (by exact (by assumption : ∀ (T : Obj) (p : Addr × Obj), p ∈ (99, T) :: _ → p.1 ≠ _) _) (by first | assumption | lia | (rw [List.length_append, List.length_singleton]; lia)) ?_); ((rename Fr _ _ _ _ => lF'); (rename News _ _ _ _ => lN'); clear lF' lN'; intros; (try dsimp only)))) | ((with_reducible refine PauseK.mk (n := 2) ?_); with_reducible (k_here; with_unfolding_all (refine' useS ‹_› ‹_› ‹_› ‹_› ‹_› (by first | exact rfl | assumption) (c97 _ _ _ _ _ _ _ _ ‹_› _) (by ktr_room) (by ktr_units) ?_); (intro v' h' tk' hR' F' N'; obtain ⟨t', hR'⟩ := hR'; subst hR'; (try dsimp only); (try k_fold)))) | ((with_reducible refine PauseK.mk (n := 3) ?_); with_reducible (k_here; k_dflt (refine' idx_K2 (by first | assumption | lia) ‹_› (by first | assumption | lia) ?_ (by with_unfolding_all rfl) (by (intro _; with_unfolding_all rfl))); (try dsimp only))) | ((with_reducible refine PauseK.mk (n := 4) ?_); with_reducible (k_here; (with_reducible show wpAny _ _ (subscriptTail _ (Expr.Slice (some _) (some _) none _) (Value.str _ _) (Value.ref _)) _ _ _); k_dflt (refine' slice_ss_K2 (s := ⟨_, _, _, _, _⟩) ‹_› ‹_› (by first | assumption | lia) (by first | assumption | lia) (by first | assumption | lia) ‹_› ?_ (by with_unfolding_all rfl) (by (intro _; with_unfolding_all rfl))); ((rename Fr _ _ _ _ => lF'); (rename News _ _ _ _ => lN'); clear lF' lN'; intros; (try dsimp only)))) | ((with_reducible refine PauseK.mk (n := 5) ?_); with_reducible (k_here; (with_reducible show wpAny _ _ (subscriptTail _ _ (Value.ref _) (Value.int (-1) _)) _ _ _); k_dflt (refine' last_K ‹_› (by k_mem) (by first | assumption | lia) ?_ (by with_unfolding_all rfl)))) | ((with_reducible refine PauseK.mk (n := 6) ?_); with_reducible (k_here; (refine' notin_known ‹_› ?_); (try dsimp only))) | ((with_reducible refine PauseK.mk (n := 7) ?_); with_reducible (k_here; refine isnot_sr ?_)) | ((with_reducible refine PauseK.mk (n := 8) ?_); with_reducible (k_here; k_dflt (refine' gm_sub_K (by k_asm) ‹_› ?_); (try dsimp only))) | ((with_reducible refine PauseK.mk (n := 9) ?_); with_reducible (k_here; k_dflt (refine' sub_K (by first | decide | assumption) _ (by k_asm) ‹_› ‹_› (by k_mem) ‹_› ?_); ((rename Fr _ _ _ _ => lF'); (rename News _ _ _ _ => lN'); clear lF' lN'; intros; (try dsimp only)))) | ((with_reducible refine PauseK.mk (n := 10) ?_); with_reducible (k_here; k_dflt (refine' lam_K (by exact rfl) ‹_› ‹_› (by k_asm) (by kn_code) ‹_› ‹_› ‹_› ‹_› (by exact rfl) ?_); ((rename Fr _ _ _ _ => lF'); (rename News _ _ _ _ => lN'); clear lF' lN'; intros; (try dsimp only)))) | ((with_reducible refine PauseK.mk (n := 11) ?_); with_reducible (k_here; k_dflt (refine' truthy_known ‹_› (by k_mem) (by first | lia | (rw [List.length_append, List.length_singleton]; lia)) ‹_› ?_); (try dsimp only))) | ((with_reducible refine PauseK.mk (n := 12) ?_); (k_here; (refine' replace_known (by exact Nat.ne_of_gt (by assumption)) (by exact Nat.succ_ne_zero _) (by exact Nat.ne_of_lt (Nat.lt_succ_self _)) (by decide +kernel) (by first | decide +kernel | (rw [S_len]; exact (by decide : 1 ≤ 1048576))) (by decide +kernel) ‹_› ?_); (intros; (try dsimp only))))); k_steps))
        rename Fr _ _ _ _ => F5
        rename News _ _ _ _ => N5
        refine Pause.mk ?_
        refine ksw_end (1, _) F5 N5 (fun _ h => h) trivial (by kst_all) (by walk_at "my same2") (Nat.le_refl 1) (Nat.lt_succ_self 1)
      · rw [show ((render pre).length : Int) + 1 + ((1 : Nat) : Int) = ((render pre).length : Int) + 1 + 1 by lia] at F7
        (k_steps; repeat' ((first | ((with_reducible refine PauseK.mk (n := 0) ?_); with_reducible (k_here; with_reducible refine truthy_one ?_; (try dsimp only))) | ((with_reducible refine PauseK.mk (n := 1) ?_); with_reducible (k_here; k_dflt (refine' getAttr_append_K ‹_› ‹_› (by k_mem) ?_); ((rename Fr _ _ _ _ => lF'); (rename News _ _ _ _ => lN'); clear lF' lN'; intros; (try dsimp only)))) | ((with_reducible refine PauseK.mk (n := 2) ?_); with_reducible (k_here; k_dflt (refine' call_add_K ‹_› (by first | assumption | exact ntl ‹_› | exact ntl (ntl ‹_›)) ‹_› (by exact (by assumption : ∀ (T : Obj) (p : Addr × Obj), p ∈ (99, T) :: _ → p.1 ≠ _) _) (by first | assumption | lia | (rw [List.length_append, List.length_singleton]; lia)) ?_); ((rename Fr _ _ _ _ => lF'); (rename News _ _ _ _ => lN'); clear lF' lN'; intros; (try dsimp only)))) | ((with_reducible refine PauseK.mk (n := 2) ?_); with_reducible (k_here; with_unfolding_all (refine' useS ‹_› ‹_› ‹_› ‹_› ‹_› (by first | exact rfl | assumption) (c97 _ _ _ _ _ _ _ _ ‹_› _) (by ktr_room) (by ktr_units) ?_); (intro v' h' tk' hR' F' N'; obtain ⟨t', hR'⟩ := hR'; subst hR'; (try dsimp only); (try k_fold)))) | ((with_reducible refine PauseK.mk (n := 3) ?_); with_reducible (k_here; k_dflt (refine' idx_K2 (by first | assumption | lia) ‹_› (by first | assumption | lia) ?_ (by with_unfolding_all rfl) (by (intro _; with_unfolding_all rfl))); (try dsimp only))) | ((with_reducible refine PauseK.mk (n := 4) ?_); with_reducible (k_here; (with_reducible show wpAny _ _ (subscriptTail _ (Expr.Slice (some _) (some _) none _) (Value.str _ _) (Value.ref _)) _ _ _); k_dflt (refine' slice_ss_K2 (s := ⟨_, _, _, _, _⟩) ‹_› ‹_› (by first | assumption | lia) (by first | assumption | lia) (by first | assumption | lia) ‹_› ?_ (by with_unfolding_all rfl) (by (intro _; with_unfolding_all rfl))); ((rename Fr _ _ _ _ => lF'); (rename News _ _ _ _ => lN'); clear lF' lN'; intros; (try dsimp only)))) | ((with_reducible refine PauseK.mk (n := 5) ?_); with_reducible (k_here; (with_reducible show wpAny _ _ (subscriptTail _ _ (Value.ref _) (Value.int (-1) _)) _ _ _); k_dflt (refine' last_K ‹_› (by k_mem) (by first | assumption | lia) ?_ (by with_unfolding_all rfl)))) | ((with_reducible refine PauseK.mk (n := 6) ?_); with_reducible (k_here; (refine' notin_known ‹_› ?_); (try dsimp only))) | ((with_reducible refine PauseK.mk (n := 7) ?_); with_reducible (k_here; refine isnot_sr ?_)) | ((with_reducible refine PauseK.mk (n := 8) ?_); with_reducible (k_here; k_dflt (refine' gm_sub_K (by k_asm) ‹_› ?_); (try dsimp only))) | ((with_reducible refine PauseK.mk (n := 9) ?_); with_reducible (k_here; k_dflt (refine' sub_K (by first | decide | assumption) _ (by k_asm) ‹_› ‹_› (by k_mem) ‹_› ?_); ((rename Fr _ _ _ _ => lF'); (rename News _ _ _ _ => lN'); clear lF' lN'; intros; (try dsimp only)))) | ((with_reducible refine PauseK.mk (n := 10) ?_); with_reducible (k_here; k_dflt (refine' lam_K (by exact rfl) ‹_› ‹_› (by k_asm) (by kn_code) ‹_› ‹_› ‹_› ‹_› (by exact rfl) ?_); ((rename Fr _ _ _ _ => lF'); (rename News _ _ _ _ => lN'); clear lF' lN'; intros; (try dsimp only)))) | ((with_reducible refine PauseK.mk (n := 11) ?_); with_reducible (k_here; k_dflt (refine' truthy_known ‹_› (by k_mem) (by first | lia | (rw [List.length_append, List.length_singleton]; lia)) ‹_› ?_); (try dsimp only))) | ((with_reducible refine PauseK.mk (n := 12) ?_); (k_here; (refine' replace_known (by exact Nat.ne_of_gt (by assumption)) (by exact Nat.succ_ne_zero _) (by exact Nat.ne_of_lt (Nat.lt_succ_self _)) (by decide +kernel) (by first | decide +kernel | (rw [S_len]; exact (by decide : 1 ≤ 1048576))) (by decide +kernel) ‹_› ?_); (intros; (try dsimp only))))); k_steps))
        rename _ = 42 ∨ _ = 63 ∨ _ = 91 => hc3
        rcases hc3 with rfl | rfl | rfl
        all_goals (
          refine Pause.mk ?_
          (k_steps; repeat' ((first | ((with_reducible refine PauseK.mk (n := 0) ?_); with_reducible (k_here; with_reducible refine truthy_one ?_; (try dsimp only))) | ((with_reducible refine PauseK.mk (n := 1) ?_); with_reducible (k_here; k_dflt (refine' getAttr_append_K ‹_› ‹_› (by k_mem) ?_); ((rename Fr _ _ _ _ => lF'); (rename News _ _ _ _ => lN'); clear lF' lN'; intros; (try dsimp only)))) | ((with_reducible refine PauseK.mk (n := 2) ?_); with_reducible (k_here; k_dflt (refine' call_add_K ‹_› (by first | assumption | exact ntl ‹_› | exact ntl (ntl ‹_›)) ‹_› (by exact (by assumption : ∀ (T : Obj) (p : Addr × Obj), p ∈ (99, T) :: _ → p.1 ≠ _) _) (by first | assumption | lia | (rw [List.length_append, List.length_singleton]; lia)) ?_); ((rename Fr _ _ _ _ => lF'); (rename News _ _ _ _ => lN'); clear lF' lN'; intros; (try dsimp only)))) | ((with_reducible refine PauseK.mk (n := 2) ?_); with_reducible (k_here; with_unfolding_all (refine' useS ‹_› ‹_› ‹_› ‹_› ‹_› (by first | exact rfl | assumption) (c97 _ _ _ _ _ _ _ _ ‹_› _) (by ktr_room) (by ktr_units) ?_); (intro v' h' tk' hR' F' N'; obtain ⟨t', hR'⟩ := hR'; subst hR'; (try dsimp only); (try k_fold)))) | ((with_reducible refine PauseK.mk (n := 3) ?_); with_reducible (k_here; k_dflt (refine' idx_K2 (by first | assumption | lia) ‹_› (by first | assumption | lia) ?_ (by with_unfolding_all rfl) (by (intro _; with_unfolding_all rfl))); (try dsimp only))) | ((with_reducible refine PauseK.mk (n := 4) ?_); with_reducible (k_here; (with_reducible show wpAny _ _ (subscriptTail _ (Expr.Slice (some _) (some _) none _) (Value.str _ _) (Value.ref _)) _ _ _); k_dflt (refine' slice_ss_K2 (s := ⟨_, _, _, _, _⟩) ‹_› ‹_› (by first | assumption | lia) (by first | assumption | lia) (by first | assumption | lia) ‹_› ?_ (by with_unfolding_all rfl) (by (intro _; with_unfolding_all rfl))); ((rename Fr _ _ _ _ => lF'); (rename News _ _ _ _ => lN'); clear lF' lN'; intros; (try dsimp only)))) | ((with_reducible refine PauseK.mk (n := 5) ?_); with_reducible (k_here; (with_reducible show wpAny _ _ (subscriptTail _ _ (Value.ref _) (Value.int (-1) _)) _ _ _); k_dflt (refine' last_K ‹_› (by k_mem) (by first | assumption | lia) ?_ (by with_unfolding_all rfl)))) | ((with_reducible refine PauseK.mk (n := 6) ?_); with_reducible (k_here; (refine' notin_known ‹_› ?_); (try dsimp only))) | ((with_reducible refine PauseK.mk (n := 7) ?_); with_reducible (k_here; refine isnot_sr ?_)) | ((with_reducible refine PauseK.mk (n := 8) ?_); with_reducible (k_here; k_dflt (refine' gm_sub_K (by k_asm) ‹_› ?_); (try dsimp only))) | ((with_reducible refine PauseK.mk (n := 9) ?_); with_reducible (k_here; k_dflt (refine' sub_K (by first | decide | assumption) _ (by k_asm) ‹_› ‹_› (by k_mem) ‹_› ?_); ((rename Fr _ _ _ _ => lF'); (rename News _ _ _ _ => lN'); clear lF' lN'; intros; (try dsimp only)))) | ((with_reducible refine PauseK.mk (n := 10) ?_); with_reducible (k_here; k_dflt (refine' lam_K (by exact rfl) ‹_› ‹_› (by k_asm) (by kn_code) ‹_› ‹_› ‹_› ‹_› (by exact rfl) ?_); ((rename Fr _ _ _ _ => lF'); (rename News _ _ _ _ => lN'); clear lF' lN'; intros; (try dsimp only)))) | ((with_reducible refine PauseK.mk (n := 11) ?_); with_reducible (k_here; k_dflt (refine' truthy_known ‹_› (by k_mem) (by first | lia | (rw [List.length_append, List.length_singleton]; lia)) ‹_› ?_); (try dsimp only))) | ((with_reducible refine PauseK.mk (n := 12) ?_); (k_here; (refine' replace_known (by exact Nat.ne_of_gt (by assumption)) (by exact Nat.succ_ne_zero _) (by exact Nat.ne_of_lt (Nat.lt_succ_self _)) (by decide +kernel) (by first | decide +kernel | (rw [S_len]; exact (by decide : 1 ≤ 1048576))) (by decide +kernel) ‹_› ?_); (intros; (try dsimp only))))); k_steps))
          rename Fr _ _ _ _ => F5
          rename News _ _ _ _ => N5
          refine Pause.mk ?_
          refine end104 hpost (k := ((render pre).length : Int) + 1 + 1 + 1) (by simp only [rTk, List.length_cons, List.length_nil]; lia) F5 N5 ?_ (by assumption) (by with_unfolding_all rfl) (by walk_at "my same2")
          rw [outTk_snoc]
          first
          | exact hres.snoc_reX (r := brkRe 42) (by decide +kernel)
          | exact hres.snoc_reX (r := brkRe 63) (by decide +kernel)
          | exact hres.snoc_reX (r := brkRe 91) (by decide +kernel))
end
section
open PySem.Calls PySem.Spec

local macro_rules | `(tactic| walk_at "execs cons") => `(tactic| ((with_reducible show wpAny _ _ (execs (Stmt.While _ _ _ _ :: _) _) _ _ _); (refine Pause.out ?_)))
local macro_rules | `(tactic| walk_at "KswEnd") => `(tactic| (refine Pause.out ?_))
local macro_rules | `(tactic| walk_at "getAttr ref") => `(tactic| refine PauseK.o 0 ?_)
local macro_rules | `(tactic| walk_at "callWith ref") => `(tactic| refine PauseK.o 1 ?_)
local macro_rules | `(tactic| walk_at "call ref") => `(tactic| refine PauseK.o 2 ?_)
local macro_rules | `(tactic| walk_at "call builtin:len") => `(tactic| refine PauseK.o 3 ?_)
local macro_rules | `(tactic| walk_at "subscriptTail Name Name ref int") => `(tactic| refine PauseK.o 4 ?_)
local macro_rules | `(tactic| walk_at "call builtin:list.append") => `(tactic| refine PauseK.o 5 ?_)
theorem o_nil : Str.ofString "" = S [] := by decide +kernel
local macro_rules | `(tactic| walk_at "call builtin:str.join") => `(tactic| refine PauseK.o 6 ?_)
theorem isnot_sr10 {M : Model} {A : Around} {E : Value → Shared → Prop} {s : Shared} {x : Str} {t : Tok} {a : Addr} {Q : Value → Shared → Prop} (h : Q (.bool true) s) : wpAny M A (compareOp .IsNot (.str x t) (.ref a)) Q E s := fun _ _ _ => h
local macro_rules | `(tactic| walk_at "compareOp IsNot str ref") => `(tactic| refine PauseK.o 7 ?_)

theorem o_dotstar : Str.ofString ".*" = S [46, 42] := by decide +kernel
theorem o_grp : Str.ofString "(?>.*?" = S [40, 63, 62, 46, 42, 63] := by decide +kernel
theorem o_rp : Str.ofString ")" = S [41] := by decide +kernel
theorem o_s : Str.ofString "(?s:" = S [40, 63, 115, 58] := by decide +kernel
theorem o_Z : Str.ofString ")\\Z" = S [41, 92, 90] := by decide +kernel
theorem o_empty9 : Str.empty = S [] := rfl
theorem gOs_ge (pre : List (List (List Nat))) : pre.length ≤ (gOs pre).length := by
  induction pre with
  | nil => simp
  | cons a pre ih => rw [gOs_cons]; simp; lia

set_option linter.unusedVariables false in
theorem c111 (w : World) (p : Program) (loose : List Str) (mean : ExcName → Option Value) (mg mb : Str → Option Value) (news : List (Addr × Obj)) (aS lI : Addr) (oS : Obj) (us : List Value) (nI : Nat) (g0 : List (List Nat)) (gs : List (List (List Nat)))
   (hS : (aS, oS) ∈ news) (hI : (lI, listOf us.toArray nI) ∈ news) (hres : ResIs aS (osOf g0 gs) us) (hok : GsOk gs) (hul : us.length ≤ 20000) (hbd : (g0.flatten ++ toldG gs).length ≤ 500000) :
  CallS w p loose mean mg mb 111 news [.ref lI, .ref aS] (fun v => ∃ y t', v = .str y t' ∧ y = S ([40, 63, 115, 58] ++ g0.flatten ++ toldG gs ++ [41, 92, 90])) 2 := by
  w_top off
  intro dp un gd cn cs a ccd cl outer A₀ base h₀ L m s Q E B F X N T hk hd hu hret
  refine wpAny_call ?_
  k_dflt cell_enter
  (k_steps; repeat' ((first | ((with_reducible refine PauseK.mk (n := 0) ?_); with_reducible (k_here; k_dflt (refine' getAttr_append_K ‹_› ‹_› (by k_mem) ?_); ((rename Fr _ _ _ _ => lF'); (rename News _ _ _ _ => lN'); clear lF' lN'; intros; (try dsimp only)))) | ((with_reducible refine PauseK.mk (n := 1) ?_); with_reducible (k_here; with_unfolding_all (refine' callWith_add2 ‹_› (by k_mem) ?_ (by exact rfl)))) | ((with_reducible refine PauseK.mk (n := 2) ?_); with_reducible (k_here; k_dflt (refine' call_add_K ‹_› (by first | assumption | exact ntl ‹_› | exact ntl (ntl ‹_›)) ‹_› ‹_› (by first | assumption | lia | (simp only [List.length_append, List.length_cons, List.length_nil]; lia)) ?_); ((rename Fr _ _ _ _ => lF'); (rename News _ _ _ _ => lN'); clear lF' lN'; intros; (try dsimp only)))) | ((with_reducible refine PauseK.mk (n := 3) ?_); with_reducible (k_here; k_dflt (refine' len_K ‹_› (by first | k_mem | kst_mem) (by first | assumption | lia) ?_); (try dsimp only))) | ((with_reducible refine PauseK.mk (n := 4) ?_); with_reducible (k_here; k_dflt (refine' item_K ‹_› (by first | k_mem | kst_mem) (by first | assumption | lia) ‹_› (by first | assumption | lia) ?_ (by with_unfolding_all rfl)); (try dsimp only))) | ((with_reducible refine PauseK.mk (n := 5) ?_); with_reducible (k_here; k_dflt (refine' app_K ‹_› ‹_› ‹_› (by first | assumption | lia) ?_); ((rename Fr _ _ _ _ => lF'); (rename News _ _ _ _ => lN'); clear lF' lN'; intros; (try dsimp only)))) | ((with_reducible refine PauseK.mk (n := 6) ?_); with_reducible (k_here; k_dflt (refine' join_K o_nil ‹_› (by first | k_mem | kst_mem) ‹_› (by first | assumption | lia) ?_); (intros; (try dsimp only)))) | ((with_reducible refine PauseK.mk (n := 7) ?_); with_reducible (k_here; refine isnot_sr10 ?_))); k_steps))
  rename_i g1 L1 h1 FG B1 X1 T1 tk1 lr h2 q1 h3 tk2 am h4 tk3 q2 q3 h5 D1 h6 q4 h7 h8 h9 F1 N1
  refine Pause.mk ?_
  have F1' := Fr_nm (l := [(Str.ofString "i", .int 0 tk), (Str.ofString "n", .int (us.length : Int) (tk + 1 + 1)), (Str.ofString "add", .ref am), (Str.ofString "res", .ref lr), (Str.ofString "STAR", .ref aS), (Str.ofString "inp", .ref lI)]) F1 (fun y => by
    first
    | exact nm_if (nm_if (nm_if (nm_if (lookup_if y _))))
    | with_unfolding_all exact nm_if (nm_if (nm_if (nm_if (lookup_if y _)))))
  have hlen := hres.len
  have hq : ∀ p ∈ news, p.1 ≠ lr := fun p hp => Nat.ne_of_lt (q1 p hp)
  refine wpAny_execs_cons ?_
  refine wpAny_mono (Q := fun f s' => f = .next ∧ ∃ n ti h' tk', s' = { s with heap := h', toks := tk' } ∧ Fr g1 L1 h' (nm [(Str.ofString "i", .int (g0.length : Int) ti), (Str.ofString "n", .int (us.length : Int) (tk + 1 + 1)), (Str.ofString "add", .ref am), (Str.ofString "res", .ref lr), (Str.ofString "STAR", .ref aS), (Str.ofString "inp", .ref lI)]) ∧ News g1 L1 h' ((am, boundO lr) :: (lr, listOf (us.take g0.length).toArray n) :: news)) ?_ ?_ (fun _ _ x => x)
  · with_unfolding_all refine ksw_while (σ := Nat × Nat × Tok) (fun c => (am, boundO lr) :: (lr, listOf (us.take c.1).toArray c.2.1) :: news) (fun c => [(Str.ofString "i", .int (c.1 : Int) c.2.2)]) (fun _ => True) [] (fun c => c.1 ≤ g0.length) (fun c => g0.length - c.1) (0, 0, _) F1' (fun p hp => N1 p (List.mem_cons_of_mem _ hp)) trivial (by kst_all) (Nat.zero_le _) ?_
    rintro ⟨k, n9, ti⟩ u h tk9 _ hk9 F2 N2
    dsimp only at hk9 F2 N2
    have hlen2 : (us.take k).length ≤ 20000 := by rw [List.length_take]; lia
    by_cases hk : k < g0.length
    · have ho : (osOf g0 gs)[k]? = some (some g0[k]) := by
        unfold osOf
        rw [List.getElem?_append_left (by rw [List.length_map]; exact hk)]
        simp [hk]
      obtain ⟨v, hv, hv2⟩ := hres.at ho
      rcases hv2 with ⟨e, _⟩ | ⟨r, t9, e, rfl⟩
      · cases e
      have hv' : us[((k : Nat) : Int).toNat]? = some (Value.str (S r) t9) := by simpa using hv
      have hkl : k < us.length := (List.getElem?_eq_some_iff.mp hv).1
      have ht : us.take (k + 1) = us.take k ++ [Value.str (S r) t9] := by rw [List.take_add_one, hv]; rfl
      (k_steps; repeat' ((first | ((with_reducible refine PauseK.mk (n := 0) ?_); with_reducible (k_here; k_dflt (refine' getAttr_append_K ‹_› ‹_› (by k_mem) ?_); ((rename Fr _ _ _ _ => lF'); (rename News _ _ _ _ => lN'); clear lF' lN'; intros; (try dsimp only)))) | ((with_reducible refine PauseK.mk (n := 1) ?_); with_reducible (k_here; with_unfolding_all (refine' callWith_add2 ‹_› (by k_mem) ?_ (by exact rfl)))) | ((with_reducible refine PauseK.mk (n := 2) ?_); with_reducible (k_here; k_dflt (refine' call_add_K ‹_› (by first | assumption | exact ntl ‹_› | exact ntl (ntl ‹_›)) ‹_› ‹_› (by first | assumption | lia | (simp only [List.length_append, List.length_cons, List.length_nil]; lia)) ?_); ((rename Fr _ _ _ _ => lF'); (rename News _ _ _ _ => lN'); clear lF' lN'; intros; (try dsimp only)))) | ((with_reducible refine PauseK.mk (n := 3) ?_); with_reducible (k_here; k_dflt (refine' len_K ‹_› (by first | k_mem | kst_mem) (by first | assumption | lia) ?_); (try dsimp only))) | ((with_reducible refine PauseK.mk (n := 4) ?_); with_reducible (k_here; k_dflt (refine' item_K ‹_› (by first | k_mem | kst_mem) (by first | assumption | lia) ‹_› (by first | assumption | lia) ?_ (by with_unfolding_all rfl)); (try dsimp only))) | ((with_reducible refine PauseK.mk (n := 5) ?_); with_reducible (k_here; k_dflt (refine' app_K ‹_› ‹_› ‹_› (by first | assumption | lia) ?_); ((rename Fr _ _ _ _ => lF'); (rename News _ _ _ _ => lN'); clear lF' lN'; intros; (try dsimp only)))) | ((with_reducible refine PauseK.mk (n := 6) ?_); with_reducible (k_here; k_dflt (refine' join_K o_nil ‹_› (by first | k_mem | kst_mem) ‹_› (by first | assumption | lia) ?_); (intros; (try dsimp only)))) | ((with_reducible refine PauseK.mk (n := 7) ?_); with_reducible (k_here; refine isnot_sr10 ?_))); k_steps))
      · rename News _ _ _ _ => N5
        exact (N5 (_, _) (by k_mem)).1
      · rename Fr _ _ _ _ => F5
        rename News _ _ _ _ => N5
        rw [← ht] at N5
        refine Pause.mk ?_
        refine ksw_end (k + 1, _, _) F5 N5 (fun _ h => h) trivial (by kst_all) (by walk_at "my same2") hk (by dsimp only; lia)
    · have hk' : k = g0.length := by lia
      subst hk'
      cases gs with
      | nil =>
        have hl9 : us.length = g0.length := by rw [← hlen]; simp [osOf]
        (k_steps; repeat' ((first | ((with_reducible refine PauseK.mk (n := 0) ?_); with_reducible (k_here; k_dflt (refine' getAttr_append_K ‹_› ‹_› (by k_mem) ?_); ((rename Fr _ _ _ _ => lF'); (rename News _ _ _ _ => lN'); clear lF' lN'; intros; (try dsimp only)))) | ((with_reducible refine PauseK.mk (n := 1) ?_); with_reducible (k_here; with_unfolding_all (refine' callWith_add2 ‹_› (by k_mem) ?_ (by exact rfl)))) | ((with_reducible refine PauseK.mk (n := 2) ?_); with_reducible (k_here; k_dflt (refine' call_add_K ‹_› (by first | assumption | exact ntl ‹_› | exact ntl (ntl ‹_›)) ‹_› ‹_› (by first | assumption | lia | (simp only [List.length_append, List.length_cons, List.length_nil]; lia)) ?_); ((rename Fr _ _ _ _ => lF'); (rename News _ _ _ _ => lN'); clear lF' lN'; intros; (try dsimp only)))) | ((with_reducible refine PauseK.mk (n := 3) ?_); with_reducible (k_here; k_dflt (refine' len_K ‹_› (by first | k_mem | kst_mem) (by first | assumption | lia) ?_); (try dsimp only))) | ((with_reducible refine PauseK.mk (n := 4) ?_); with_reducible (k_here; k_dflt (refine' item_K ‹_› (by first | k_mem | kst_mem) (by first | assumption | lia) ‹_› (by first | assumption | lia) ?_ (by with_unfolding_all rfl)); (try dsimp only))) | ((with_reducible refine PauseK.mk (n := 5) ?_); with_reducible (k_here; k_dflt (refine' app_K ‹_› ‹_› ‹_› (by first | assumption | lia) ?_); ((rename Fr _ _ _ _ => lF'); (rename News _ _ _ _ => lN'); clear lF' lN'; intros; (try dsimp only)))) | ((with_reducible refine PauseK.mk (n := 6) ?_); with_reducible (k_here; k_dflt (refine' join_K o_nil ‹_› (by first | k_mem | kst_mem) ‹_› (by first | assumption | lia) ?_); (intros; (try dsimp only)))) | ((with_reducible refine PauseK.mk (n := 7) ?_); with_reducible (k_here; refine isnot_sr10 ?_))); k_steps))
        rotate_left 2
        · exact ti
        · exact n9
        · exact Fr_cast (by assumption) nm_upd
        · assumption
      | cons g gs =>
        have ho : (osOf g0 (g :: gs))[g0.length]? = some none := by
          rw [osOf_cons, List.append_assoc, List.getElem?_append_right (by simp)]
          simp
        obtain ⟨v, hv, hv2⟩ := hres.at ho
        rcases hv2 with ⟨_, rfl⟩ | ⟨r, t9, e, rfl⟩
        · have hv' : us[((g0.length : Nat) : Int).toNat]? = some (Value.ref aS) := by simpa using hv
          have hkl : g0.length < us.length := (List.getElem?_eq_some_iff.mp hv).1
          (k_steps; repeat' ((first | ((with_reducible refine PauseK.mk (n := 0) ?_); with_reducible (k_here; k_dflt (refine' getAttr_append_K ‹_› ‹_› (by k_mem) ?_); ((rename Fr _ _ _ _ => lF'); (rename News _ _ _ _ => lN'); clear lF' lN'; intros; (try dsimp only)))) | ((with_reducible refine PauseK.mk (n := 1) ?_); with_reducible (k_here; with_unfolding_all (refine' callWith_add2 ‹_› (by k_mem) ?_ (by exact rfl)))) | ((with_reducible refine PauseK.mk (n := 2) ?_); with_reducible (k_here; k_dflt (refine' call_add_K ‹_› (by first | assumption | exact ntl ‹_› | exact ntl (ntl ‹_›)) ‹_› ‹_› (by first | assumption | lia | (simp only [List.length_append, List.length_cons, List.length_nil]; lia)) ?_); ((rename Fr _ _ _ _ => lF'); (rename News _ _ _ _ => lN'); clear lF' lN'; intros; (try dsimp only)))) | ((with_reducible refine PauseK.mk (n := 3) ?_); with_reducible (k_here; k_dflt (refine' len_K ‹_› (by first | k_mem | kst_mem) (by first | assumption | lia) ?_); (try dsimp only))) | ((with_reducible refine PauseK.mk (n := 4) ?_); with_reducible (k_here; k_dflt (refine' item_K ‹_› (by first | k_mem | kst_mem) (by first | assumption | lia) ‹_› (by first | assumption | lia) ?_ (by with_unfolding_all rfl)); (try dsimp only))) | ((with_reducible refine PauseK.mk (n := 5) ?_); with_reducible (k_here; k_dflt (refine' app_K ‹_› ‹_› ‹_› (by first | assumption | lia) ?_); ((rename Fr _ _ _ _ => lF'); (rename News _ _ _ _ => lN'); clear lF' lN'; intros; (try dsimp only)))) | ((with_reducible refine PauseK.mk (n := 6) ?_); with_reducible (k_here; k_dflt (refine' join_K o_nil ‹_› (by first | k_mem | kst_mem) ‹_› (by first | assumption | lia) ?_); (intros; (try dsimp only)))) | ((with_reducible refine PauseK.mk (n := 7) ?_); with_reducible (k_here; refine isnot_sr10 ?_))); k_steps))
          rotate_left 2
          · exact ti
          · exact n9
          · exact Fr_cast (by assumption) nm_upd
          · assumption
        · cases e
  · rintro f s' ⟨rfl, n9, ti, h', tk', rfl, F2, N2⟩
    dsimp only
    (k_steps; repeat' ((first | ((with_reducible refine PauseK.mk (n := 0) ?_); with_reducible (k_here; k_dflt (refine' getAttr_append_K ‹_› ‹_› (by k_mem) ?_); ((rename Fr _ _ _ _ => lF'); (rename News _ _ _ _ => lN'); clear lF' lN'; intros; (try dsimp only)))) | ((with_reducible refine PauseK.mk (n := 1) ?_); with_reducible (k_here; with_unfolding_all (refine' callWith_add2 ‹_› (by k_mem) ?_ (by exact rfl)))) | ((with_reducible refine PauseK.mk (n := 2) ?_); with_reducible (k_here; k_dflt (refine' call_add_K ‹_› (by first | assumption | exact ntl ‹_› | exact ntl (ntl ‹_›)) ‹_› ‹_› (by first | assumption | lia | (simp only [List.length_append, List.length_cons, List.length_nil]; lia)) ?_); ((rename Fr _ _ _ _ => lF'); (rename News _ _ _ _ => lN'); clear lF' lN'; intros; (try dsimp only)))) | ((with_reducible refine PauseK.mk (n := 3) ?_); with_reducible (k_here; k_dflt (refine' len_K ‹_› (by first | k_mem | kst_mem) (by first | assumption | lia) ?_); (try dsimp only))) | ((with_reducible refine PauseK.mk (n := 4) ?_); with_reducible (k_here; k_dflt (refine' item_K ‹_› (by first | k_mem | kst_mem) (by first | assumption | lia) ‹_› (by first | assumption | lia) ?_ (by with_unfolding_all rfl)); (try dsimp only))) | ((with_reducible refine PauseK.mk (n := 5) ?_); with_reducible (k_here; k_dflt (refine' app_K ‹_› ‹_› ‹_› (by first | assumption | lia) ?_); ((rename Fr _ _ _ _ => lF'); (rename News _ _ _ _ => lN'); clear lF' lN'; intros; (try dsimp only)))) | ((with_reducible refine PauseK.mk (n := 6) ?_); with_reducible (k_here; k_dflt (refine' join_K o_nil ‹_› (by first | k_mem | kst_mem) ‹_› (by first | assumption | lia) ?_); (intros; (try dsimp only)))) | ((with_reducible refine PauseK.mk (n := 7) ?_); with_reducible (k_here; refine isnot_sr10 ?_))); k_steps))
    refine Pause.mk ?_
    obtain ⟨NL, hNL⟩ : ∃ NL, NL = [(Str.ofString "i", Value.int (g0.length : Int) ti), (Str.ofString "n", .int (us.length : Int) (tk + 1 + 1)), (Str.ofString "add", .ref am), (Str.ofString "res", .ref lr), (Str.ofString "STAR", .ref aS), (Str.ofString "inp", .ref lI)] := ⟨_, rfl⟩
    have hs0 : Strs g0 (us.take g0.length) := Strs.take hres (osOf_g g0 gs)
    refine wpAny_execs_cons ?_
    refine wpAny_mono (Q := fun f s' => Pause (f = .next ∧ ∃ rs texts n ti h' tk' m', s' = { s with heap := h', toks := tk' } ∧ Strs texts rs ∧ rs.length ≤ 100000 ∧ texts.flatten = g0.flatten ++ toldG gs ∧ Fr g1 L1 h' m' ∧ (∀ p ∈ [(Str.ofString "i", Value.int (us.length : Int) ti)], m' p.1 = some p.2) ∧ (∀ z, (∀ p ∈ [(Str.ofString "i", Value.int (us.length : Int) ti)], z ≠ p.1) → [Str.ofString "fixed"].contains z = false → m' z = nm NL z) ∧ News g1 L1 h' ((am, boundO lr) :: (lr, listOf rs.toArray n) :: news))) ?_ ?_ (fun _ _ x => x)
    · with_unfolding_all refine ksw_while (σ := List (List (List Nat)) × List Value × Nat × Tok) (fun c => (am, boundO lr) :: (lr, listOf c.2.1.toArray c.2.2.1) :: news) (fun c => [(Str.ofString "i", .int ((g0.length + (gOs c.1).length : Nat) : Int) c.2.2.2)]) (fun _ => True) [Str.ofString "fixed"] (fun c => ∃ post texts, gs = c.1 ++ post ∧ Strs texts c.2.1 ∧ c.2.1.length ≤ g0.length + 2 * c.1.length ∧ texts.flatten = g0.flatten ++ (if post = [] then toldG gs else mids c.1)) (fun c => gs.length - c.1.length) ([], us.take g0.length, n9, ti) F2 N2 trivial (by kst_all) ⟨gs, g0, rfl, hs0, by rw [List.length_take]; simp; lia, by
          by_cases hg : gs = []
          · rw [if_pos hg, hg]; simp [toldG]
          · rw [if_neg hg]; simp [mids]⟩ ?_
      rintro ⟨pre, rs, n8, ti8⟩ u h tk8 _ ⟨post, texts, hpost, hst, hrl, htx⟩ F3 N3
      dsimp only at hpost hst hrl htx F3 N3
      have hpl := gOs_ge pre
      cases post with
      | nil =>
        have hl9 : us.length = g0.length + (gOs pre).length := by rw [← hlen, hpost, List.append_nil, osOf_g, List.length_append, List.length_map]
        (k_steps; repeat' ((first | ((with_reducible refine PauseK.mk (n := 0) ?_); with_reducible (k_here; k_dflt (refine' getAttr_append_K ‹_› ‹_› (by k_mem) ?_); ((rename Fr _ _ _ _ => lF'); (rename News _ _ _ _ => lN'); clear lF' lN'; intros; (try dsimp only)))) | ((with_reducible refine PauseK.mk (n := 1) ?_); with_reducible (k_here; with_unfolding_all (refine' callWith_add2 ‹_› (by k_mem) ?_ (by exact rfl)))) | ((with_reducible refine PauseK.mk (n := 2) ?_); with_reducible (k_here; k_dflt (refine' call_add_K ‹_› (by first | assumption | exact ntl ‹_› | exact ntl (ntl ‹_›)) ‹_› ‹_› (by first | assumption | lia | (simp only [List.length_append, List.length_cons, List.length_nil]; lia)) ?_); ((rename Fr _ _ _ _ => lF'); (rename News _ _ _ _ => lN'); clear lF' lN'; intros; (try dsimp only)))) | ((with_reducible refine PauseK.mk (n := 3) ?_); with_reducible (k_here; k_dflt (refine' len_K ‹_› (by first | k_mem | kst_mem) (by first | assumption | lia) ?_); (try dsimp only))) | ((with_reducible refine PauseK.mk (n := 4) ?_); with_reducible (k_here; k_dflt (refine' item_K ‹_› (by first | k_mem | kst_mem) (by first | assumption | lia) ‹_› (by first | assumption | lia) ?_ (by with_unfolding_all rfl)); (try dsimp only))) | ((with_reducible refine PauseK.mk (n := 5) ?_); with_reducible (k_here; k_dflt (refine' app_K ‹_› ‹_› ‹_› (by first | assumption | lia) ?_); ((rename Fr _ _ _ _ => lF'); (rename News _ _ _ _ => lN'); clear lF' lN'; intros; (try dsimp only)))) | ((with_reducible refine PauseK.mk (n := 6) ?_); with_reducible (k_here; k_dflt (refine' join_K o_nil ‹_› (by first | k_mem | kst_mem) ‹_› (by first | assumption | lia) ?_); (intros; (try dsimp only)))) | ((with_reducible refine PauseK.mk (n := 7) ?_); with_reducible (k_here; refine isnot_sr10 ?_))); k_steps))
        refine ⟨rfl, rs, texts, n8, ti8, _, _, _, rfl, hst, by lia, by simpa using htx, by assumption, ?_, ?_, by assumption⟩
        · intro p hp
          rcases List.mem_singleton.mp hp with rfl
          dsimp only
          rw [hl9]
          rfl
        · rw [hNL]
          walk_at "my same2"
      | cons g post =>
        rw [hpost] at hres hlen
        have hl9 := os_len g0 pre g post
        rw [hlen] at hl9
        obtain ⟨v, hv, hv2⟩ := hres.at (os_at0 g0 pre g post)
        rcases hv2 with ⟨_, rfl⟩ | ⟨r, t9, e, rfl⟩
        · have hv' : us[((g0.length + (gOs pre).length : Nat) : Int).toNat]? = some (Value.ref aS) := by rw [Int.toNat_natCast]; exact hv
          cases g with
          | nil =>
            have hpn : post = [] := by
              cases post with
              | nil => rfl
              | cons g' post => rw [hpost] at hok; exact absurd rfl (gsOk_mid hok)
            subst hpn
            have e0 : (gOs ([] : List (List (List Nat)))).length = 0 := rfl
            rw [e0, List.length_nil] at hl9
            have hi9 : ((us.length : Nat) : Int) = ((g0.length + (gOs pre).length : Nat) : Int) + 1 := by lia
            (k_steps; repeat' ((first | ((with_reducible refine PauseK.mk (n := 0) ?_); with_reducible (k_here; k_dflt (refine' getAttr_append_K ‹_› ‹_› (by k_mem) ?_); ((rename Fr _ _ _ _ => lF'); (rename News _ _ _ _ => lN'); clear lF' lN'; intros; (try dsimp only)))) | ((with_reducible refine PauseK.mk (n := 1) ?_); with_reducible (k_here; with_unfolding_all (refine' callWith_add2 ‹_› (by k_mem) ?_ (by exact rfl)))) | ((with_reducible refine PauseK.mk (n := 2) ?_); with_reducible (k_here; k_dflt (refine' call_add_K ‹_› (by first | assumption | exact ntl ‹_› | exact ntl (ntl ‹_›)) ‹_› ‹_› (by first | assumption | lia | (simp only [List.length_append, List.length_cons, List.length_nil]; lia)) ?_); ((rename Fr _ _ _ _ => lF'); (rename News _ _ _ _ => lN'); clear lF' lN'; intros; (try dsimp only)))) | ((with_reducible refine PauseK.mk (n := 3) ?_); with_reducible (k_here; k_dflt (refine' len_K ‹_› (by first | k_mem | kst_mem) (by first | assumption | lia) ?_); (try dsimp only))) | ((with_reducible refine PauseK.mk (n := 4) ?_); with_reducible (k_here; k_dflt (refine' item_K ‹_› (by first | k_mem | kst_mem) (by first | assumption | lia) ‹_› (by first | assumption | lia) ?_ (by with_unfolding_all rfl)); (try dsimp only))) | ((with_reducible refine PauseK.mk (n := 5) ?_); with_reducible (k_here; k_dflt (refine' app_K ‹_› ‹_› ‹_› (by first | assumption | lia) ?_); ((rename Fr _ _ _ _ => lF'); (rename News _ _ _ _ => lN'); clear lF' lN'; intros; (try dsimp only)))) | ((with_reducible refine PauseK.mk (n := 6) ?_); with_reducible (k_here; k_dflt (refine' join_K o_nil ‹_› (by first | k_mem | kst_mem) ‹_› (by first | assumption | lia) ?_); (intros; (try dsimp only)))) | ((with_reducible refine PauseK.mk (n := 7) ?_); with_reducible (k_here; refine isnot_sr10 ?_))); k_steps))
            · rename News _ _ _ _ => N5
              exact (N5 (_, _) (by k_mem)).1
            · rename Fr _ _ _ _ => F5
              rename News _ _ _ _ => N5
              rw [o_dotstar] at N5
              refine' ⟨rfl, rs ++ [_], texts ++ [[46, 42]], _, ?ti, _, _, _, rfl, hst.append (.cons _ _ .nil), by rw [List.length_append, List.length_singleton]; lia, ?e1, F5, ?e2, ?e3, N5⟩
              case e2 =>
                intro p hp
                rcases List.mem_singleton.mp hp with rfl
                dsimp only
                rw [hi9]
                with_unfolding_all rfl
              case e1 =>
                rw [List.flatten_append, htx, if_neg (by simp), hpost, toldG_pre]
                simp [toldG]
              case e3 =>
                rw [hNL]
                walk_at "my same2"
            · exfalso; lia
          | cons x g =>
            obtain ⟨v2, hv3, hv4⟩ := hres.at (os_at1 g0 pre (x :: g) post 0 (by simp))
            rcases hv4 with ⟨e, _⟩ | ⟨r, t9, e, rfl⟩
            · cases e
            have hv5 : us[(((g0.length + (gOs pre).length : Nat) : Int) + 1).toNat]? = some (Value.str (S r) t9) := by
              rw [show (((g0.length + (gOs pre).length : Nat) : Int) + 1).toNat = g0.length + (gOs pre).length + 1 + 0 by lia]; exact hv3
            simp only [List.length_cons] at hl9
            (k_steps; repeat' ((first | ((with_reducible refine PauseK.mk (n := 0) ?_); with_reducible (k_here; k_dflt (refine' getAttr_append_K ‹_› ‹_› (by k_mem) ?_); ((rename Fr _ _ _ _ => lF'); (rename News _ _ _ _ => lN'); clear lF' lN'; intros; (try dsimp only)))) | ((with_reducible refine PauseK.mk (n := 1) ?_); with_reducible (k_here; with_unfolding_all (refine' callWith_add2 ‹_› (by k_mem) ?_ (by exact rfl)))) | ((with_reducible refine PauseK.mk (n := 2) ?_); with_reducible (k_here; k_dflt (refine' call_add_K ‹_› (by first | assumption | exact ntl ‹_› | exact ntl (ntl ‹_›)) ‹_› ‹_› (by first | assumption | lia | (simp only [List.length_append, List.length_cons, List.length_nil]; lia)) ?_); ((rename Fr _ _ _ _ => lF'); (rename News _ _ _ _ => lN'); clear lF' lN'; intros; (try dsimp only)))) | ((with_reducible refine PauseK.mk (n := 3) ?_); with_reducible (k_here; k_dflt (refine' len_K ‹_› (by first | k_mem | kst_mem) (by first | assumption | lia) ?_); (try dsimp only))) | ((with_reducible refine PauseK.mk (n := 4) ?_); with_reducible (k_here; k_dflt (refine' item_K ‹_› (by first | k_mem | kst_mem) (by first | assumption | lia) ‹_› (by first | assumption | lia) ?_ (by with_unfolding_all rfl)); (try dsimp only))) | ((with_reducible refine PauseK.mk (n := 5) ?_); with_reducible (k_here; k_dflt (refine' app_K ‹_› ‹_› ‹_› (by first | assumption | lia) ?_); ((rename Fr _ _ _ _ => lF'); (rename News _ _ _ _ => lN'); clear lF' lN'; intros; (try dsimp only)))) | ((with_reducible refine PauseK.mk (n := 6) ?_); with_reducible (k_here; k_dflt (refine' join_K o_nil ‹_› (by first | k_mem | kst_mem) ‹_› (by first | assumption | lia) ?_); (intros; (try dsimp only)))) | ((with_reducible refine PauseK.mk (n := 7) ?_); with_reducible (k_here; refine isnot_sr10 ?_))); k_steps))
            · exfalso; lia
            · exfalso; lia
            rename_i hA aN lf hB l1 hC F5 N5
            refine Pause.mk ?_
            have hfr : ∀ p ∈ (am, boundO lr) :: (lr, listOf rs.toArray n8) :: news, p.1 ≠ lf := by
              intro p hp
              rcases List.mem_cons.mp hp with rfl | hp
              · exact Nat.ne_of_lt l1.1
              rcases List.mem_cons.mp hp with rfl | hp
              · exact Nat.ne_of_lt l1.2.1
              · exact Nat.ne_of_lt (kst_ltOf l1.2.2 p hp)
            refine wpAny_execs_cons ?_
            refine wpAny_mono (Q := fun f s' => Pause (f = .next ∧ ∃ fs nf tj h' tk' m', s' = { s with heap := h', toks := tk' } ∧ Strs (x :: g) fs ∧ Fr g1 L1 h' m' ∧ (∀ p ∈ [(Str.ofString "fixed", Value.ref lf), (Str.ofString "i", Value.int ((g0.length + (gOs pre).length + 1 + (x :: g).length : Nat) : Int) tj)], m' p.1 = some p.2) ∧ (∀ z, (∀ p ∈ [(Str.ofString "fixed", Value.ref lf), (Str.ofString "i", Value.int ((g0.length + (gOs pre).length + 1 + (x :: g).length : Nat) : Int) tj)], z ≠ p.1) → [Str.ofString "fixed"].contains z = false → m' z = nm NL z) ∧ News g1 L1 h' ((lf, listOf fs.toArray nf) :: (am, boundO lr) :: (lr, listOf rs.toArray n8) :: news))) ?_ ?_ (fun _ _ x => x)
            · with_unfolding_all refine ksw_while (σ := Nat × List Value × Nat × Tok) (fun c => (lf, listOf c.2.1.toArray c.2.2.1) :: (am, boundO lr) :: (lr, listOf rs.toArray n8) :: news) (fun c => [(Str.ofString "i", .int ((g0.length + (gOs pre).length + 1 + c.1 : Nat) : Int) c.2.2.2)]) (fun _ => True) [] (fun c => c.1 ≤ (x :: g).length ∧ Strs ((x :: g).take c.1) c.2.1) (fun c => (x :: g).length - c.1) (0, [], 0, _) F5 N5 trivial (by kst_all) ⟨Nat.zero_le _, .nil⟩ ?_
              rintro ⟨k, fs, n7, tj⟩ u7 h7 tk7 _ ⟨hk7, hst7⟩ F7 N7
              dsimp only at hk7 hst7 F7 N7
              by_cases hk : k < (x :: g).length
              · obtain ⟨v7, hv7, hv8⟩ := hres.at (os_at1 g0 pre (x :: g) post k hk)
                rcases hv8 with ⟨e, _⟩ | ⟨r7, t7, e7, rfl⟩
                · cases e
                have hv9 : us[((g0.length + (gOs pre).length + 1 + k : Nat) : Int).toNat]? = some (Value.str (S r7) t7) := by rw [Int.toNat_natCast]; exact hv7
                have hk9 : k < g.length + 1 := hk
                have hfl : fs.length ≤ 1000000 := by rw [hst7.len, List.length_take]; simp only [List.length_cons]; lia
                have er : r7 = (x :: g)[k] := (Option.some.inj e7).symm
                have ht7 : (x :: g).take (k + 1) = (x :: g).take k ++ [r7] := by rw [er, List.take_add_one, List.getElem?_eq_getElem hk]; rfl
                (k_steps; repeat' ((first | ((with_reducible refine PauseK.mk (n := 0) ?_); with_reducible (k_here; k_dflt (refine' getAttr_append_K ‹_› ‹_› (by k_mem) ?_); ((rename Fr _ _ _ _ => lF'); (rename News _ _ _ _ => lN'); clear lF' lN'; intros; (try dsimp only)))) | ((with_reducible refine PauseK.mk (n := 1) ?_); with_reducible (k_here; with_unfolding_all (refine' callWith_add2 ‹_› (by k_mem) ?_ (by exact rfl)))) | ((with_reducible refine PauseK.mk (n := 2) ?_); with_reducible (k_here; k_dflt (refine' call_add_K ‹_› (by first | assumption | exact ntl ‹_› | exact ntl (ntl ‹_›)) ‹_› ‹_› (by first | assumption | lia | (simp only [List.length_append, List.length_cons, List.length_nil]; lia)) ?_); ((rename Fr _ _ _ _ => lF'); (rename News _ _ _ _ => lN'); clear lF' lN'; intros; (try dsimp only)))) | ((with_reducible refine PauseK.mk (n := 3) ?_); with_reducible (k_here; k_dflt (refine' len_K ‹_› (by first | k_mem | kst_mem) (by first | assumption | lia) ?_); (try dsimp only))) | ((with_reducible refine PauseK.mk (n := 4) ?_); with_reducible (k_here; k_dflt (refine' item_K ‹_› (by first | k_mem | kst_mem) (by first | assumption | lia) ‹_› (by first | assumption | lia) ?_ (by with_unfolding_all rfl)); (try dsimp only))) | ((with_reducible refine PauseK.mk (n := 5) ?_); with_reducible (k_here; k_dflt (refine' app_K ‹_› ‹_› ‹_› (by first | assumption | lia) ?_); ((rename Fr _ _ _ _ => lF'); (rename News _ _ _ _ => lN'); clear lF' lN'; intros; (try dsimp only)))) | ((with_reducible refine PauseK.mk (n := 6) ?_); with_reducible (k_here; k_dflt (refine' join_K o_nil ‹_› (by first | k_mem | kst_mem) ‹_› (by first | assumption | lia) ?_); (intros; (try dsimp only)))) | ((with_reducible refine PauseK.mk (n := 7) ?_); with_reducible (k_here; refine isnot_sr10 ?_))); k_steps))
                rename Fr _ _ _ _ => F6
                rename News _ _ _ _ => N6
                refine Pause.mk ?_
                refine ksw_end (k + 1, _, _, _) F6 N6 (fun _ h => h) trivial (by kst_all) (by walk_at "my same2") ⟨hk, by dsimp only; rw [ht7]; exact hst7.append (.cons _ _ .nil)⟩ (by dsimp only; lia)
              · have hk' : k = (x :: g).length := by lia
                subst hk'
                rw [List.take_length] at hst7
                have fin : ∀ tkz, Pause (Flow.next = Flow.next ∧ ∃ fs nf tj h' tk' m', ({ s with heap := h7, toks := tkz } : Shared) = { s with heap := h', toks := tk' } ∧ Strs (x :: g) fs ∧ Fr g1 L1 h' m' ∧ (∀ p ∈ [(Str.ofString "fixed", Value.ref lf), (Str.ofString "i", Value.int ((g0.length + (gOs pre).length + 1 + (x :: g).length : Nat) : Int) tj)], m' p.1 = some p.2) ∧ (∀ z, (∀ p ∈ [(Str.ofString "fixed", Value.ref lf), (Str.ofString "i", Value.int ((g0.length + (gOs pre).length + 1 + (x :: g).length : Nat) : Int) tj)], z ≠ p.1) → [Str.ofString "fixed"].contains z = false → m' z = nm NL z) ∧ News g1 L1 h' ((lf, listOf fs.toArray nf) :: (am, boundO lr) :: (lr, listOf rs.toArray n8) :: news)) := by
                  intro tkz
                  refine ⟨rfl, fs, n7, tj, h7, tkz, _, rfl, hst7, F7, by kst_all, ?_, N7⟩
                  rw [hNL]
                  walk_at "my same2"
                cases post with
                | nil =>
                  have e0 : (gOs ([] : List (List (List Nat)))).length = 0 := rfl
                  rw [e0] at hl9
                  simp only [List.length_cons] at F7
                  (k_steps; repeat' ((first | ((with_reducible refine PauseK.mk (n := 0) ?_); with_reducible (k_here; k_dflt (refine' getAttr_append_K ‹_› ‹_› (by k_mem) ?_); ((rename Fr _ _ _ _ => lF'); (rename News _ _ _ _ => lN'); clear lF' lN'; intros; (try dsimp only)))) | ((with_reducible refine PauseK.mk (n := 1) ?_); with_reducible (k_here; with_unfolding_all (refine' callWith_add2 ‹_› (by k_mem) ?_ (by exact rfl)))) | ((with_reducible refine PauseK.mk (n := 2) ?_); with_reducible (k_here; k_dflt (refine' call_add_K ‹_› (by first | assumption | exact ntl ‹_› | exact ntl (ntl ‹_›)) ‹_› ‹_› (by first | assumption | lia | (simp only [List.length_append, List.length_cons, List.length_nil]; lia)) ?_); ((rename Fr _ _ _ _ => lF'); (rename News _ _ _ _ => lN'); clear lF' lN'; intros; (try dsimp only)))) | ((with_reducible refine PauseK.mk (n := 3) ?_); with_reducible (k_here; k_dflt (refine' len_K ‹_› (by first | k_mem | kst_mem) (by first | assumption | lia) ?_); (try dsimp only))) | ((with_reducible refine PauseK.mk (n := 4) ?_); with_reducible (k_here; k_dflt (refine' item_K ‹_› (by first | k_mem | kst_mem) (by first | assumption | lia) ‹_› (by first | assumption | lia) ?_ (by with_unfolding_all rfl)); (try dsimp only))) | ((with_reducible refine PauseK.mk (n := 5) ?_); with_reducible (k_here; k_dflt (refine' app_K ‹_› ‹_› ‹_› (by first | assumption | lia) ?_); ((rename Fr _ _ _ _ => lF'); (rename News _ _ _ _ => lN'); clear lF' lN'; intros; (try dsimp only)))) | ((with_reducible refine PauseK.mk (n := 6) ?_); with_reducible (k_here; k_dflt (refine' join_K o_nil ‹_› (by first | k_mem | kst_mem) ‹_› (by first | assumption | lia) ?_); (intros; (try dsimp only)))) | ((with_reducible refine PauseK.mk (n := 7) ?_); with_reducible (k_here; refine isnot_sr10 ?_))); k_steps))
                  all_goals exact fin _
                | cons g' post =>
                  have hv6 := os_at2 g0 pre (x :: g) g' post
                  obtain ⟨v7, hv7, hv8⟩ := hres.at hv6
                  rcases hv8 with ⟨_, rfl⟩ | ⟨r7, t7, e7, rfl⟩
                  · have hv9 : us[((g0.length + (gOs pre).length + 1 + (x :: g).length : Nat) : Int).toNat]? = some (Value.ref aS) := by rw [Int.toNat_natCast]; exact hv7
                    have hv10 := (List.getElem?_eq_some_iff.mp hv7).1
                    (k_steps; repeat' ((first | ((with_reducible refine PauseK.mk (n := 0) ?_); with_reducible (k_here; k_dflt (refine' getAttr_append_K ‹_› ‹_› (by k_mem) ?_); ((rename Fr _ _ _ _ => lF'); (rename News _ _ _ _ => lN'); clear lF' lN'; intros; (try dsimp only)))) | ((with_reducible refine PauseK.mk (n := 1) ?_); with_reducible (k_here; with_unfolding_all (refine' callWith_add2 ‹_› (by k_mem) ?_ (by exact rfl)))) | ((with_reducible refine PauseK.mk (n := 2) ?_); with_reducible (k_here; k_dflt (refine' call_add_K ‹_› (by first | assumption | exact ntl ‹_› | exact ntl (ntl ‹_›)) ‹_› ‹_› (by first | assumption | lia | (simp only [List.length_append, List.length_cons, List.length_nil]; lia)) ?_); ((rename Fr _ _ _ _ => lF'); (rename News _ _ _ _ => lN'); clear lF' lN'; intros; (try dsimp only)))) | ((with_reducible refine PauseK.mk (n := 3) ?_); with_reducible (k_here; k_dflt (refine' len_K ‹_› (by first | k_mem | kst_mem) (by first | assumption | lia) ?_); (try dsimp only))) | ((with_reducible refine PauseK.mk (n := 4) ?_); with_reducible (k_here; k_dflt (refine' item_K ‹_› (by first | k_mem | kst_mem) (by first | assumption | lia) ‹_› (by first | assumption | lia) ?_ (by with_unfolding_all rfl)); (try dsimp only))) | ((with_reducible refine PauseK.mk (n := 5) ?_); with_reducible (k_here; k_dflt (refine' app_K ‹_› ‹_› ‹_› (by first | assumption | lia) ?_); ((rename Fr _ _ _ _ => lF'); (rename News _ _ _ _ => lN'); clear lF' lN'; intros; (try dsimp only)))) | ((with_reducible refine PauseK.mk (n := 6) ?_); with_reducible (k_here; k_dflt (refine' join_K o_nil ‹_› (by first | k_mem | kst_mem) ‹_› (by first | assumption | lia) ?_); (intros; (try dsimp only)))) | ((with_reducible refine PauseK.mk (n := 7) ?_); with_reducible (k_here; refine isnot_sr10 ?_))); k_steps))
                    all_goals exact fin _
                  · cases e7
            · rintro f s' ⟨rfl, fs, nf, tj, h', tk', m7, rfl, hst7, F7, hm1, hm2, N7⟩
              have F8 := ksw_fr hm1 hm2 F7
              rw [hNL] at F8
              clear F7
              dsimp only
              have hjl : (x :: g).flatten.length ≤ 1000000 := by
                have h1 := toldG_ge (g := x :: g) (gs := gs) (by rw [hpost]; simp)
                rw [List.length_append] at hbd
                lia
              simp only [List.length_cons] at F8
              cases post with
              | nil =>
                have e0 : (gOs ([] : List (List (List Nat)))).length = 0 := rfl
                rw [e0] at hl9
                (k_steps; repeat' ((first | ((with_reducible refine PauseK.mk (n := 0) ?_); with_reducible (k_here; k_dflt (refine' getAttr_append_K ‹_› ‹_› (by k_mem) ?_); ((rename Fr _ _ _ _ => lF'); (rename News _ _ _ _ => lN'); clear lF' lN'; intros; (try dsimp only)))) | ((with_reducible refine PauseK.mk (n := 1) ?_); with_reducible (k_here; with_unfolding_all (refine' callWith_add2 ‹_› (by k_mem) ?_ (by exact rfl)))) | ((with_reducible refine PauseK.mk (n := 2) ?_); with_reducible (k_here; k_dflt (refine' call_add_K ‹_› (by first | assumption | exact ntl ‹_› | exact ntl (ntl ‹_›)) ‹_› ‹_› (by first | assumption | lia | (simp only [List.length_append, List.length_cons, List.length_nil]; lia)) ?_); ((rename Fr _ _ _ _ => lF'); (rename News _ _ _ _ => lN'); clear lF' lN'; intros; (try dsimp only)))) | ((with_reducible refine PauseK.mk (n := 3) ?_); with_reducible (k_here; k_dflt (refine' len_K ‹_› (by first | k_mem | kst_mem) (by first | assumption | lia) ?_); (try dsimp only))) | ((with_reducible refine PauseK.mk (n := 4) ?_); with_reducible (k_here; k_dflt (refine' item_K ‹_› (by first | k_mem | kst_mem) (by first | assumption | lia) ‹_› (by first | assumption | lia) ?_ (by with_unfolding_all rfl)); (try dsimp only))) | ((with_reducible refine PauseK.mk (n := 5) ?_); with_reducible (k_here; k_dflt (refine' app_K ‹_› ‹_› ‹_› (by first | assumption | lia) ?_); ((rename Fr _ _ _ _ => lF'); (rename News _ _ _ _ => lN'); clear lF' lN'; intros; (try dsimp only)))) | ((with_reducible refine PauseK.mk (n := 6) ?_); with_reducible (k_here; k_dflt (refine' join_K o_nil ‹_› (by first | k_mem | kst_mem) ‹_› (by first | assumption | lia) ?_); (intros; (try dsimp only)))) | ((with_reducible refine PauseK.mk (n := 7) ?_); with_reducible (k_here; refine isnot_sr10 ?_))); k_steps))
                · rename News _ _ _ _ => N5
                  exact (N5 (_, _) (by k_mem)).1
                · rename News _ _ _ _ => N5
                  exact (N5 (_, _) (by k_mem)).1
                · rename Fr _ _ _ _ => F5
                  rename News _ _ _ _ => N5
                  have hy := ‹_ = S (x :: g).flatten›
                  rw [hy, o_dotstar] at N5
                  have eg := gOs_snoc_len pre (x :: g)
                  simp only [List.length_cons] at eg
                  refine Pause.mk ?_
                  refine' ksw_end (pre ++ [x :: g], _, _, ?tz) F5 N5 (fun _ h => h) trivial ?hk ?hr ⟨[], texts ++ [[46, 42]] ++ [(x :: g).flatten], by rw [hpost]; simp, (hst.append (.cons _ _ .nil)).append (.cons _ _ .nil), by dsimp only; simp only [List.length_append, List.length_cons, List.length_nil]; lia, ?hf⟩ (by dsimp only; rw [hpost]; simp only [List.length_append, List.length_cons, List.length_nil]; lia)
                  case hk =>
                    intro p hp
                    rcases List.mem_singleton.mp hp with rfl
                    dsimp only
                    rw [show g0.length + (gOs (pre ++ [x :: g])).length = g0.length + (gOs pre).length + 1 + (g.length + 1) by lia]
                    with_unfolding_all rfl
                  case hr => walk_at "my same2"
                  case hf =>
                    rw [if_pos rfl, hpost, toldG_pre, List.flatten_append, List.flatten_append, htx, if_neg (by simp)]
                    simp [toldG]
                · exfalso; lia
                · exfalso; lia
              | cons g' post =>
                have e0 : (gOs (g' :: post)).length ≥ 1 := by rw [gOs_cons]; simp
                (k_steps; repeat' ((first | ((with_reducible refine PauseK.mk (n := 0) ?_); with_reducible (k_here; k_dflt (refine' getAttr_append_K ‹_› ‹_› (by k_mem) ?_); ((rename Fr _ _ _ _ => lF'); (rename News _ _ _ _ => lN'); clear lF' lN'; intros; (try dsimp only)))) | ((with_reducible refine PauseK.mk (n := 1) ?_); with_reducible (k_here; with_unfolding_all (refine' callWith_add2 ‹_› (by k_mem) ?_ (by exact rfl)))) | ((with_reducible refine PauseK.mk (n := 2) ?_); with_reducible (k_here; k_dflt (refine' call_add_K ‹_› (by first | assumption | exact ntl ‹_› | exact ntl (ntl ‹_›)) ‹_› ‹_› (by first | assumption | lia | (simp only [List.length_append, List.length_cons, List.length_nil]; lia)) ?_); ((rename Fr _ _ _ _ => lF'); (rename News _ _ _ _ => lN'); clear lF' lN'; intros; (try dsimp only)))) | ((with_reducible refine PauseK.mk (n := 3) ?_); with_reducible (k_here; k_dflt (refine' len_K ‹_› (by first | k_mem | kst_mem) (by first | assumption | lia) ?_); (try dsimp only))) | ((with_reducible refine PauseK.mk (n := 4) ?_); with_reducible (k_here; k_dflt (refine' item_K ‹_› (by first | k_mem | kst_mem) (by first | assumption | lia) ‹_› (by first | assumption | lia) ?_ (by with_unfolding_all rfl)); (try dsimp only))) | ((with_reducible refine PauseK.mk (n := 5) ?_); with_reducible (k_here; k_dflt (refine' app_K ‹_› ‹_› ‹_› (by first | assumption | lia) ?_); ((rename Fr _ _ _ _ => lF'); (rename News _ _ _ _ => lN'); clear lF' lN'; intros; (try dsimp only)))) | ((with_reducible refine PauseK.mk (n := 6) ?_); with_reducible (k_here; k_dflt (refine' join_K o_nil ‹_› (by first | k_mem | kst_mem) ‹_› (by first | assumption | lia) ?_); (intros; (try dsimp only)))) | ((with_reducible refine PauseK.mk (n := 7) ?_); with_reducible (k_here; refine isnot_sr10 ?_))); k_steps))
                · exfalso; lia
                · exfalso; lia
                · exfalso; lia
                · rename News _ _ _ _ => N5
                  exact (N5 (_, _) (by k_mem)).1
                · rename Fr _ _ _ _ => F5
                  rename News _ _ _ _ => N5
                  have hy := ‹_ = S (x :: g).flatten›
                  rw [hy, o_grp, o_rp, o_empty9, S_app, S_app, S_app, List.nil_append] at N5
                  have eg := gOs_snoc_len pre (x :: g)
                  simp only [List.length_cons] at eg
                  refine Pause.mk ?_
                  refine' ksw_end (pre ++ [x :: g], _, _, ?tz) F5 N5 (fun _ h => h) trivial ?hk ?hr ⟨g' :: post, texts ++ [[40, 63, 62, 46, 42, 63] ++ (x :: g).flatten ++ [41]], by rw [hpost]; simp, hst.append (.cons _ _ .nil), by dsimp only; simp only [List.length_append, List.length_cons, List.length_nil]; lia, ?hf⟩ (by dsimp only; rw [hpost]; simp only [List.length_append, List.length_cons, List.length_nil]; lia)
                  case hk =>
                    intro p hp
                    rcases List.mem_singleton.mp hp with rfl
                    dsimp only
                    rw [show g0.length + (gOs (pre ++ [x :: g])).length = g0.length + (gOs pre).length + 1 + (g.length + 1) by lia]
                    with_unfolding_all rfl
                  case hr => walk_at "my same2"
                  case hf =>
                    rw [if_neg (by simp), mids_append, List.flatten_append, htx, if_neg (by simp)]
                    simp [mids]
        · cases e
    · rintro f s' ⟨rfl, rs, texts, n8, ti8, h', tk', m9, rfl, hst, hrl, htx, F3, hm1, hm2, N3⟩
      have F4 := ksw_fr hm1 hm2 F3
      rw [hNL] at F4
      clear F3
      dsimp only
      have hjl : texts.flatten.length ≤ 1000000 := by rw [htx]; lia
      (k_steps; repeat' ((first | ((with_reducible refine PauseK.mk (n := 0) ?_); with_reducible (k_here; k_dflt (refine' getAttr_append_K ‹_› ‹_› (by k_mem) ?_); ((rename Fr _ _ _ _ => lF'); (rename News _ _ _ _ => lN'); clear lF' lN'; intros; (try dsimp only)))) | ((with_reducible refine PauseK.mk (n := 1) ?_); with_reducible (k_here; with_unfolding_all (refine' callWith_add2 ‹_› (by k_mem) ?_ (by exact rfl)))) | ((with_reducible refine PauseK.mk (n := 2) ?_); with_reducible (k_here; k_dflt (refine' call_add_K ‹_› (by first | assumption | exact ntl ‹_› | exact ntl (ntl ‹_›)) ‹_› ‹_› (by first | assumption | lia | (simp only [List.length_append, List.length_cons, List.length_nil]; lia)) ?_); ((rename Fr _ _ _ _ => lF'); (rename News _ _ _ _ => lN'); clear lF' lN'; intros; (try dsimp only)))) | ((with_reducible refine PauseK.mk (n := 3) ?_); with_reducible (k_here; k_dflt (refine' len_K ‹_› (by first | k_mem | kst_mem) (by first | assumption | lia) ?_); (try dsimp only))) | ((with_reducible refine PauseK.mk (n := 4) ?_); with_reducible (k_here; k_dflt (refine' item_K ‹_› (by first | k_mem | kst_mem) (by first | assumption | lia) ‹_› (by first | assumption | lia) ?_ (by with_unfolding_all rfl)); (try dsimp only))) | ((with_reducible refine PauseK.mk (n := 5) ?_); with_reducible (k_here; k_dflt (refine' app_K ‹_› ‹_› ‹_› (by first | assumption | lia) ?_); ((rename Fr _ _ _ _ => lF'); (rename News _ _ _ _ => lN'); clear lF' lN'; intros; (try dsimp only)))) | ((with_reducible refine PauseK.mk (n := 6) ?_); with_reducible (k_here; k_dflt (refine' join_K o_nil ‹_› (by first | k_mem | kst_mem) ‹_› (by first | assumption | lia) ?_); (intros; (try dsimp only)))) | ((with_reducible refine PauseK.mk (n := 7) ?_); with_reducible (k_here; refine isnot_sr10 ?_))); k_steps))
      · have hy := ‹_ = S texts.flatten›
        rename News _ _ _ _ => NZ
        refine hret _ _ _ ⟨_, _, rfl, ?_⟩ (by assumption) (cb_drop NZ fun p hp => List.mem_cons_of_mem _ (List.mem_cons_of_mem _ hp))
        rw [hy, htx, o_s, o_Z, o_empty9, S_app, S_app, S_app]
        simp
      · exfalso; lia
end
section
open PySem.Calls PySem.Spec

local macro_rules | `(tactic| walk_at "call type:object") => `(tactic| refine PauseK.o 0 ?_)

set_option linter.unusedVariables false in
theorem c85 (w : World) (p : Program) (loose : List Str) (mean : ExcName → Option Value) (mg mb : Str → Option Value) (news : List (Addr × Obj)) (l : List Nat) (t : Tok) (toks : List Tk)
   (h99 : ∀ p ∈ news, p.1 ≠ 99) (hlr : l = render toks) (htk : ∀ t ∈ toks, okTk t) (hl : l.length ≤ 20000) :
  ∀ (dp un : Nat) (gd : Option (List Code)) (cn : Str) (cs : Scope) (a : Addr) (ccd : Value) (cl : List (Str × Addr)) (outer : List Env) (A₀ : Around) (base h₀ : Heap) (L : Addr) (m : Str → Option Value) (s : Shared) (Q E : Value → Shared → Prop),
    Below A₀ base outer h₀ → Fr h₀ L s.heap m → (hd.heap_39 w.params).In h₀ → News h₀ L s.heap ((99, tabObj #[]) :: news) → Top p loose mean mg mb h₀ → CodeHd base 103 99 → cs.kind = .function →
    dp + 5 < recursionLimit → un + 8 * 5 < cLine →
    (∀ v h' tk', (∃ y t' ps, v = .str y t' ∧ y = S (toldOf toks) ∧ News h₀ L h' ((99, tabObj ps) :: news)) → Fr h₀ L h' m → Q v { s with heap := h', toks := tk' }) →
      wpAny (model PG w) (ktrTop dp un gd cn cs L a ccd cl outer) (call (.ref 85) [.str (S l) t]) Q E s := by
  w_top off
  intro dp un gd cn cs a ccd cl outer A₀ base h₀ L m s Q E B F X N T hC hk hd hu hret
  refine wpAny_call ?_
  k_dflt cell_enter
  (k_steps; repeat' ((first | ((with_reducible refine PauseK.mk (n := 0) ?_); with_reducible (k_here; k_dflt (refine' obj_K ‹_› ‹_› ?_); ((rename Fr _ _ _ _ => lF'); (rename News _ _ _ _ => lN'); clear lF' lN'; intros; (try dsimp only))))); k_steps))
  rename_i g1 L1 h1 FG B1 X1 T1 tkA mS h2 tk2 q1 h3 F1 N1
  rw [show Str.ofString "." = S [46] by decide +kernel]
  have hlo := render_len_ge toks
  have htl : (render toks).length ≤ 20000 := by rw [← hlr]; exact hl
  have hq1 : ∀ p ∈ (mS, plainO) :: news, p.1 ≠ 99 := by
    intro p hp
    rcases List.mem_cons.mp hp with rfl | hp
    · exact Nat.ne_of_gt (q1 _ (List.mem_cons_self ..))
    · exact h99 p hp
  have N1' : News g1 L1 h3 ((99, tabObj #[]) :: (mS, plainO) :: news) := fun p hp => N1 p (by
    rcases List.mem_cons.mp hp with rfl | hp
    · exact List.mem_cons_of_mem _ (List.mem_cons_self ..)
    · rcases List.mem_cons.mp hp with rfl | hp
      · exact List.mem_cons_self ..
      · exact List.mem_cons_of_mem _ (List.mem_cons_of_mem _ hp))
  with_unfolding_all refine' c104 w p loose mean mg mb ((mS, plainO) :: news) mS plainO l t _ toks (List.mem_cons_self ..) hq1 hlr htk hl _ _ _ _ _ _ _ _ _ _ _ _ _ _ _ _ _ ?uB ?uF ?uX N1' ?uT ?uC ?uk ?ud ?uu ?_
  case uB => k_asm
  case uF => k_asm
  case uX => k_asm
  case uT => k_asm
  case uC => exact hC
  case uk => first | exact rfl | assumption
  case ud => ktr_room
  case uu => ktr_units
  rintro v h4 tk4 ⟨lr, us, n, TT, rfl, hres, hlt, N4⟩ F4
  dsimp only
  (k_steps; repeat' ((first | ((with_reducible refine PauseK.mk (n := 0) ?_); with_reducible (k_here; k_dflt (refine' obj_K ‹_› ‹_› ?_); ((rename Fr _ _ _ _ => lF'); (rename News _ _ _ _ => lN'); clear lF' lN'; intros; (try dsimp only))))); k_steps))
  rename Fr _ _ _ _ => F5
  have hos := splitOs_eq (outTk toks)
  have hul : us.length ≤ 20000 := by
    rw [← hres.len]
    have := outTk_len toks
    lia
  have htd := told_len toks
  with_unfolding_all refine' c111 w p loose mean mg mb ((lr, listOf us.toArray n) :: (99, tabObj TT) :: (mS, plainO) :: news) mS lr plainO us n (splitOs (outTk toks)).1 (splitOs (outTk toks)).2 (List.mem_cons_of_mem _ (List.mem_cons_of_mem _ (List.mem_cons_self ..))) (List.mem_cons_self ..) (by rw [hos]; exact hres) (splitOs_ok _ (outTk_noTwo _)) hul (by lia) _ _ _ _ _ _ _ _ _ _ _ _ _ _ _ _ _ ?vB ?vF ?vX ?vN ?vT ?vk ?vd ?vu ?_
  case vB => k_asm
  case vF => k_asm
  case vX => k_asm
  case vN => k_asm
  case vT => k_asm
  case vk => first | exact rfl | assumption
  case vd => ktr_room
  case vu => ktr_units
  rintro v h5 tk5 ⟨y, t', rfl, hy⟩ F6 N6
  dsimp only
  (k_steps; repeat' ((first | ((with_reducible refine PauseK.mk (n := 0) ?_); with_reducible (k_here; k_dflt (refine' obj_K ‹_› ‹_› ?_); ((rename Fr _ _ _ _ => lF'); (rename News _ _ _ _ => lN'); clear lF' lN'; intros; (try dsimp only))))); k_steps))
  rename News _ _ _ _ => N7
  refine hret _ _ _ ⟨_, _, TT, rfl, hy, cb_drop N7 fun p hp => ?_⟩ (by assumption)
  rcases List.mem_cons.mp hp with rfl | hp
  · exact List.mem_cons_of_mem _ (List.mem_cons_self ..)
  · exact List.mem_cons_of_mem _ (List.mem_cons_of_mem _ (List.mem_cons_of_mem _ hp))
end
section
open PySem.Calls PySem.Spec


set_option linter.unusedVariables false in
theorem c153F (w : World) (p : Program) (loose : List Str) (mean : ExcName → Option Value) (mg mb : Str → Option Value) (news : List (Addr × Obj)) (x : Str) (t : Tok) (a : Addr) (f : Fld) (hx : x.length ≤ 10000) (hF : FldAt w news a f) :
  CallS w p loose mean mg mb 153 news [.str x t, .ref a] (fun v => ∃ y t', v = .str y t' ∧ y = S (joinF x.cps.toList f) ∧ y.length ≤ 6 * x.length + 301) 3 := by
  obtain ⟨⟨h1, h2, h3, _⟩, th, tm, tt, tx, aT, lI, n6, nn, us, oT, m1, m2, m3, _⟩ := hF
  exact c153 w p loose mean mg mb news x t th tm tt tx f.hn a aT lI n6 nn f.mark (S f.text) (S f.texted) us f.is h1 hx m1 m2 m3 h2 h3

local macro_rules | `(tactic| walk_at "call ref") => `(tactic| refine PauseK.o 0 ?_)

local macro_rules | `(tactic| walk_at "my enter") => `(tactic| (refine' code_def ?k1 ?k2 ?k3 ?k4 ?k5 ?kA ?kF ?kK ?k6 ?k7 ?k8 ?k9 ?kB ?_ ?c2 ?c3 ?c4 ?c5; (case kA => exact rfl); (case kF => exact rfl); (case kK => assumption); (case k1 => k_asm); (case k2 => k_asm); (case k3 => k_asm); (case k4 => k_asm); (case k5 => k_asm); (case k6 => k_is); (case k7 => k_is); (case k8 => ktr_room); (case k9 => first | exact BindsTo.of_eq rfl | exact binds_K (by k_in) rfl (by k_is) rfl rfl rfl); (case c5 => decide); (case kB => exact locs rfl); (case c2 => exact rfl); (case c3 => exact rfl); (case c4 => exact rfl); k_whole; intro g' L' h' FG' F' N' B' X' T'; (try dsimp only); (try k_lift B'); (try k_fold)))

local macro_rules | `(tactic| walk_at "call builtin:iter") => `(tactic| refine PauseK.o 1 ?_)
local macro_rules | `(tactic| walk_at "exec For Name Name cons nil") => `(tactic| refine PauseK.o 2 ?_)

theorem is_sr {M : Model} {A : Around} {E : Value → Shared → Prop} {s : Shared} {x : Str} {t : Tok} {a : Addr} {Q : Value → Shared → Prop} (h : Q (.bool false) s) : wpAny M A (compareOp .Is (.str x t) (.ref a)) Q E s := fun _ _ _ => h
local macro_rules | `(tactic| walk_at "compareOp Is str ref") => `(tactic| refine PauseK.o 3 ?_)

noncomputable def bnd : Nat → Nat
  | 0 => 0
  | n + 1 => 6 * bnd n + 301

set_option linter.unusedVariables false in
theorem c120 (w : World) (p : Program) (loose : List Str) (mean : ExcName → Option Value) (mg mb : Str → Option Value) (news : List (Addr × Obj)) (lF : Addr) (n : Nat) (t : Tok) (afs : List (Addr × Fld)) (h3 : afs.length ≤ 3)
   (hL : (lF, listOf (afs.map fun q => Value.ref q.1).toArray n) ∈ news) (hF : ∀ q ∈ afs, FldAt w news q.1 q.2) :
  CallS w p loose mean mg mb 120 news [.ref 153, .ref lF, .str (Str.ofString "") t] (fun v => ∃ y t', v = .str y t' ∧ y = S (joinAll (afs.map (·.2))) ∧ y.length ≤ 20000) 5 := by
  w_top off
  intro dp un gd cn cs a ccd cl outer A₀ base h₀ L m s Q E B F X N T hk hd hu hret
  refine wpAny_call ?_
  k_dflt (walk_at "my enter")
  (k_steps; repeat' ((first | ((with_reducible refine PauseK.mk (n := 0) ?_); with_reducible (k_here; with_unfolding_all (refine' useS ‹_› ‹_› ‹_› ‹_› ‹_› (by first | exact rfl | assumption) (c153F _ _ _ _ _ _ _ _ _ _ _ (by first | decide | lia) ‹_›) (by ktr_room) (by ktr_units) ?_); (intro v' h' tk' hR' F' N'; obtain ⟨y', t', hv', hy', hl'⟩ := hR'; subst hv'; (try dsimp only); (try k_fold)))) | ((with_reducible refine PauseK.mk (n := 1) ?_); with_reducible (k_here; k_dflt (refine' iter_K ‹_› ‹_› ‹_› ?_); ((rename Fr _ _ _ _ => lF'); (rename News _ _ _ _ => lN'); clear lF' lN'; intros; (try dsimp only)))) | ((with_reducible refine PauseK.mk (n := 2) ?_); with_reducible (k_here; (with_unfolding_all refine' For_invVF ‹_› (by exact rfl) (by exact rfl) ?_; k_whole))) | ((with_reducible refine PauseK.mk (n := 3) ?_); with_reducible (k_here; refine is_sr ?_))); k_steps))
  rename_i g1 L1 h1 FG B1 X1 T1 tkA I h2 tk2 q1 h3' _ _ _ h4 F1 N1
  have hqI : ∀ p ∈ news, p.1 ≠ I := fun p hp => Nat.ne_of_lt (q1 p hp)
  with_unfolding_all refine my_forI (σ := Str × Tok) (fun _ => news) (fun c => [(Str.ofString "value", .str c.1 c.2)]) [] (fun i c => c.1 = S (joinAll ((afs.map (·.2)).take i)) ∧ c.1.length ≤ bnd i) (Str.ofString "", _) rfl F1 N1 (fun _ h => h) (fun _ => hL) (fun _ => hqI) (by kst_all) ⟨(by decide +kernel : Str.ofString "" = S []), (by decide +kernel : (Str.ofString "").length ≤ 0)⟩ ?_ ?_
  · rintro i v ⟨y, ty⟩ u h tk oI hv ⟨hy, hyl⟩ F2 N2
    dsimp only at hy hyl F2 N2
    have hi : i < afs.length := by
      have := (List.getElem?_eq_some_iff.mp hv).1
      simpa using this
    have hv' : v = .ref afs[i].1 := by
      rw [List.getElem?_map, List.getElem?_eq_getElem hi] at hv
      exact (Option.some.inj hv).symm
    subst hv'
    have hf := (hF afs[i] (List.getElem_mem hi)).mono (n2 := news ++ [(I, oI)]) fun p hp => List.mem_append_left _ hp
    have hb : y.length ≤ 10000 := by
      have : i = 0 ∨ i = 1 ∨ i = 2 := by lia
      rcases this with rfl | rfl | rfl
      · exact Nat.le_trans hyl (by decide)
      · exact Nat.le_trans hyl (by decide)
      · exact Nat.le_trans hyl (by decide)
    have ht : joinAll ((afs.map (·.2)).take (i + 1)) = joinF (joinAll ((afs.map (·.2)).take i)) afs[i].2 := by
      unfold joinAll
      rw [List.take_add_one, List.foldl_append, List.getElem?_map, List.getElem?_eq_getElem hi]
      rfl
    have hbn : bnd (i + 1) = 6 * bnd i + 301 := rfl
    (k_steps; repeat' ((first | ((with_reducible refine PauseK.mk (n := 0) ?_); with_reducible (k_here; with_unfolding_all (refine' useS ‹_› ‹_› ‹_› ‹_› ‹_› (by first | exact rfl | assumption) (c153F _ _ _ _ _ _ _ _ _ _ _ (by first | decide | lia) ‹_›) (by ktr_room) (by ktr_units) ?_); (intro v' h' tk' hR' F' N'; obtain ⟨y', t', hv', hy', hl'⟩ := hR'; subst hv'; (try dsimp only); (try k_fold)))) | ((with_reducible refine PauseK.mk (n := 1) ?_); with_reducible (k_here; k_dflt (refine' iter_K ‹_› ‹_› ‹_› ?_); ((rename Fr _ _ _ _ => lF'); (rename News _ _ _ _ => lN'); clear lF' lN'; intros; (try dsimp only)))) | ((with_reducible refine PauseK.mk (n := 2) ?_); with_reducible (k_here; (with_unfolding_all refine' For_invVF ‹_› (by exact rfl) (by exact rfl) ?_; k_whole))) | ((with_reducible refine PauseK.mk (n := 3) ?_); with_reducible (k_here; refine is_sr ?_))); k_steps))
    rename Fr _ _ _ _ => F5
    rename News _ _ _ _ => N5
    have e1 := ‹_ = S (joinF y.cps.toList afs[i].2)›
    have e2 := ‹_ ≤ 6 * y.length + 301›
    change InvEndG _ _ _ _ _ _
    refine mf_end (_, _) F5 N5 (fun _ h => List.mem_append_left _ h) (fun _ h => List.mem_append_right _ h) (fun q hq b hb => ?_) (by kst_all) (by walk_at "my same") ⟨?_, ?_⟩
    · rcases List.mem_singleton.mp hq with rfl
      obtain ⟨p9, hp9, rfl⟩ := List.mem_map.mp hb
      exact (hqI p9 hp9).symm
    · dsimp only
      rw [e1, ht, hy]
    · dsimp only
      rw [hbn]
      lia
  · rintro ⟨y, ty⟩ u h tk ⟨hy, hyl⟩ F2 N2
    dsimp only at hy hyl F2 N2
    rw [List.length_map] at hy hyl
    (k_steps; repeat' ((first | ((with_reducible refine PauseK.mk (n := 0) ?_); with_reducible (k_here; with_unfolding_all (refine' useS ‹_› ‹_› ‹_› ‹_› ‹_› (by first | exact rfl | assumption) (c153F _ _ _ _ _ _ _ _ _ _ _ (by first | decide | lia) ‹_›) (by ktr_room) (by ktr_units) ?_); (intro v' h' tk' hR' F' N'; obtain ⟨y', t', hv', hy', hl'⟩ := hR'; subst hv'; (try dsimp only); (try k_fold)))) | ((with_reducible refine PauseK.mk (n := 1) ?_); with_reducible (k_here; k_dflt (refine' iter_K ‹_› ‹_› ‹_› ?_); ((rename Fr _ _ _ _ => lF'); (rename News _ _ _ _ => lN'); clear lF' lN'; intros; (try dsimp only)))) | ((with_reducible refine PauseK.mk (n := 2) ?_); with_reducible (k_here; (with_unfolding_all refine' For_invVF ‹_› (by exact rfl) (by exact rfl) ?_; k_whole))) | ((with_reducible refine PauseK.mk (n := 3) ?_); with_reducible (k_here; refine is_sr ?_))); k_steps))
    refine hret _ _ _ ⟨_, _, rfl, ?_, ?_⟩ (by assumption) (by assumption)
    · rw [hy, ← List.length_map (f := (·.2)), List.take_length]
    · have : afs.length = 0 ∨ afs.length = 1 ∨ afs.length = 2 ∨ afs.length = 3 := by lia
      rcases this with e | e | e | e <;> rw [e] at hyl <;> exact Nat.le_trans hyl (by decide)
end
section
open PySem.Calls PySem.Spec

local macro_rules | `(tactic| walk_at "my pad") => `(tactic| skip)
local macro_rules | `(tactic| walk_at "call builtin:len") => `(tactic| (k_here; k_dflt (refine' len_K ‹_› (by walk_at "my m") (by walk_at "my o") ?_); walk_at "my d"))
local macro_rules | `(tactic| walk_at "subscriptTail") => `(tactic| refine PauseK.o 0 ?_)

theorem mid_K {prog : Program} {w : World} {A : Around} {E : Value → Shared → Prop} {s : Shared} {h₀ : Heap} {L l : Addr} {m : Str → Option Value} {news : List (Addr × Obj)} {value slice : PySem.Expr} {us : List Value} {n : Nat} {t1 t2 : Tok} {Q : Value → Shared → Prop} (F : Fr h₀ L s.heap m) (N : News h₀ L s.heap news) (hl : (l, listOf us.toArray n) ∈ news) (h2 : 2 ≤ us.length) (hz : us.length ≤ 1000000)
    (h : ∀ D h', Fr h₀ L h' m → News h₀ L h' ((D, listOf ((us.drop 1).take (us.length - 2)).toArray 0) :: news) → (∀ p ∈ news, p.1 < D) → Q (.ref D) { s with heap := h' })
    (hs : subscripted slice false (.ref l) (.ref s.heap.objs.size) = operate [.ref s.heap.objs.size, .ref l] (getItem (.ref l) (.ref s.heap.objs.size)) := by with_unfolding_all rfl) (ht : ∀ r, letTemporaryGo value (.ref l) r = pure () := by intro _; with_unfolding_all rfl) :
    wpAny (model prog w) A (subscriptTail value slice (.ref l) (.ref s.heap.objs.size)) Q E { s with heap := s.heap.push { cls := .type "slice", data := .fields #[.int 1 t1, .int (-1) t2, .none] } } :=
  kmk_slice_lit F N ⟨_, (N _ hl).1, rfl, n, rfl⟩ (.int 1 t1) (.int (-1) t2) (pick_mid us h2) h hs ht (by rw [List.size_toArray]; exact Nat.le_trans hz (by decide))
local macro_rules | `(tactic| walk_at "subscriptTail Name Slice ref ref") => `(tactic| refine PauseK.o 1 ?_)
local macro_rules | `(tactic| walk_at "call builtin:str.find") => `(tactic| refine PauseK.o 2 ?_)
local macro_rules | `(tactic| walk_at "exec For Name Subscript cons nil") => `(tactic| refine PauseK.o 3 ?_)

theorem sl0 (x : Str) (p0 : List Nat) : Txt.slice x none (some ((S p0).length : Int)) = S (x.cps.toList.take p0.length) := by
  rw [S_len, slice_to_cut _ (by lia)]
  simp
theorem midL_snoc (t : List Nat) (q : List Nat) : ∀ (l : List (List Nat)) (a : Nat), midL t a (l ++ [q]) = (midL t a l).bind fun a' => (findL t q a').map fun k => k + q.length
  | [], a => by
    show (match findL t q a with | none => none | some k => some (k + q.length)) = (findL t q a).map fun k => k + q.length
    cases findL t q a <;> rfl
  | p :: l, a => by
    show (match findL t p a with | none => none | some k => midL t (k + p.length) (l ++ [q])) = (match findL t p a with | none => none | some k => midL t (k + p.length) l).bind _
    cases findL t p a with
    | none => rfl
    | some k => exact midL_snoc t q l (k + p.length)
theorem midL_none (t : List Nat) (r : List (List Nat)) : ∀ (l : List (List Nat)) (a : Nat), midL t a l = none → midL t a (l ++ r) = none
  | [], a, h => by cases h
  | p :: l, a, h => by
    show (match findL t p a with | none => none | some k => midL t (k + p.length) (l ++ r)) = none
    have h' : (match findL t p a with | none => none | some k => midL t (k + p.length) l) = none := h
    cases hq : findL t p a with
    | none => rfl
    | some k => rw [hq] at h'; exact midL_none t r l _ h'

set_option linter.unusedVariables false in
theorem c177a (w : World) (p : Program) (loose : List Str) (mean : ExcName → Option Value) (mg mb : Str → Option Value) (news : List (Addr × Obj)) (lP : Addr) (n : Nat) (us : List Value) (x : Str) (t : Tok) (p0 : List Nat)
   (hL : (lP, listOf us.toArray n) ∈ news) (hst : Strs [p0] us) (hx : x.length ≤ 100000) :
  CallS w p loose mean mg mb 177 news [.ref lP, .str x t] (fun v => v = .bool (takenL [p0] x.cps.toList)) 1 := by
  w_top off
  intro dp un gd cn cs a ccd cl outer A₀ base h₀ L m s Q E B F X N T hk hd hu hret
  have hul : us.length = 1 := hst.len
  cases hst with
  | cons r t1 h9 =>
    cases h9
    have h0 : [Value.str (S p0) t1][((0 : Int)).toNat]? = some (Value.str (S p0) t1) := rfl
    refine wpAny_call ?_
    k_dflt cell_enter
    (k_steps; repeat' ((first | ((with_reducible refine PauseK.mk (n := 0) ?_); with_reducible (k_here; (with_reducible show wpAny _ _ (subscriptTail _ _ (Value.ref _) (Value.int (-1) _)) _ _ _); k_dflt (refine' last_K ‹_› (by first | assumption | k_mem | kst_mem) (by first | assumption | lia) ?_ (by with_unfolding_all rfl)))) | ((with_reducible refine PauseK.mk (n := 0) ?_); with_reducible (k_here; (with_reducible show wpAny _ _ (subscriptTail _ _ (Value.ref _) (Value.int _ _)) _ _ _); k_dflt (refine' item_K ‹_› (by first | k_mem | kst_mem) (by first | assumption | lia) ‹_› (by first | assumption | lia) ?_ (by with_unfolding_all rfl)); (try dsimp only))) | ((with_reducible refine PauseK.mk (n := 1) ?_); with_reducible (k_here; k_dflt (refine' mid_K (s := ⟨_, _, _, _, _⟩) ‹_› ‹_› (by first | k_mem | kst_mem) (by first | assumption | lia) (by first | assumption | lia) ?_ (by with_unfolding_all rfl) (by (intro _; with_unfolding_all rfl))); ((rename Fr _ _ _ _ => lF'); (rename News _ _ _ _ => lN'); clear lF' lN'; intros; (try dsimp only)))) | ((with_reducible refine PauseK.mk (n := 2) ?_); with_reducible (k_here; k_dflt (refine' find_K (by first | assumption | lia) ?_); (intros; (try dsimp only)))) | ((with_reducible refine PauseK.mk (n := 3) ?_); with_reducible (k_here; (with_unfolding_all refine' For_invVF ‹_› (by exact rfl) (by exact rfl) ?_; k_whole)))); k_steps))
    · refine hret _ _ _ ?_ (by assumption) (by assumption)
      have : (x == S p0) = (x.cps.toList == p0) := by
        rw [Bool.eq_iff_iff, beq_iff_eq, beq_iff_eq]
        constructor
        · intro h; rw [h, S_cps]
        · intro h; rw [← h, S_of]
      rw [this]
      rfl
    · exact absurd rfl ‹(([Value.str (S p0) t1].length : Nat) : Int) ≠ 1›
set_option linter.unusedVariables false in
theorem c177b (w : World) (p : Program) (loose : List Str) (mean : ExcName → Option Value) (mg mb : Str → Option Value) (news : List (Addr × Obj)) (lP : Addr) (n : Nat) (us : List Value) (x : Str) (t : Tok) (p0 p1 : List Nat) (ps : List (List Nat))
   (hL : (lP, listOf us.toArray n) ∈ news) (hst : Strs (p0 :: p1 :: ps) us) (hpl : ∀ q ∈ p0 :: p1 :: ps, q.length ≤ 100000) (hn : (p0 :: p1 :: ps).length ≤ 100000) (hx : x.length ≤ 100000) :
  CallS w p loose mean mg mb 177 news [.ref lP, .str x t] (fun v => v = .bool (takenL (p0 :: p1 :: ps) x.cps.toList)) 1 := by
  w_top off
  intro dp un gd cn cs a ccd cl outer A₀ base h₀ L m s Q E B F X N T hk hd hu hret
  have hul : us.length = (p0 :: p1 :: ps).length := hst.len
  obtain ⟨t0, h0⟩ : ∃ t0, us[((0 : Int)).toNat]? = some (Value.str (S p0) t0) := by
    cases hst with
    | cons r t1 h9 => exact ⟨t1, rfl⟩
  have hl0 : (S p0).length ≤ 100000 := by rw [S_len]; exact hpl _ (List.mem_cons_self ..)
  simp only [List.length_cons] at hul hn
  refine wpAny_call ?_
  k_dflt cell_enter
  obtain ⟨pl, hpl9⟩ : ∃ pl, pl = lastP (p1 :: ps) := ⟨_, rfl⟩
  have hps : p1 :: ps = (p1 :: ps).dropLast ++ [pl] := by
    rw [hpl9]
    unfold lastP
    rw [List.getLast?_eq_some_getLast (by simp)]
    exact (List.dropLast_concat_getLast (by simp)).symm
  obtain ⟨vs, v9, e9⟩ : ∃ vs v, us = vs ++ [v] := by
    rcases List.eq_nil_or_concat us with e | ⟨vs, v, e⟩
    · rw [e] at hul; simp at hul
    · exact ⟨vs, v, by rw [e, List.concat_eq_append]⟩
  have hvl : vs.length = ps.length + 1 := by rw [e9, List.length_append, List.length_singleton] at hul; lia
  obtain ⟨tl, hv9⟩ : ∃ tl, v9 = .str (S pl) tl := by
    obtain ⟨r, t9, h8, h9⟩ := hst.at (i := ps.length + 1) (v := v9) (by rw [e9, ← hvl]; simp)
    have : r = pl := by
      rw [List.getElem?_cons_succ, hps] at h8
      have hdl : (p1 :: ps).dropLast.length = ps.length := by simp
      rw [List.getElem?_append_right (by rw [hdl]; exact Nat.le_refl _), hdl, Nat.sub_self] at h8
      simpa using h8.symm
    exact ⟨t9, by rw [h9, this]⟩
  subst hv9
  have hlpl : (S pl).length ≤ 100000 := by
    rw [S_len]; exact hpl _ (List.mem_cons_of_mem _ (by rw [hps]; simp))
  have hmid : Strs (p1 :: ps).dropLast ((us.drop 1).take (us.length - 2)) := by
    have := (hst.drop1).tk (us.length - 2)
    rw [show us.length - 2 = ps.length by lia] at this ⊢
    rwa [List.dropLast_eq_take]
  subst e9
  have hun : takenL (p0 :: p1 :: ps) x.cps.toList = (if x.cps.toList.take p0.length == p0 then (match midL x.cps.toList p0.length (p1 :: ps).dropLast with
      | none => false
      | some a => decide (a + (lastP (p1 :: ps)).length ≤ x.cps.toList.length) && (x.cps.toList.drop (x.cps.toList.length - (lastP (p1 :: ps)).length) == lastP (p1 :: ps))) else false) := rfl
  have hxl : x.cps.toList.length = x.length := by simp [Str.length]
  (k_steps; repeat' ((first | ((with_reducible refine PauseK.mk (n := 0) ?_); with_reducible (k_here; (with_reducible show wpAny _ _ (subscriptTail _ _ (Value.ref _) (Value.int (-1) _)) _ _ _); k_dflt (refine' last_K ‹_› (by first | assumption | k_mem | kst_mem) (by first | assumption | lia) ?_ (by with_unfolding_all rfl)))) | ((with_reducible refine PauseK.mk (n := 0) ?_); with_reducible (k_here; (with_reducible show wpAny _ _ (subscriptTail _ _ (Value.ref _) (Value.int _ _)) _ _ _); k_dflt (refine' item_K ‹_› (by first | k_mem | kst_mem) (by first | assumption | lia) ‹_› (by first | assumption | lia) ?_ (by with_unfolding_all rfl)); (try dsimp only))) | ((with_reducible refine PauseK.mk (n := 1) ?_); with_reducible (k_here; k_dflt (refine' mid_K (s := ⟨_, _, _, _, _⟩) ‹_› ‹_› (by first | k_mem | kst_mem) (by first | assumption | lia) (by first | assumption | lia) ?_ (by with_unfolding_all rfl) (by (intro _; with_unfolding_all rfl))); ((rename Fr _ _ _ _ => lF'); (rename News _ _ _ _ => lN'); clear lF' lN'; intros; (try dsimp only)))) | ((with_reducible refine PauseK.mk (n := 2) ?_); with_reducible (k_here; k_dflt (refine' find_K (by first | assumption | lia) ?_); (intros; (try dsimp only)))) | ((with_reducible refine PauseK.mk (n := 3) ?_); with_reducible (k_here; (with_unfolding_all refine' For_invVF ‹_› (by exact rfl) (by exact rfl) ?_; k_whole)))); k_steps))
  · exfalso; lia
  · refine hret _ _ _ ?_ (by assumption) (by assumption)
    have h9 := ‹(Txt.slice x none (some ((S p0).length : Int)) != S p0) = true›
    rw [sl0] at h9
    rw [hun, S_ne h9]
    rfl
  · rename_i g1 L1 h1 FG B1 X1 T1 tkA a1 tkB h2 t2 k2 a2 a3 tkC h3 D h4 F1 N1 q1
    rw [sl0] at a3
    have hp0 := S_eq a3
    rw [hp0, beq_self_eq_true, if_pos rfl, ← hpl9] at hun
    have hzl : ((vs ++ [Value.str (S pl) tl]).length - 2) = ps.length := by lia
    with_unfolding_all refine my_for (σ := Nat × Tok) (fun _ => (D, listOf (((vs ++ [Value.str (S pl) tl]).drop 1).take ((vs ++ [Value.str (S pl) tl]).length - 2)).toArray 0) :: news) (fun c => [(Str.ofString "at", .int (c.1 : Int) c.2)]) [Str.ofString "found"] (fun i c => midL x.cps.toList p0.length ((p1 :: ps).dropLast.take i) = some c.1 ∧ c.1 ≤ 200000) ((S p0).length, _) rfl (List.mem_cons_self ..) F1 N1 (fun _ h => h) (fun _ => List.mem_cons_self ..) (by kst_all) ⟨by rw [S_len]; rfl, by dsimp only; lia⟩ ?_ ?_
    · rintro i v ⟨at9, ta⟩ u h tk own hv hoff ⟨hm9, hal⟩ F2 N2
      obtain ⟨q, tq, hq1, rfl⟩ := hmid.at hv
      dsimp only at hm9 hal F2 N2
      have hql : (S q).length ≤ 100000 := by
        rw [S_len]
        exact hpl _ (List.mem_cons_of_mem _ (List.dropLast_subset _ (List.mem_of_getElem? hq1)))
      have hsn : (p1 :: ps).dropLast.take (i + 1) = (p1 :: ps).dropLast.take i ++ [q] := by rw [List.take_add_one, hq1]; rfl
      (k_steps; repeat' ((first | ((with_reducible refine PauseK.mk (n := 0) ?_); with_reducible (k_here; (with_reducible show wpAny _ _ (subscriptTail _ _ (Value.ref _) (Value.int (-1) _)) _ _ _); k_dflt (refine' last_K ‹_› (by first | assumption | k_mem | kst_mem) (by first | assumption | lia) ?_ (by with_unfolding_all rfl)))) | ((with_reducible refine PauseK.mk (n := 0) ?_); with_reducible (k_here; (with_reducible show wpAny _ _ (subscriptTail _ _ (Value.ref _) (Value.int _ _)) _ _ _); k_dflt (refine' item_K ‹_› (by first | k_mem | kst_mem) (by first | assumption | lia) ‹_› (by first | assumption | lia) ?_ (by with_unfolding_all rfl)); (try dsimp only))) | ((with_reducible refine PauseK.mk (n := 1) ?_); with_reducible (k_here; k_dflt (refine' mid_K (s := ⟨_, _, _, _, _⟩) ‹_› ‹_› (by first | k_mem | kst_mem) (by first | assumption | lia) (by first | assumption | lia) ?_ (by with_unfolding_all rfl) (by (intro _; with_unfolding_all rfl))); ((rename Fr _ _ _ _ => lF'); (rename News _ _ _ _ => lN'); clear lF' lN'; intros; (try dsimp only)))) | ((with_reducible refine PauseK.mk (n := 2) ?_); with_reducible (k_here; k_dflt (refine' find_K (by first | assumption | lia) ?_); (intros; (try dsimp only)))) | ((with_reducible refine PauseK.mk (n := 3) ?_); with_reducible (k_here; (with_unfolding_all refine' For_invVF ‹_› (by exact rfl) (by exact rfl) ?_; k_whole)))); k_steps))
      · have hr9 := ‹_ = (match findL x.cps.toList (S q).cps.toList ((at9 : Nat) : Int).toNat with | some k => (k : Int) | none => -1)›
        rw [S_cps, Int.toNat_natCast] at hr9
        cases hf : findL x.cps.toList q at9 with
        | some k =>
          rw [hf] at hr9
          dsimp only at hr9
          subst hr9
          have h0 := ‹(_ : Int) < 0›
          exact absurd h0 (Int.not_lt.mpr (Int.natCast_nonneg k))
        | none =>
          rename News _ _ _ _ => NZ
          refine hret _ _ _ ?_ (by assumption) (cb_drop NZ fun p hp => List.mem_append_left _ (List.mem_cons_of_mem _ hp))
          have e1 : midL x.cps.toList p0.length ((p1 :: ps).dropLast.take (i + 1)) = none := by
            rw [hsn, midL_snoc, hm9]
            show (findL x.cps.toList q at9).map _ = none
            rw [hf]; rfl
          have e2 := midL_none x.cps.toList ((p1 :: ps).dropLast.drop (i + 1)) _ _ e1
          rw [List.take_append_drop] at e2
          rw [hun, e2]
      · have hr9 := ‹_ = (match findL x.cps.toList (S q).cps.toList ((at9 : Nat) : Int).toNat with | some k => (k : Int) | none => -1)›
        rw [S_cps, Int.toNat_natCast] at hr9
        cases hf : findL x.cps.toList q at9 with
        | none =>
          rw [hf] at hr9
          dsimp only at hr9
          exfalso; lia
        | some k =>
          rw [hf] at hr9
          dsimp only at hr9
          subst hr9
          rename Fr _ _ _ _ => F5
          rename News _ _ _ _ => N5
          have hle := findL_le hf
          refine mf_end (k + q.length, _) F5 N5 (fun _ h => List.mem_append_left _ h) (fun _ h => List.mem_append_right _ h) hoff (by kst_all) (by walk_at "my same") ⟨?_, by dsimp only; lia⟩
          rw [hsn, midL_snoc, hm9]
          show (findL x.cps.toList q at9).map _ = _
          rw [hf]; rfl
    · rintro ⟨at9, ta⟩ u h tk ⟨hm9, hal⟩ F2 N2
      rw [hmid.len, List.take_length] at hm9
      dsimp only at hm9 hal F2 N2
      rw [hm9] at hun
      dsimp only at hun
      have hpl2 : (S pl).length = pl.length := S_len pl
      (k_steps; repeat' ((first | ((with_reducible refine PauseK.mk (n := 0) ?_); with_reducible (k_here; (with_reducible show wpAny _ _ (subscriptTail _ _ (Value.ref _) (Value.int (-1) _)) _ _ _); k_dflt (refine' last_K ‹_› (by first | assumption | k_mem | kst_mem) (by first | assumption | lia) ?_ (by with_unfolding_all rfl)))) | ((with_reducible refine PauseK.mk (n := 0) ?_); with_reducible (k_here; (with_reducible show wpAny _ _ (subscriptTail _ _ (Value.ref _) (Value.int _ _)) _ _ _); k_dflt (refine' item_K ‹_› (by first | k_mem | kst_mem) (by first | assumption | lia) ‹_› (by first | assumption | lia) ?_ (by with_unfolding_all rfl)); (try dsimp only))) | ((with_reducible refine PauseK.mk (n := 1) ?_); with_reducible (k_here; k_dflt (refine' mid_K (s := ⟨_, _, _, _, _⟩) ‹_› ‹_› (by first | k_mem | kst_mem) (by first | assumption | lia) (by first | assumption | lia) ?_ (by with_unfolding_all rfl) (by (intro _; with_unfolding_all rfl))); ((rename Fr _ _ _ _ => lF'); (rename News _ _ _ _ => lN'); clear lF' lN'; intros; (try dsimp only)))) | ((with_reducible refine PauseK.mk (n := 2) ?_); with_reducible (k_here; k_dflt (refine' find_K (by first | assumption | lia) ?_); (intros; (try dsimp only)))) | ((with_reducible refine PauseK.mk (n := 3) ?_); with_reducible (k_here; (with_unfolding_all refine' For_invVF ‹_› (by exact rfl) (by exact rfl) ?_; k_whole)))); k_steps))
      · rename News _ _ _ _ => NZ
        refine hret _ _ _ ?_ (by assumption) (cb_drop NZ fun p hp => List.mem_cons_of_mem _ hp)
        have hle : (at9 : Int) ≤ (x.length : Int) - ((S pl).length : Int) := by lia
        rw [slice_from_cut x (by lia), S_beq, hun, hpl2, hxl, show ((x.length : Int) - (pl.length : Int)).toNat = x.length - pl.length by lia, decide_eq_true (by lia : at9 + pl.length ≤ x.length), Bool.true_and]
      · rename News _ _ _ _ => NZ
        refine hret _ _ _ ?_ (by assumption) (cb_drop NZ fun p hp => List.mem_cons_of_mem _ hp)
        have hle : ¬ (at9 : Int) ≤ (x.length : Int) - ((S pl).length : Int) := by lia
        rw [decide_eq_false hle, hun, hxl, decide_eq_false (by lia : ¬ at9 + pl.length ≤ x.length), Bool.false_and]
end
section
open PySem.Calls PySem.Spec

theorem oA1 : Str.ofString "&" = S [38] := by decide +kernel
theorem oA2 : Str.ofString "&amp;" = S [38,97,109,112,59] := by decide +kernel
theorem oA3 : Str.ofString "<" = S [60] := by decide +kernel
theorem oA4 : Str.ofString "&lt;" = S [38,108,116,59] := by decide +kernel
theorem oA5 : Str.ofString ">" = S [62] := by decide +kernel
theorem oA6 : Str.ofString "&gt;" = S [38,103,116,59] := by decide +kernel
theorem oA7 : Str.ofString "\"" = S [34] := by decide +kernel
theorem oA8 : Str.ofString "&quot;" = S [38,113,117,111,116,59] := by decide +kernel
theorem oA9 : Str.ofString "\u000d" = S [13] := by decide +kernel
theorem oA10 : Str.ofString "\n" = S [10] := by decide +kernel
theorem oA11 : Str.ofString "\t" = S [9] := by decide +kernel
theorem oA12 : Str.ofString "&#xD;" = S [38,35,120,68,59] := by decide +kernel
theorem oA13 : Str.ofString "&#xA;" = S [38,35,120,65,59] := by decide +kernel
theorem oA14 : Str.ofString "&#x9;" = S [38,35,120,57,59] := by decide +kernel
theorem oA15 : Str.ofString "&#13;" = S [38,35,49,51,59] := by decide +kernel
theorem oA16 : Str.ofString "&#10;" = S [38,35,49,48,59] := by decide +kernel
theorem oA17 : Str.ofString "&#09;" = S [38,35,48,57,59] := by decide +kernel

set_option linter.unusedSimpArgs false
theorem flat0 : [(PyData.str (Str.ofString "&"), PyData.str (Str.ofString "&amp;")), (PyData.str (Str.ofString "<"), PyData.str (Str.ofString "&lt;")), (PyData.str (Str.ofString "\""), PyData.str (Str.ofString "&quot;")), (PyData.str (Str.ofString "\u000d"), PyData.str (Str.ofString "&#xD;")), (PyData.str (Str.ofString "\n"), PyData.str (Str.ofString "&#xA;")), (PyData.str (Str.ofString "\t"), PyData.str (Str.ofString "&#x9;"))] = T0.map (fun p => (PyData.str (S [p.1]), PyData.str (S p.2))) := by
  simp only [oA1, oA2, oA3, oA4, oA5, oA6, oA7, oA8, oA9, oA10, oA11, oA12, oA13, oA14, oA15, oA16, oA17]; rfl
theorem flat1 : [(PyData.str (Str.ofString "&"), PyData.str (Str.ofString "&amp;")), (PyData.str (Str.ofString "<"), PyData.str (Str.ofString "&lt;")), (PyData.str (Str.ofString ">"), PyData.str (Str.ofString "&gt;"))] = T1.map (fun p => (PyData.str (S [p.1]), PyData.str (S p.2))) := by
  simp only [oA1, oA2, oA3, oA4, oA5, oA6, oA7, oA8, oA9, oA10, oA11, oA12, oA13, oA14, oA15, oA16, oA17]; rfl
theorem flat2 : [(PyData.str (Str.ofString "&"), PyData.str (Str.ofString "&amp;")), (PyData.str (Str.ofString "<"), PyData.str (Str.ofString "&lt;")), (PyData.str (Str.ofString ">"), PyData.str (Str.ofString "&gt;")), (PyData.str (Str.ofString "\""), PyData.str (Str.ofString "&quot;")), (PyData.str (Str.ofString "\u000d"), PyData.str (Str.ofString "&#13;")), (PyData.str (Str.ofString "\n"), PyData.str (Str.ofString "&#10;")), (PyData.str (Str.ofString "\t"), PyData.str (Str.ofString "&#09;"))] = T2.map (fun p => (PyData.str (S [p.1]), PyData.str (S p.2))) := by
  simp only [oA1, oA2, oA3, oA4, oA5, oA6, oA7, oA8, oA9, oA10, oA11, oA12, oA13, oA14, oA15, oA16, oA17]; rfl
theorem flat3 : [(PyData.str (Str.ofString "&"), PyData.str (Str.ofString "&amp;")), (PyData.str (Str.ofString ">"), PyData.str (Str.ofString "&gt;")), (PyData.str (Str.ofString "\""), PyData.str (Str.ofString "&quot;"))] = T3.map (fun p => (PyData.str (S [p.1]), PyData.str (S p.2))) := by
  simp only [oA1, oA2, oA3, oA4, oA5, oA6, oA7, oA8, oA9, oA10, oA11, oA12, oA13, oA14, oA15, oA16, oA17]; rfl
theorem flat4 : [(PyData.str (Str.ofString "&"), PyData.str (Str.ofString "&amp;")), (PyData.str (Str.ofString "<"), PyData.str (Str.ofString "&lt;")), (PyData.str (Str.ofString ">"), PyData.str (Str.ofString "&gt;")), (PyData.str (Str.ofString "\u000d"), PyData.str (Str.ofString "&#xD;"))] = T4.map (fun p => (PyData.str (S [p.1]), PyData.str (S p.2))) := by
  simp only [oA1, oA2, oA3, oA4, oA5, oA6, oA7, oA8, oA9, oA10, oA11, oA12, oA13, oA14, oA15, oA16, oA17]; rfl
theorem KvT.of_flat2 {T : List (Nat × List Nat)} {kvs : List (Str × Value)} {D : List (PyData × PyData)} (e : D = T.map fun p => (PyData.str (S [p.1]), PyData.str (S p.2))) (h : PyProof.V.FlatPairs PyData.str kvs D) : KvT kvs T := by
  subst e; exact KvT.of_flat h
theorem mem_skip {α : Type} {p x : α} {pre news : List α} (hx : x ∈ pre) (hp : p ∈ x :: news) : p ∈ pre ++ news :=
  (List.mem_cons.mp hp).elim (fun e => List.mem_append_left _ (e ▸ hx)) fun h => List.mem_append_right _ h
local macro_rules | `(tactic| walk_at "eval Dict") => `(tactic| ((fail_if_success (with_reducible show wpAny _ _ _ (Cont _) _ _)); refine genQ ?_; intro Q' hQ'))
local macro_rules | `(tactic| walk_at "subscriptTail") => `(tactic| ((with_reducible show wpAny _ _ (subscriptTail _ _ _ (Value.int (Nat.cast _) _)) _ _ _); (fail_if_success (with_reducible show wpAny _ _ (subscriptTail _ _ _ (Value.int (Nat.cast (OfNat.ofNat _)) _)) _ _ _)); (refine Pause.out ?_)))
set_option linter.unusedVariables false in
set_option linter.unusedSimpArgs false in
theorem c134 (w : World) (p : Program) (loose : List Str) (mean : ExcName → Option Value) (mg mb : Str → Option Value) (news : List (Addr × Obj)) (hn : Nat) (hh : hn < 5) (t : Tok) :
  CallOf w p loose mean mg mb 134 news [.int hn t] (fun v add news => ∃ aT o, v = .ref aT ∧ add = [(aT, o)] ∧ TabO w o (tab hn) ∧ (aT == sysModules) = false ∧ ∀ q ∈ news, q.1 < aT) 1 := by
  w_top off
  intro dp un gd cn cs a ccd cl outer A₀ base h₀ L m s Q E B F X N T hk hd hu hret
  have hcases : hn = 0 ∨ hn = 1 ∨ hn = 2 ∨ hn = 3 ∨ hn = 4 := by lia
  have hret' : ∀ aT o h' tk', TabO w o (tab hn) → (aT == sysModules) = false → (∀ q ∈ news, q.1 < aT) → Fr h₀ L h' m → News h₀ L h' ((aT, o) :: news) → Q (.ref aT) { s with heap := h', toks := tk' } :=
    fun aT o h' tk' h1 h2 h3 h4 h5 => hret (.ref aT) [(aT, o)] h' tk' ⟨aT, o, rfl, rfl, h1, h2, h3⟩ h4 h5
  clear hret
  refine wpAny_call ?_
  k_dflt cell_enter
  k_steps
  rename_i g1 L1 h1 FG B1 X1 TT1 _ _ hA oA lA loA hdA hfA apA _ _ hB oB loB hdB hfB apB lB _ _ hC oC loC hdC hfC apC lC _ _ hD oD loD hdD hfD apD lD _ _ hE oE loE hdE hfE apE lE l9 h9 F9 N9 l10
  rcases hcases with rfl | rfl | rfl | rfl | rfl
  all_goals (
    refine Pause.mk ?_
    k_steps
    rename_i kF kN Tc kX)
  · exact hret' _ _ _ _ ⟨_, hdA, KvT.of_flat2 flat0 hfA⟩ loA (fun q hq => lA q hq) kF (cb_drop kN fun p hp => mem_skip (pre := [_, _, _, _, _, _]) (List.mem_cons_of_mem _ (List.mem_cons_of_mem _ (List.mem_cons_of_mem _ (List.mem_cons_of_mem _ (List.mem_cons_of_mem _ (List.mem_cons_self ..)))))) hp)
  · exact hret' _ _ _ _ ⟨_, hdB, KvT.of_flat2 flat1 hfB⟩ loB (fun q hq => kst_ltOf lB.2 q hq) kF (cb_drop kN fun p hp => mem_skip (pre := [_, _, _, _, _, _]) (List.mem_cons_of_mem _ (List.mem_cons_of_mem _ (List.mem_cons_of_mem _ (List.mem_cons_of_mem _ (List.mem_cons_self ..))))) hp)
  · exact hret' _ _ _ _ ⟨_, hdC, KvT.of_flat2 flat2 hfC⟩ loC (fun q hq => kst_ltOf lC.2.2 q hq) kF (cb_drop kN fun p hp => mem_skip (pre := [_, _, _, _, _, _]) (List.mem_cons_of_mem _ (List.mem_cons_of_mem _ (List.mem_cons_of_mem _ (List.mem_cons_self ..)))) hp)
  · exact hret' _ _ _ _ ⟨_, hdD, KvT.of_flat2 flat3 hfD⟩ loD (fun q hq => kst_ltOf lD.2.2.2 q hq) kF (cb_drop kN fun p hp => mem_skip (pre := [_, _, _, _, _, _]) (List.mem_cons_of_mem _ (List.mem_cons_of_mem _ (List.mem_cons_self ..))) hp)
  · exact hret' _ _ _ _ ⟨_, hdE, KvT.of_flat2 flat4 hfE⟩ loE (fun q hq => kst_ltOf lE.2.2.2.2 q hq) kF (cb_drop kN fun p hp => mem_skip (pre := [_, _, _, _, _, _]) (List.mem_cons_of_mem _ (List.mem_cons_self ..)) hp)
end
section
noncomputable def fills : List (List Nat) := [[], [97], [38], [97,109,112,59], [60], [59,98], [10], [42,34]]
noncomputable def marksL (T : List (Nat × List Nat)) : List Nat := (T.map (·.1)).filter fun c => c != 38
theorem marks_len : ∀ h, h < 5 → 2 ≤ (marksL (tab h)).length ∧ (marksL (tab h)).length ≤ 6 := by decide
noncomputable def itemF (k : Int) : List Nat := if k.fmod 5 < 2 then [] else solids.getD ((k.fdiv 5).fmod 10).toNat []
noncomputable def partF (k : Int) : List Nat := if k.fmod 5 < 2 then fills.getD ((k.fdiv 5).fmod 8).toNat [] else solids.getD ((k.fdiv 5).fmod 10).toNat []
theorem fills_len (i : Nat) : (fills.getD i []).length ≤ 5 := by
  by_cases h : i < 8
  · have : ∀ i, i < 8 → (fills.getD i []).length ≤ 5 := by decide
    exact this i h
  · rw [List.getD_eq_getElem?_getD, List.getElem?_eq_none (by show 8 ≤ i; lia)]; simp
theorem solids_len (i : Nat) : (solids.getD i []).length ≤ 5 := by
  by_cases h : i < 10
  · have : ∀ i, i < 10 → (solids.getD i []).length ≤ 5 := by decide
    exact this i h
  · rw [List.getD_eq_getElem?_getD, List.getElem?_eq_none (by show 10 ≤ i; lia)]; simp
theorem partF_len (k : Int) : (partF k).length ≤ 5 := by
  unfold partF
  split
  · exact fills_len _
  · exact solids_len _
theorem parts_len (ns : List Int) : ((ns.map partF).flatten).length ≤ 5 * ns.length := by
  induction ns with
  | nil => simp
  | cons k ns ih =>
    rw [List.map_cons, List.flatten_cons, List.length_append, List.length_cons]
    have := partF_len k
    lia
theorem itemF_menu (k : Int) : itemF k ∈ menu := by
  unfold itemF
  split
  · exact List.mem_cons_self ..
  · have h1 := Int.fmod_nonneg_of_pos (k.fdiv 5) (by decide : (0 : Int) < 10)
    have h2 := Int.fmod_lt_of_pos (k.fdiv 5) (by decide : (0 : Int) < 10)
    have : ∀ i, i < 10 → solids.getD i [] ∈ menu := by decide
    exact this _ (by lia)
theorem Strs.getD {a : List (List Nat)} {vs : List Value} (h : Strs a vs) {i : Nat} (hi : i < a.length) : ∃ t, vs[i]? = some (.str (S (a.getD i [])) t) := by
  obtain ⟨r, t, h1, h2⟩ := h.at (List.getElem?_eq_getElem (show i < vs.length by rw [h.len]; exact hi))
  refine ⟨t, ?_⟩
  rw [List.getElem?_eq_getElem (show i < vs.length by rw [h.len]; exact hi), h2, List.getD_eq_getElem?_getD, h1]
  rfl
structure S139 where
  us : List Value
  n : Nat
  x : Str
  t : Tok
theorem gen3 {g h : Heap} {L lI D aT lF lS lN : Addr} {oT : Obj} {ys vF vS us : List Value} {n : Nat} {news : List (Addr × Obj)} (N : News g L h ((lI, listOf #[] 0) :: (D, LCg.lst ys) :: (aT, oT) :: (lF, listOf vF.toArray 0) :: (lS, listOf vS.toArray 0) :: news)) (hL : (lN, listOf us.toArray n) ∈ news)
    (hq : D < lI ∧ aT < lI ∧ lF < lI ∧ lS < lI ∧ AllLt lI news) :
    ∃ R, (∃ pre rest, R = pre ++ (aT, oT) :: rest ++ news) ∧ (lF, listOf vF.toArray 0) ∈ R ∧ (lS, listOf vS.toArray 0) ∈ R ∧ (lN, listOf us.toArray n) ∈ R ∧ (∀ p ∈ R, p.1 < lI) ∧ News g L h ((lI, listOf (List.toArray []) 0) :: R) := by
  refine ⟨_, ⟨[(D, LCg.lst ys)], [(lF, listOf vF.toArray 0), (lS, listOf vS.toArray 0)], rfl⟩, ?_, ?_, ?_, ?_, N⟩
  · simp
  · simp
  · simp [hL]
  · intro p hp
    simp only [List.cons_append, List.nil_append, List.append_assoc, List.mem_cons] at hp
    rcases hp with rfl | rfl | rfl | rfl | hp
    · exact hq.1
    · exact hq.2.1
    · exact hq.2.2.1
    · exact hq.2.2.2.1
    · exact kst_ltOf hq.2.2.2.2 p hp
theorem marks_ok : ∀ h, h < 5 → ∀ c ∈ marksL (tab h), okMark (tab h) c = true ∧ c < 128 := by decide
theorem end139 {w : World} {h₀ h' : Heap} {L D lI aT : Addr} {oT : Obj} {hn mk j : Nat} {ns : List Int} {th tm tt tx : Tok} {n6 n9 : Nat} {us9 : List Value} {R pre rest news : List (Addr × Obj)}
    (hn5 : hn < 5) (hm1 : okMark (tab hn) mk = true) (hm2 : mk < 128) (hl : ns.length ≤ 5) (hP1 : Strs (ns.map itemF) us9) (hR : R = pre ++ (aT, oT) :: rest ++ news)
    (kN : News h₀ L h' ((D, tupO [.int (hn : Int) th, .ref aT, .str (S [mk]) tm, .ref lI, .str (S (ns.map partF).flatten) tt, .str (S (((ns.map partF).flatten).take j ++ [mk] ++ ((ns.map partF).flatten).drop j)) tx] n6) :: (lI, listOf us9.toArray n9) :: R))
    (hTab : TabO w oT (tab hn)) (hsm : (aT == sysModules) = false) (q1 : ∀ q ∈ news, q.1 < D) (q2 : ∀ q ∈ news, q.1 < lI) (q3 : ∀ q ∈ news, q.1 < aT) :
    ∃ add, (∃ f, FldAt w add D f ∧ ∀ p ∈ add, ∀ q ∈ news, q.1 < p.1) ∧ News h₀ L h' (add ++ news) := by
  have hpl := parts_len ns
  refine ⟨[(D, tupO [.int (hn : Int) th, .ref aT, .str (S [mk]) tm, .ref lI, .str (S (ns.map partF).flatten) tt, .str (S (((ns.map partF).flatten).take j ++ [mk] ++ ((ns.map partF).flatten).drop j)) tx] n6), (lI, listOf us9.toArray n9), (aT, oT)], ⟨⟨hn, mk, ns.map itemF, (ns.map partF).flatten, ((ns.map partF).flatten).take j ++ [mk] ++ ((ns.map partF).flatten).drop j⟩, ⟨⟨hn5, ?_, ?_, ?_, ?_, hm1, hm2⟩, th, tm, tt, tx, aT, lI, n6, n9, us9, oT, List.mem_cons_self .., List.mem_cons_of_mem _ (List.mem_cons_self ..), hP1.are, List.mem_cons_of_mem _ (List.mem_cons_of_mem _ (List.mem_cons_self ..)), hTab, hsm⟩, ?_⟩, fun p hp => kN p ?_⟩
  · intro l hl
    obtain ⟨k, _, rfl⟩ := List.mem_map.mp hl
    exact itemF_menu k
  · rw [List.length_map]; exact hl
  · show ((ns.map partF).flatten).length ≤ 40
    lia
  · show (((ns.map partF).flatten).take j ++ [mk] ++ ((ns.map partF).flatten).drop j).length ≤ 41
    rw [List.length_append, List.length_append, List.length_take, List.length_drop, List.length_singleton]
    lia
  · intro p hp q hq
    simp only [List.mem_cons, List.not_mem_nil, or_false] at hp
    rcases hp with rfl | rfl | rfl
    · exact q1 q hq
    · exact q2 q hq
    · exact q3 q hq
  · subst hR
    simp only [List.cons_append, List.nil_append, List.mem_cons, List.mem_append] at hp ⊢
    rcases hp with rfl | rfl | rfl | hp
    · exact .inl rfl
    · exact .inr (.inl rfl)
    · exact .inr (.inr (.inl (.inr (.inl rfl))))
    · exact .inr (.inr (.inr hp))
theorem gen2 {g h : Heap} {L aT lF lS : Addr} {oT : Obj} {vF vS : List Value} {news : List (Addr × Obj)} (N : News g L h ((aT, oT) :: (lF, listOf (List.toArray vF) 0) :: (lS, listOf (List.toArray vS) 0) :: news)) (h1 : Strs fills vF) (h2 : Strs solids vS) :
    ∃ vF vS, Strs fills vF ∧ Strs solids vS ∧ News g L h ((aT, oT) :: (lF, listOf (List.toArray vF) 0) :: (lS, listOf (List.toArray vS) 0) :: news) := ⟨vF, vS, h1, h2, N⟩
end
section
open PySem.Calls PySem.Spec

theorem c134I (w : World) (p : Program) (loose : List Str) (mean : ExcName → Option Value) (mg mb : Str → Option Value) (news : List (Addr × Obj)) (k : Int) (hn : Nat) (e : k = (hn : Int)) (hh : hn < 5) (t : Tok) :
  CallOf w p loose mean mg mb 134 news [.int k t] (fun v add news => ∃ aT o, v = .ref aT ∧ add = [(aT, o)] ∧ TabO w o (tab hn) ∧ (aT == sysModules) = false ∧ ∀ q ∈ news, q.1 < aT) 1 := by
  subst e; exact c134 w p loose mean mg mb news hn hh t
theorem sum_K2 {prog : Program} {w : World} {A : Around} {E : Value → Shared → Prop} {s : Shared} {h₀ : Heap} {L l : Addr} {m : Str → Option Value} {news : List (Addr × Obj)} {vs : List Value} {n : Nat} {ns : List Int} {Q : Value → Shared → Prop} (hh : A.handled = none) (F : Fr h₀ L s.heap m) (N : News h₀ L s.heap news) (hl : (l, listOf vs.toArray n) ∈ news) (hi : IntsAre vs ns)
    (h : ∀ h' tk t', Fr h₀ L h' m → News h₀ L h' news → Q (.int ns.sum t') { s with heap := h', toks := tk }) : wpAny (model prog w) A (call (.builtin "sum") [.ref l]) Q E s :=
  LSm.sum_ints F N hh ⟨_, (N _ hl).1, rfl, n, rfl⟩ hi h

local macro_rules | `(tactic| walk_at "InvEndG") => `(tactic| (refine Pause.out ?_))
local macro_rules | `(tactic| walk_at "CompEnd") => `(tactic| (refine Pause.out ?_))
local macro_rules | `(tactic| walk_at "binaryOp Add str str") => `(tactic| refine PauseK.o 0 ?_)
local macro_rules | `(tactic| walk_at "call builtin:sum") => `(tactic| refine PauseK.o 1 ?_)
local macro_rules | `(tactic| walk_at "call ref") => `(tactic| refine PauseK.o 2 ?_)
local macro_rules | `(tactic| walk_at "call builtin:len") => `(tactic| (k_here; k_dflt (refine' len_K ‹_› (by walk_at "my m") (by walk_at "my o") ?_); walk_at "my d"))
local macro_rules | `(tactic| walk_at "subscriptTail Name BinOp ref int") => `(tactic| refine PauseK.o 3 ?_)
local macro_rules | `(tactic| walk_at "call builtin:list.append") => `(tactic| refine PauseK.o 4 ?_)
local macro_rules | `(tactic| walk_at "exec For Name Name cons nil") => `(tactic| refine PauseK.o 5 ?_)
local macro_rules | `(tactic| walk_at "exec Assign cons ListComp") => `(tactic| refine PauseK.o 6 ?_)

set_option linter.unusedVariables false in
theorem c139 (w : World) (p : Program) (loose : List Str) (mean : ExcName → Option Value) (mg mb : Str → Option Value) (news : List (Addr × Obj)) (lN : Addr) (us : List Value) (ns : List Int) (n : Nat)
   (hL : (lN, listOf us.toArray n) ∈ news) (hi : IntsAre us ns) (hl : ns.length ≤ 5) :
  CallOf w p loose mean mg mb 139 news [.ref lN] (fun v add news => ∃ a f, v = .ref a ∧ FldAt w add a f ∧ ∀ p ∈ add, ∀ q ∈ news, q.1 < p.1) 2 := by
  w_top off
  intro dp un gd cn cs a ccd cl outer A₀ base h₀ L m s Q E B F X N T hk hd hu hret
  obtain ⟨hn, hhn, hn5⟩ : ∃ hn : Nat, ns.sum.fmod 5 = (hn : Int) ∧ hn < 5 := ⟨(ns.sum % 5).toNat, by rw [Int.fmod_eq_emod_of_nonneg _ (by decide)]; lia, by lia⟩
  refine wpAny_call ?_
  k_dflt cell_enter
  (k_steps; repeat' ((first | ((with_reducible refine PauseK.mk (n := 0) ?_); with_reducible (k_here; (refine' add_K (by lia) ?_); (intros; (try dsimp only)))) | ((with_reducible refine PauseK.mk (n := 1) ?_); with_reducible (k_here; k_dflt (refine' sum_K2 (by exact rfl) ‹_› ‹_› (by first | assumption | k_mem | kst_mem) ‹_› ?_); ((rename Fr _ _ _ _ => lF'); (rename News _ _ _ _ => lN'); clear lF' lN'; intros; (try dsimp only)))) | ((with_reducible refine PauseK.mk (n := 2) ?_); with_reducible (k_here; with_unfolding_all (refine' useO ‹_› ‹_› ‹_› ‹_› ‹_› (by first | exact rfl | assumption) (c134I _ _ _ _ _ _ _ _ _ ‹_› ‹_› _) (by ktr_room) (by ktr_units) ?_); intro v' add' h' tk' hR' F' N'; obtain ⟨aT', o', hv', ha', hT', hs', hq'⟩ := hR'; subst hv' ha'; (try simp only [List.cons_append, List.nil_append] at F' N'); (try dsimp only); (try k_fold))) | ((with_reducible refine PauseK.mk (n := 3) ?_); with_reducible (k_here; (with_reducible show wpAny _ _ (subscriptTail _ _ (Value.ref _) (Value.int _ _)) _ _ _); k_dflt (refine' item_K ‹_› (by first | assumption | k_mem | kst_mem) (by first | assumption | lia) ‹_› (by first | assumption | lia) ?_ (by with_unfolding_all rfl)); (try dsimp only))) | ((with_reducible refine PauseK.mk (n := 4) ?_); with_reducible (k_here; k_dflt (refine' app_K ‹_› ‹_› ‹_› (by first | assumption | lia) ?_); ((rename Fr _ _ _ _ => lF'); (rename News _ _ _ _ => lN'); clear lF' lN'; intros; (try dsimp only)))) | ((with_reducible refine PauseK.mk (n := 5) ?_); with_reducible (k_here; (with_unfolding_all refine' For_invVF ‹_› (by exact rfl) (by exact rfl) ?_; k_whole))) | ((with_reducible refine PauseK.mk (n := 6) ?_); with_reducible (k_here; lcg_calm; k_dflt (refine Assign_ListComp_dictT (F₀ := by k_asm) (by rfl) (by with_unfolding_all rfl) (by with_unfolding_all rfl) (by decide) (by rfl) (by decide) (by rfl) (by rfl) (by rfl) ?_)))); k_steps))
  rename Fr _ _ _ _ => F9
  rename News _ _ _ _ => N9
  rename TabO _ _ _ => hTab
  rename (_ == sysModules) = false => hsm
  rename ∀ q : Addr × Obj, q ∈ (_, listOf _ _) :: _ → q.1 < _ => hqT
  obtain ⟨vF, vS, hvF, hvS, N8⟩ := gen2 N9 (.consE (by decide +kernel) (.consE (by decide +kernel) (.consE (by decide +kernel) (.consE (by decide +kernel) (.consE (by decide +kernel) (.consE (by decide +kernel) (.consE (by decide +kernel) (.consE (by decide +kernel) .nil)))))))) (.consE (by decide +kernel) (.consE (by decide +kernel) (.consE (by decide +kernel) (.consE (by decide +kernel) (.consE (by decide +kernel) (.consE (by decide +kernel) (.consE (by decide +kernel) (.consE (by decide +kernel) (.consE (by decide +kernel) (.consE (by decide +kernel) .nil))))))))))
  clear N9
  obtain ⟨kvs, hkd, hkv⟩ := id hTab
  refine SrcDT.intro hsm rfl F9 N8 (List.mem_cons_self ..) hkd ?_ ?_
  · rw [hkv.len]
    have : ∀ h, h < 5 → (tab h).length ≤ 7 := by decide
    have := this hn hn5
    lia
  intro g9
  refine comp_invT (fun i ys => Strs ((marksL ((tab hn).take i)).map fun c => [c]) ys) .nil ?_ ?_
  · rintro i v ys a oa C oC D m₂ h tk E' hi ⟨k, y, hk, hkey⟩ hI hC hx F7 N7 off ne
    obtain ⟨t', rfl⟩ := PySem.Value.isStrOf_shape hkey
    obtain ⟨c, vv, tt, hT, rfl, rfl⟩ := hkv.at hk
    have hsn : marksL ((tab hn).take (i + 1)) = marksL ((tab hn).take i) ++ if c = 38 then [] else [c] := by
      rw [List.take_add_one, hT]
      unfold marksL
      rw [List.map_append, List.filter_append]
      congr 1
      by_cases hc : c = 38
      · subst hc; rfl
      · rw [if_neg hc]; simp [hc]
    (k_steps; repeat' ((first | ((with_reducible refine PauseK.mk (n := 0) ?_); with_reducible (k_here; (refine' add_K (by lia) ?_); (intros; (try dsimp only)))) | ((with_reducible refine PauseK.mk (n := 1) ?_); with_reducible (k_here; k_dflt (refine' sum_K2 (by exact rfl) ‹_› ‹_› (by first | assumption | k_mem | kst_mem) ‹_› ?_); ((rename Fr _ _ _ _ => lF'); (rename News _ _ _ _ => lN'); clear lF' lN'; intros; (try dsimp only)))) | ((with_reducible refine PauseK.mk (n := 2) ?_); with_reducible (k_here; with_unfolding_all (refine' useO ‹_› ‹_› ‹_› ‹_› ‹_› (by first | exact rfl | assumption) (c134I _ _ _ _ _ _ _ _ _ ‹_› ‹_› _) (by ktr_room) (by ktr_units) ?_); intro v' add' h' tk' hR' F' N'; obtain ⟨aT', o', hv', ha', hT', hs', hq'⟩ := hR'; subst hv' ha'; (try simp only [List.cons_append, List.nil_append] at F' N'); (try dsimp only); (try k_fold))) | ((with_reducible refine PauseK.mk (n := 3) ?_); with_reducible (k_here; (with_reducible show wpAny _ _ (subscriptTail _ _ (Value.ref _) (Value.int _ _)) _ _ _); k_dflt (refine' item_K ‹_› (by first | assumption | k_mem | kst_mem) (by first | assumption | lia) ‹_› (by first | assumption | lia) ?_ (by with_unfolding_all rfl)); (try dsimp only))) | ((with_reducible refine PauseK.mk (n := 4) ?_); with_reducible (k_here; k_dflt (refine' app_K ‹_› ‹_› ‹_› (by first | assumption | lia) ?_); ((rename Fr _ _ _ _ => lF'); (rename News _ _ _ _ => lN'); clear lF' lN'; intros; (try dsimp only)))) | ((with_reducible refine PauseK.mk (n := 5) ?_); with_reducible (k_here; (with_unfolding_all refine' For_invVF ‹_› (by exact rfl) (by exact rfl) ?_; k_whole))) | ((with_reducible refine PauseK.mk (n := 6) ?_); with_reducible (k_here; lcg_calm; k_dflt (refine Assign_ListComp_dictT (F₀ := by k_asm) (by rfl) (by with_unfolding_all rfl) (by with_unfolding_all rfl) (by decide) (by rfl) (by decide) (by rfl) (by rfl) (by rfl) ?_)))); k_steps))
    · refine Pause.mk ?_
      refine LCg.CompEnd.intro F7 N7 _ (fun p h => h) off (List.mem_cons_self ..) ⟨rfl, ?_⟩
      have hne := ‹(S [c] != Str.ofString "&") = true›
      rw [oA1] at hne
      have hc : ¬ c = 38 := by rintro rfl; simp at hne
      rw [hsn, if_neg hc, List.map_append]
      exact hI.append (.cons _ _ .nil)
    · refine Pause.mk ?_
      refine LCg.CompEnd.intro F7 N7 _ (fun p h => h) off (List.mem_cons_self ..) ⟨rfl, ?_⟩
      have hne := ‹(S [c] != Str.ofString "&") = false›
      rw [oA1] at hne
      have hc : c = 38 := by
        have := S_eq hne
        simpa using this
      rw [hsn, if_pos hc, List.append_nil]
      exact hI
  · intro ys hys
    rw [hkv.len, List.take_length] at hys
    have hml := marks_len hn hn5
    have hyl : ys.length = (marksL (tab hn)).length := by rw [hys.len, List.length_map]
    obtain ⟨ix, hix, hix2⟩ : ∃ ix : Nat, (ns.sum.fdiv 5).fmod ((ys.length : Nat) : Int) = (ix : Int) ∧ ix < ys.length := by
      have hp : (0 : Int) < ((ys.length : Nat) : Int) := by lia
      have h1 := Int.fmod_nonneg_of_pos (ns.sum.fdiv 5) hp
      have h2 := Int.fmod_lt_of_pos (ns.sum.fdiv 5) hp
      exact ⟨((ns.sum.fdiv 5).fmod ((ys.length : Nat) : Int)).toNat, by lia, by lia⟩
    obtain ⟨mk, tm, hmk1, hmk2⟩ : ∃ mk tm, ys[((ns.sum.fdiv 5).fmod ((ys.length : Nat) : Int)).toNat]? = some (.str (S [mk]) tm) ∧ mk ∈ marksL (tab hn) := by
      rw [hix, Int.toNat_natCast]
      obtain ⟨r, t, h1, h2⟩ := hys.at (List.getElem?_eq_getElem hix2)
      rw [List.getElem?_map] at h1
      cases hmm : (marksL (tab hn))[ix]? with
      | none => rw [hmm] at h1; cases h1
      | some mk =>
        rw [hmm] at h1
        have : r = [mk] := (Option.some.inj h1).symm
        subst this
        exact ⟨mk, t, by rw [List.getElem?_eq_getElem hix2, h2], List.mem_of_getElem? hmm⟩
    intro D hD tkD FD ND offD
    (k_steps; repeat' ((first | ((with_reducible refine PauseK.mk (n := 0) ?_); with_reducible (k_here; (refine' add_K (by lia) ?_); (intros; (try dsimp only)))) | ((with_reducible refine PauseK.mk (n := 1) ?_); with_reducible (k_here; k_dflt (refine' sum_K2 (by exact rfl) ‹_› ‹_› (by first | assumption | k_mem | kst_mem) ‹_› ?_); ((rename Fr _ _ _ _ => lF'); (rename News _ _ _ _ => lN'); clear lF' lN'; intros; (try dsimp only)))) | ((with_reducible refine PauseK.mk (n := 2) ?_); with_reducible (k_here; with_unfolding_all (refine' useO ‹_› ‹_› ‹_› ‹_› ‹_› (by first | exact rfl | assumption) (c134I _ _ _ _ _ _ _ _ _ ‹_› ‹_› _) (by ktr_room) (by ktr_units) ?_); intro v' add' h' tk' hR' F' N'; obtain ⟨aT', o', hv', ha', hT', hs', hq'⟩ := hR'; subst hv' ha'; (try simp only [List.cons_append, List.nil_append] at F' N'); (try dsimp only); (try k_fold))) | ((with_reducible refine PauseK.mk (n := 3) ?_); with_reducible (k_here; (with_reducible show wpAny _ _ (subscriptTail _ _ (Value.ref _) (Value.int _ _)) _ _ _); k_dflt (refine' item_K ‹_› (by first | assumption | k_mem | kst_mem) (by first | assumption | lia) ‹_› (by first | assumption | lia) ?_ (by with_unfolding_all rfl)); (try dsimp only))) | ((with_reducible refine PauseK.mk (n := 4) ?_); with_reducible (k_here; k_dflt (refine' app_K ‹_› ‹_› ‹_› (by first | assumption | lia) ?_); ((rename Fr _ _ _ _ => lF'); (rename News _ _ _ _ => lN'); clear lF' lN'; intros; (try dsimp only)))) | ((with_reducible refine PauseK.mk (n := 5) ?_); with_reducible (k_here; (with_unfolding_all refine' For_invVF ‹_› (by exact rfl) (by exact rfl) ?_; k_whole))) | ((with_reducible refine PauseK.mk (n := 6) ?_); with_reducible (k_here; lcg_calm; k_dflt (refine Assign_ListComp_dictT (F₀ := by k_asm) (by rfl) (by with_unfolding_all rfl) (by with_unfolding_all rfl) (by decide) (by rfl) (by decide) (by rfl) (by rfl) (by rfl) ?_)))); k_steps))
    rename_i hq1 lI hq2 ql hq3 hq4 F2 N2
    have hlt := fun q hq => hqT q (List.mem_cons_of_mem _ (List.mem_cons_of_mem _ hq))
    obtain ⟨R, ⟨pre, rest, hR⟩, mF, mS, mN, hRlt, N2⟩ := gen3 N2 hL ql
    with_unfolding_all refine' my_for (σ := S139) (fun c => (lI, listOf c.us.toArray c.n) :: R) (fun c => [(Str.ofString "text", .str c.x c.t)]) [] (fun i c => Strs ((ns.take i).map itemF) c.us ∧ c.x = S ((ns.take i).map partF).flatten) ⟨[], 0, Str.ofString "", _⟩ ?kh (List.mem_cons_of_mem _ mN) F2 N2 (fun _ h => h) (fun _ => List.mem_cons_of_mem _ mN) ?kk ⟨.nil, o_empty⟩ ?turn ?done
    case kh => exact rfl
    case kk => kst_all
    case turn =>
      rintro i v ⟨us9, n9, x9, t9⟩ u h tk own hv hoff ⟨hP1, hP2⟩ F3 N3
      dsimp only at hP1 hP2 F3 N3
      obtain ⟨k, tk9, rfl, hk⟩ := IntsAre.at hi i v hv
      have g1 := Int.fmod_nonneg_of_pos (k.fdiv 5) (by decide : (0 : Int) < 10)
      have g2 := Int.fmod_lt_of_pos (k.fdiv 5) (by decide : (0 : Int) < 10)
      have g3 := Int.fmod_nonneg_of_pos (k.fdiv 5) (by decide : (0 : Int) < 8)
      have g4 := Int.fmod_lt_of_pos (k.fdiv 5) (by decide : (0 : Int) < 8)
      obtain ⟨ts, hts⟩ := hvS.getD (i := ((k.fdiv 5).fmod 10).toNat) (by show _ < 10; lia)
      obtain ⟨tf, htf⟩ := hvF.getD (i := ((k.fdiv 5).fmod 8).toNat) (by show _ < 8; lia)
      have hr9 : ∀ p ∈ R ++ own, p.1 ≠ lI := by
        intro p hp
        rcases List.mem_append.mp hp with hp | hp
        · exact Nat.ne_of_lt (hRlt p hp)
        · exact fun e => hoff p hp lI (by simp) e
      have hul : us9.length ≤ 5 := by
        rw [hP1.len, List.length_map, List.length_take]; lia
      have hxl : x9.length ≤ 25 := by
        rw [hP2, S_len]
        have := parts_len (ns.take i)
        rw [List.length_take] at this
        lia
      have hlf : (S (fills.getD ((k.fdiv 5).fmod 8).toNat [])).length ≤ 5 := by rw [S_len]; exact fills_len _
      have hls : (S (solids.getD ((k.fdiv 5).fmod 10).toNat [])).length ≤ 5 := by rw [S_len]; exact solids_len _
      have e1 : (ns.take (i + 1)).map itemF = (ns.take i).map itemF ++ [itemF k] := by rw [List.take_add_one, hk]; simp
      have e2 : ((ns.take (i + 1)).map partF).flatten = ((ns.take i).map partF).flatten ++ partF k := by rw [List.take_add_one, hk]; simp
      rw [List.cons_append] at N3
      (k_steps; repeat' ((first | ((with_reducible refine PauseK.mk (n := 0) ?_); with_reducible (k_here; (refine' add_K (by lia) ?_); (intros; (try dsimp only)))) | ((with_reducible refine PauseK.mk (n := 1) ?_); with_reducible (k_here; k_dflt (refine' sum_K2 (by exact rfl) ‹_› ‹_› (by first | assumption | k_mem | kst_mem) ‹_› ?_); ((rename Fr _ _ _ _ => lF'); (rename News _ _ _ _ => lN'); clear lF' lN'; intros; (try dsimp only)))) | ((with_reducible refine PauseK.mk (n := 2) ?_); with_reducible (k_here; with_unfolding_all (refine' useO ‹_› ‹_› ‹_› ‹_› ‹_› (by first | exact rfl | assumption) (c134I _ _ _ _ _ _ _ _ _ ‹_› ‹_› _) (by ktr_room) (by ktr_units) ?_); intro v' add' h' tk' hR' F' N'; obtain ⟨aT', o', hv', ha', hT', hs', hq'⟩ := hR'; subst hv' ha'; (try simp only [List.cons_append, List.nil_append] at F' N'); (try dsimp only); (try k_fold))) | ((with_reducible refine PauseK.mk (n := 3) ?_); with_reducible (k_here; (with_reducible show wpAny _ _ (subscriptTail _ _ (Value.ref _) (Value.int _ _)) _ _ _); k_dflt (refine' item_K ‹_› (by first | assumption | k_mem | kst_mem) (by first | assumption | lia) ‹_› (by first | assumption | lia) ?_ (by with_unfolding_all rfl)); (try dsimp only))) | ((with_reducible refine PauseK.mk (n := 4) ?_); with_reducible (k_here; k_dflt (refine' app_K ‹_› ‹_› ‹_› (by first | assumption | lia) ?_); ((rename Fr _ _ _ _ => lF'); (rename News _ _ _ _ => lN'); clear lF' lN'; intros; (try dsimp only)))) | ((with_reducible refine PauseK.mk (n := 5) ?_); with_reducible (k_here; (with_unfolding_all refine' For_invVF ‹_› (by exact rfl) (by exact rfl) ?_; k_whole))) | ((with_reducible refine PauseK.mk (n := 6) ?_); with_reducible (k_here; lcg_calm; k_dflt (refine Assign_ListComp_dictT (F₀ := by k_asm) (by rfl) (by with_unfolding_all rfl) (by with_unfolding_all rfl) (by decide) (by rfl) (by decide) (by rfl) (by rfl) (by rfl) ?_)))); k_steps))
      · rename Fr _ _ _ _ => F5
        rename News _ _ _ _ => N5
        refine Pause.mk ?_
        change InvEndG _ _ _ _ _ _
        have hlt5 : k.fmod 5 < 2 := by first | assumption | lia
        refine mf_end ⟨_, _, _, _⟩ F5 (show News _ _ _ ((_ :: R) ++ own) from N5) (fun _ h => List.mem_append_left _ h) (fun _ h => List.mem_append_right _ h) hoff (by kst_all) (by walk_at "my same") ⟨?_, ?_⟩
        · dsimp only
          rw [e1, itemF, if_pos hlt5]
          exact hP1.append (.consE (by decide +kernel) .nil)
        · dsimp only
          rw [e2, partF, if_pos hlt5, hP2, S_app]
      · rename Fr _ _ _ _ => F5
        rename News _ _ _ _ => N5
        refine Pause.mk ?_
        change InvEndG _ _ _ _ _ _
        have hlt5 : ¬ k.fmod 5 < 2 := by first | assumption | lia
        refine mf_end ⟨_, _, _, _⟩ F5 (show News _ _ _ ((_ :: R) ++ own) from N5) (fun _ h => List.mem_append_left _ h) (fun _ h => List.mem_append_right _ h) hoff (by kst_all) (by walk_at "my same") ⟨?_, ?_⟩
        · dsimp only
          rw [e1, itemF, if_neg hlt5]
          exact hP1.append (.cons _ _ .nil)
        · dsimp only
          rw [e2, partF, if_neg hlt5, hP2, S_app]
    case done =>
      rintro ⟨us9, n9, x9, t9⟩ u h tk ⟨hP1, hP2⟩ F3 N3
      dsimp only at hP1 hP2 F3 N3
      have hul : us.length = ns.length := by rw [hi.length]
      rw [hul, List.take_length] at hP1 hP2
      have hpl := parts_len ns
      have hxl : x9.length ≤ 25 := by
        rw [hP2, S_len]; lia
      have g5 := Int.fmod_nonneg_of_pos (ns.sum.fdiv 30) (show (0 : Int) < (x9.length : Int) + 1 by lia)
      have g6 := Int.fmod_lt_of_pos (ns.sum.fdiv 30) (show (0 : Int) < (x9.length : Int) + 1 by lia)
      have hs1 := Nat.le_trans (Txt.slice_le x9 none (some ((ns.sum.fdiv 30).fmod ((x9.length : Int) + 1)))) hxl
      have hs2 := Nat.le_trans (Txt.slice_le x9 (some ((ns.sum.fdiv 30).fmod ((x9.length : Int) + 1))) none) hxl
      have hs3 : (S [mk]).length = 1 := rfl
      (k_steps; repeat' ((first | ((with_reducible refine PauseK.mk (n := 0) ?_); with_reducible (k_here; (refine' add_K (by lia) ?_); (intros; (try dsimp only)))) | ((with_reducible refine PauseK.mk (n := 1) ?_); with_reducible (k_here; k_dflt (refine' sum_K2 (by exact rfl) ‹_› ‹_› (by first | assumption | k_mem | kst_mem) ‹_› ?_); ((rename Fr _ _ _ _ => lF'); (rename News _ _ _ _ => lN'); clear lF' lN'; intros; (try dsimp only)))) | ((with_reducible refine PauseK.mk (n := 2) ?_); with_reducible (k_here; with_unfolding_all (refine' useO ‹_› ‹_› ‹_› ‹_› ‹_› (by first | exact rfl | assumption) (c134I _ _ _ _ _ _ _ _ _ ‹_› ‹_› _) (by ktr_room) (by ktr_units) ?_); intro v' add' h' tk' hR' F' N'; obtain ⟨aT', o', hv', ha', hT', hs', hq'⟩ := hR'; subst hv' ha'; (try simp only [List.cons_append, List.nil_append] at F' N'); (try dsimp only); (try k_fold))) | ((with_reducible refine PauseK.mk (n := 3) ?_); with_reducible (k_here; (with_reducible show wpAny _ _ (subscriptTail _ _ (Value.ref _) (Value.int _ _)) _ _ _); k_dflt (refine' item_K ‹_› (by first | assumption | k_mem | kst_mem) (by first | assumption | lia) ‹_› (by first | assumption | lia) ?_ (by with_unfolding_all rfl)); (try dsimp only))) | ((with_reducible refine PauseK.mk (n := 4) ?_); with_reducible (k_here; k_dflt (refine' app_K ‹_› ‹_› ‹_› (by first | assumption | lia) ?_); ((rename Fr _ _ _ _ => lF'); (rename News _ _ _ _ => lN'); clear lF' lN'; intros; (try dsimp only)))) | ((with_reducible refine PauseK.mk (n := 5) ?_); with_reducible (k_here; (with_unfolding_all refine' For_invVF ‹_› (by exact rfl) (by exact rfl) ?_; k_whole))) | ((with_reducible refine PauseK.mk (n := 6) ?_); with_reducible (k_here; lcg_calm; k_dflt (refine Assign_ListComp_dictT (F₀ := by k_asm) (by rfl) (by with_unfolding_all rfl) (by with_unfolding_all rfl) (by decide) (by rfl) (by decide) (by rfl) (by rfl) (by rfl) ?_)))); k_steps))
      rename News h₀ _ _ _ => kN
      rename Fr h₀ _ _ _ => kF
      rename _ < _ ∧ AllLt _ R => hqD
      subst hP2
      rw [hhn, slice_to_cut _ g5, slice_from_cut _ g5, S_app, S_app] at kN
      have hmo := marks_ok hn hn5 mk hmk2
      obtain ⟨add, ⟨f, hf1, hf2⟩, hN⟩ := end139 hn5 hmo.1 hmo.2 hl hP1 hR kN hTab hsm (fun q hq => kst_ltOf hqD.2 q (by rw [hR]; simp [hq])) (fun q hq => hRlt q (by rw [hR]; simp [hq])) hlt
      exact hret _ add _ _ ⟨_, f, rfl, hf1, hf2⟩ kF hN
end
section
open PySem.Calls PySem.Spec
section
variable {prog : Program} {w : World} {A : Around} {E : Value → Shared → Prop} {s : Shared} {env : Env} {h₀ : Heap} {target : Expr} {body : List Stmt} {Q : Flow → Shared → Prop}

/-- the turns of a loop over any target by an invariant -/
theorem items_inv {ws : List (Addr × String)} {keep : List (Addr × Obj)} (J : Nat → (Str → Option Value) → List (Addr × Obj) → Prop) {xs : List Itm} {m₀ : Str → Option Value} {news : List (Addr × Obj)} (h0 : J 0 m₀ news)
    (turn : ∀ i a v h tk m₁ nx, xs[i]? = some a → a.Is v h → J i m₁ nx → Fr h₀ env.locals h m₁ → AllObj ws (fun its => News h₀ env.locals h (its ++ nx) →
      wpAny (model prog w) A (assign target env v) (fun _ s₂ => wpAny (model prog w) A (execs body env) (UnrPostW h₀ env.locals { s with heap := h, toks := tk } its (fun m' n' => SubL keep n' ∧ J (i + 1) m' n') Q) E s₂) E { s with heap := h, toks := tk }))
    (done : ∀ h tk m₁ nx, J xs.length m₁ nx → Fr h₀ env.locals h m₁ → News h₀ env.locals h nx → Q .next { s with heap := h, toks := tk }) :
    ItemsRest prog w A E h₀ env target body Q s ws keep xs m₀ news := by
  have key : ∀ (r pre : List Itm) (m₁ : Str → Option Value) (nx : List (Addr × Obj)), xs = pre ++ r → J pre.length m₁ nx → ItemsRest prog w A E h₀ env target body Q s ws keep r m₁ nx := by
    intro r
    induction r with
    | nil =>
      intro pre m₁ nx e hJ
      rw [List.append_nil] at e
      subst e
      exact fun h tk F N => done h tk m₁ nx hJ F N
    | cons a r ih =>
      intro pre m₁ nx e hJ v h tk hv F
      have ha : xs[pre.length]? = some a := by rw [e, List.getElem?_append_right (Nat.le_refl _), Nat.sub_self]; rfl
      have ht := turn pre.length a v h tk m₁ nx ha hv hJ F
      have up : ∀ (ws' : List (Addr × String)) (k k' : List (Addr × Obj) → Prop), (∀ its, k its → k' its) → AllObj ws' k → AllObj ws' k' := by
        intro ws'
        induction ws' with
        | nil => intro k k' hk h; exact hk _ h
        | cons w' ws' ih2 => intro k k' hk h o ho; exact ih2 _ _ (fun its => hk _) (h o ho)
      refine up ws _ _ (fun its hk N => ?_) ht
      refine wpAny_mono (hk N) (fun _ s₂ h₂ => wpAny_mono h₂ (fun f s₃ p => ?_) fun _ _ e => e) fun _ _ e => e
      cases f with
      | ret v => exact p
      | brk => exact p
      | next =>
        obtain ⟨h', tk', m', n', e', F', N', off, hk', hJ'⟩ := p
        exact ⟨h', tk', m', n', e', F', N', off, hk', ih (pre ++ [a]) m' n' (by rw [e]; simp) (by rw [List.length_append]; exact hJ')⟩
      | cont =>
        obtain ⟨h', tk', m', n', e', F', N', off, hk', hJ'⟩ := p
        exact ⟨h', tk', m', n', e', F', N', off, hk', ih (pre ++ [a]) m' n' (by rw [e]; simp) (by rw [List.length_append]; exact hJ')⟩
  exact key xs [] m₀ news rfl h0

theorem my_forC {σ : Type} {ax : Addr} {vs : List Value} {n : Nat} {m₀ : Str → Option Value} {x : Str}
    (Led : σ → List (Addr × Obj)) (ps : σ → List (Str × Value)) (stored : List Str) (P : Nat → σ → Prop) (c₀ : σ)
    (hh : A.handled = none) (F : Fr h₀ env.locals s.heap m₀) (N : News h₀ env.locals s.heap (Led c₀)) (hL : (ax, listOf vs.toArray n) ∈ Led c₀) (hk : ∀ p ∈ ps c₀, m₀ p.1 = some p.2) (hp : P 0 c₀)
    (turn : ∀ I, (∀ p ∈ Led c₀, p.1 < I) → ∀ i v (c : σ) (u : Str → Option Value) h tk oI, vs[i]? = some v → P i c → oI.cls = .type "list_iterator" →
      Fr h₀ env.locals h (fun y => if y = x then u y else kstB (fun z => if stored.contains z then u z else m₀ z) (ps c) y) → News h₀ env.locals h ((I, oI) :: Led c) →
      wpAny (model prog w) A (assign target env v) (fun _ s₂ => wpAny (model prog w) A (execs body env) (UnrPostW h₀ env.locals { s with heap := h, toks := tk } [(I, oI)] (fun m' n' => SubL [(ax, listOf vs.toArray n)] n' ∧ MfJ Led ps x stored m₀ (P (i + 1)) m' n') Q) E s₂) E { s with heap := h, toks := tk })
    (done : ∀ (c : σ) (u : Str → Option Value) h tk, P vs.length c → Fr h₀ env.locals h (fun y => if y = x then u y else kstB (fun z => if stored.contains z then u z else m₀ z) (ps c) y) → News h₀ env.locals h (Led c) → Q .next { s with heap := h, toks := tk }) :
    wpAny (model prog w) A (pyIter (.ref ax)) (fun it s₂ => TurnsAt prog w A h₀ env target body Q E it s₂) E s := by
  refine iter_listTurns hh F N hL rfl rfl fun I hI => ?_
  refine items_inv (fun i => MfJ Led ps x stored m₀ (P i)) ⟨c₀, rfl, hk, fun _ _ _ _ => rfl, hp⟩ ?_ ?_
  · rintro i a v h tk m₁ nx ha hv ⟨c, rfl, h1, h2, hp'⟩ F₁
    rw [List.getElem?_map] at ha
    cases hvi : vs[i]? with
    | none => rw [hvi] at ha; cases ha
    | some v' =>
      rw [hvi] at ha
      cases ha
      have e : v = v' := hv
      subst e
      exact fun oI ho N₁ => turn I hI i v c m₁ h tk oI hvi hp' ho (kst_frOut h1 h2 F₁) N₁
  · rintro h tk m₁ nx ⟨c, rfl, h1, h2, hp'⟩ F₁ N₁
    rw [List.length_map] at hp'
    exact done c m₁ h tk hp' (kst_frOut h1 h2 F₁) N₁
theorem zip_at {xs ys : List Value} : ∀ {i : Nat} {a : Itm}, (zipItems xs ys)[i]? = some a → ∃ x y, xs[i]? = some x ∧ ys[i]? = some y ∧ a = .pair (fun _ => x) y := by
  induction xs generalizing ys with
  | nil => intro i a h; simp [zipItems] at h
  | cons x xs ih =>
    intro i a h
    cases ys with
    | nil => simp [zipItems] at h
    | cons y ys =>
      cases i with
      | zero => exact ⟨x, y, rfl, rfl, (Option.some.inj h).symm⟩
      | succ i => exact ih (by simpa [zipItems] using h)
theorem my_forZ {σ : Type} {elts : List Expr} {k : Nat} {pos : Pos} {l1 l2 : Addr} {xs ys : List Value} {n1 n2 : Nat} {m₀ : Str → Option Value} {x : Str}
    (Led : σ → List (Addr × Obj)) (ps : σ → List (Str × Value)) (stored : List Str) (P : Nat → σ → Prop) (c₀ : σ)
    (hh : A.handled = none) (F : Fr h₀ env.locals s.heap m₀) (N : News h₀ env.locals s.heap (Led c₀)) (hL1 : (l1, listOf xs.toArray n1) ∈ Led c₀) (hL2 : (l2, listOf ys.toArray n2) ∈ Led c₀) (hk : ∀ p ∈ ps c₀, m₀ p.1 = some p.2) (hp : P 0 c₀)
    (turn : ∀ I, (∀ p ∈ Led c₀, p.1 < I) → ∀ i vx vy T (c : σ) (u : Str → Option Value) h tk, xs[i]? = some vx → ys[i]? = some vy → P i c → IsTup h T #[vx, vy] →
      Fr h₀ env.locals h (fun y => if y = x then u y else kstB (fun z => if stored.contains z then u z else m₀ z) (ps c) y) →
      ∀ o1 o2 o3 o4 o5 : Obj, o1.cls = .type "zip" → o2.cls = .type "tuple" → o3.cls = .type "tuple" → o4.cls = .type "list_iterator" → o5.cls = .type "list_iterator" →
      News h₀ env.locals h ((I + 4, o1) :: (I + 2, o2) :: (I + 3, o3) :: (I, o4) :: (I + 1, o5) :: Led c) →
      wpAny (model prog w) A (assign (.Tuple elts k pos) env (.ref T)) (fun _ s₂ => wpAny (model prog w) A (execs body env) (UnrPostW h₀ env.locals { s with heap := h, toks := tk } [(I + 4, o1), (I + 2, o2), (I + 3, o3), (I, o4), (I + 1, o5)] (fun m' n' => SubL [(l1, listOf xs.toArray n1), (l2, listOf ys.toArray n2)] n' ∧ MfJ Led ps x stored m₀ (P (i + 1)) m' n') Q) E s₂) E { s with heap := h, toks := tk })
    (done : ∀ (c : σ) (u : Str → Option Value) h tk, P (min xs.length ys.length) c → Fr h₀ env.locals h (fun y => if y = x then u y else kstB (fun z => if stored.contains z then u z else m₀ z) (ps c) y) → News h₀ env.locals h (Led c) → Q .next { s with heap := h, toks := tk }) :
    wpAny (model prog w) A (call (.type "zip") [.ref l1, .ref l2]) (fun xv s₁ => wpAny (model prog w) A (pyIter xv) (fun it s₂ => TurnsAt prog w A h₀ env (.Tuple elts k pos) body Q E it s₂) E s₁) E s := by
  refine ktu_zip hh F N hL1 rfl rfl hL2 rfl rfl fun I hI => ?_
  refine items_inv (fun i => MfJ Led ps x stored m₀ (P i)) ⟨c₀, rfl, hk, fun _ _ _ _ => rfl, hp⟩ ?_ ?_
  · rintro i a v h tk m₁ nx ha hv ⟨c, rfl, h1, h2, hp'⟩ F₁
    obtain ⟨vx, vy, hx, hy, rfl⟩ := zip_at ha
    obtain ⟨T, t, rfl, hT⟩ := hv
    exact fun o1 c1 o2 c2 o3 c3 o4 c4 o5 c5 N₁ => turn I hI i vx vy T c m₁ h tk hx hy hp' hT (kst_frOut h1 h2 F₁) o1 o2 o3 o4 o5 c1 c2 c3 c4 c5 N₁
  · rintro h tk m₁ nx ⟨c, rfl, h1, h2, hp'⟩ F₁ N₁
    rw [zipItems_length] at hp'
    exact done c m₁ h tk hp' (kst_frOut h1 h2 F₁) N₁
end
theorem mf_endW {σ : Type} {Led : σ → List (Addr × Obj)} {ps : σ → List (Str × Value)} {x : Str} {stored : List Str} {m₀ m' : Str → Option Value} {P : σ → Prop} {L : Addr} {h₀ h' : Heap} {news' keep its : List (Addr × Obj)} {s₁ : Shared} {tk : Nat} (c : σ)
    (F : Fr h₀ L h' m') (N : News h₀ L h' news') (hi : ∀ p ∈ its, p ∈ news') (hn : ∀ p ∈ Led c, p ∈ news') (off : ∀ p ∈ Led c, ∀ q ∈ its, p.1 ≠ q.1 ∨ p.2.cls ≠ q.2.cls) (hkp : SubL keep (Led c)) (hk : ∀ p ∈ ps c, m' p.1 = some p.2)
    (hr : ∀ z, z ≠ x → (∀ p ∈ ps c, z ≠ p.1) → stored.contains z = false → m' z = m₀ z) (hp : P c) :
    UnrEndW h₀ L s₁ its (fun m' n' => SubL keep n' ∧ MfJ Led ps x stored m₀ P m' n') { s₁ with heap := h', toks := tk } := by
  refine ⟨h', tk, m', Led c, rfl, F, fun p hp => ?_, fun p hp q hq e => ?_, hkp, c, rfl, hk, hr, hp⟩
  · rcases List.mem_append.mp hp with hp | hp
    · exact N p (hi p hp)
    · exact N p (hn p hp)
  · rcases off p hp q hq with h | h
    · exact h e
    · have h1 := (N _ (hn p hp)).1
      have h2 := (N _ (hi q hq)).1
      rw [e, h2] at h1
      exact h (congrArg Obj.cls (Option.some.inj h1)).symm
end
section
open PySem.Calls PySem.Spec
local macro_rules | `(tactic| walk_at "exec For Name Name cons nil") => `(tactic| refine PauseK.o 0 ?_)

local macro_rules | `(tactic| walk_at "storeName") => `(tactic| (k_here; k_dflt (refine' storeX_C ‹_› ‹_› (by exact rfl) (by exact UpdF.tail (by assumption) (UpdF.tail (by assumption) (UpdF.head (by assumption)))) ‹_› ?_ (by exact rfl) (by exact rfl)); walk_at "my eFN"))
local macro_rules | `(tactic| walk_at "compareOp NotEq ref ref") => `(tactic| refine PauseK.o 1 ?_)
local macro_rules | `(tactic| walk_at "compareOp Eq str str") => `(tactic| (k_here; (refine' eq_known ‹_› ?_); walk_at "my d"))
local macro_rules | `(tactic| walk_at "subscriptTail Name Constant ref int") => `(tactic| refine PauseK.o 2 ?_)
local macro_rules | `(tactic| walk_at "call type:list") => `(tactic| refine PauseK.o 3 ?_)
local macro_rules | `(tactic| walk_at "exec Assign cons ListComp") => `(tactic| refine PauseK.o 4 ?_)
local macro_rules | `(tactic| walk_at "compareOp In int ref") => `(tactic| refine PauseK.o 5 ?_)

theorem ints_snoc {vs : List Value} {ns : List Int} (h : IntsAre vs ns) (k : Int) (t : Tok) : IntsAre (vs ++ [.int k t]) (ns ++ [k]) := by
  induction h with
  | nil => exact .cons k t .nil
  | cons a u _ ih => exact .cons a u ih
theorem cut_nat (l : List Nat) (k n : Nat) : cut l (k : Int) ((k : Int) + (n : Int)) = (l.drop k).take n := by
  unfold cut
  rw [Int.toNat_natCast, show ((k : Int) + (n : Int) - (k : Int)).toNat = n by lia]
theorem fits_snoc {ps l t : List Nat} {i k : Nat} (h : ps[i]? = some k) : ((ps.take (i + 1)).filter fun k => (t.drop k).take l.length == l).map (fun (k : Nat) => ((k + l.length : Nat) : Int)) = ((ps.take i).filter fun k => (t.drop k).take l.length == l).map (fun (k : Nat) => ((k + l.length : Nat) : Int)) ++ (if ((t.drop k).take l.length == l) = true then [(k : Int) + (l.length : Int)] else []) := by
  rw [List.take_add_one, h, List.filter_append, List.map_append]
  congr 1
  show List.map _ (List.filter _ [k]) = _
  rw [List.filter_cons]
  split <;> simp
theorem fits_contains (is : List (List Nat)) (x : Str) : (((placesL is x.cps.toList).map fun (k : Nat) => (k : Int)).contains (x.length : Int)) = fitsL is x.cps.toList := by
  have hxl : x.cps.toList.length = x.length := by simp [Str.length]
  unfold fitsL
  rw [hxl, Bool.eq_iff_iff, List.contains_iff_mem, List.contains_iff_mem, List.mem_map]
  constructor
  · rintro ⟨k, hk, e⟩
    have : k = x.length := by lia
    exact this ▸ hk
  · intro h; exact ⟨_, h, rfl⟩
theorem fitStep_len {t ps l : List Nat} (h : ps.length ≤ t.length + 1) : (fitStep t ps l).length ≤ t.length + 1 := by
  by_cases hh : ps = [] ∨ l ≠ []
  · rw [fitStep_lits t ps l hh, List.length_map]
    exact Nat.le_trans (List.length_filter_le _ _) h
  · cases ps with
    | nil => exact absurd (.inl rfl) hh
    | cons a ps =>
      cases l with
      | cons c l => exact absurd (.inr (by simp)) hh
      | nil =>
        show (List.range' a (t.length + 1 - a)).length ≤ t.length + 1
        rw [List.length_range']; lia
theorem places_ok (is : List (List Nat)) (t : List Nat) : (∀ k ∈ placesL is t, k ≤ t.length) ∧ (placesL is t).length ≤ t.length + 1 := by
  have h : ∀ (is : List (List Nat)) (ps : List Nat), ps.Pairwise (· ≤ ·) → (∀ k ∈ ps, k ≤ t.length) → ps.length ≤ t.length + 1 → (∀ k ∈ is.foldl (fitStep t) ps, k ≤ t.length) ∧ (is.foldl (fitStep t) ps).length ≤ t.length + 1 := by
    intro is
    induction is with
    | nil => intro ps h1 h2 h3; exact ⟨h2, h3⟩
    | cons l is ih =>
      intro ps h1 h2 h3
      have := fitStep_ok (l := l) h1 h2
      exact ih _ this.1 this.2 (fitStep_len h3)
  exact h is [0] (by simp) (by simp) (by simp)
structure S163 where
  lP : Addr
  us : List Value
  n : Nat
  oI : Obj
theorem end163 {g h' : Heap} {L L1 I D lI : Addr} {oJ o5 oT lo : Obj} {us5 : List Value} {c5 : Nat} {all news : List (Addr × Obj)} {m₀ m' : Str → Option Value} {P : S163 → Prop} {s₁ : Shared} {tk : Nat}
    (F5 : Fr g L h' m') (N5 : News g L h' ((D, listOf us5.toArray c5) :: all)) (h1 : (I, oJ) ∈ all) (h2 : (L1 + 1 + 1, o5) ∈ all) (h3 : (L1 + 1, oT) ∈ all) (h4 : ∀ p ∈ news, p ∈ all)
    (hcJ : oJ.cls = .type "list_iterator") (i1 : L1 + 1 + 1 < I) (i2 : L1 + 1 < I) (i3 : ∀ p ∈ news, p.1 < I) (hlo : (lI, lo) ∈ news)
    (hk : m' (Str.ofString "places") = some (.ref D)) (hr : ∀ z, z ≠ Str.ofString "item" → (∀ p ∈ [(Str.ofString "places", Value.ref D)], z ≠ p.1) → ([] : List Str).contains z = false → m' z = m₀ z) (hp : P ⟨D, us5, c5, o5⟩) :
    UnrEndW g L s₁ [(I, oJ)] (fun m' n' => SubL [(lI, lo)] n' ∧ MfJ (σ := S163) (fun c => (c.lP, listOf c.us.toArray c.n) :: (L1 + 1 + 1, c.oI) :: (L1 + 1, oT) :: news) (fun c => [(Str.ofString "places", .ref c.lP)]) (Str.ofString "item") [] m₀ P m' n') { s₁ with heap := h', toks := tk } := by
  refine mf_endW ⟨D, us5, c5, o5⟩ F5 N5 ?_ ?_ ?_ ?_ ?_ hr hp
  · intro p hp
    rcases List.mem_singleton.mp hp with rfl
    exact List.mem_cons_of_mem _ h1
  · intro p hp
    dsimp only at hp
    rcases List.mem_cons.mp hp with rfl | hp
    · exact List.mem_cons_self ..
    rcases List.mem_cons.mp hp with rfl | hp
    · exact List.mem_cons_of_mem _ h2
    rcases List.mem_cons.mp hp with rfl | hp
    · exact List.mem_cons_of_mem _ h3
    · exact List.mem_cons_of_mem _ (h4 p hp)
  · intro p hp q hq
    rcases List.mem_singleton.mp hq with rfl
    dsimp only at hp
    rcases List.mem_cons.mp hp with rfl | hp
    · refine .inr ?_
      rw [hcJ]
      show Value.type "list" ≠ Value.type "list_iterator"
      decide
    rcases List.mem_cons.mp hp with rfl | hp
    · exact .inl (Nat.ne_of_lt i1)
    rcases List.mem_cons.mp hp with rfl | hp
    · exact .inl (Nat.ne_of_lt i2)
    · exact .inl (Nat.ne_of_lt (i3 p hp))
  · exact ⟨by simp [hlo], trivial⟩
  · intro p hp
    rcases List.mem_singleton.mp hp with rfl
    exact hk
set_option linter.unusedVariables false in
theorem c163 (w : World) (p : Program) (loose : List Str) (mean : ExcName → Option Value) (mg mb : Str → Option Value) (news : List (Addr × Obj)) (lI : Addr) (us : List Value) (nn : Nat) (is : List (List Nat)) (x : Str) (t : Tok)
  (hI : (lI, listOf us.toArray nn) ∈ news) (hs : StrsAre us (is.map S)) (hm : ∀ l ∈ is, l ∈ menu) (hlen : is.length ≤ 5) (hx : x.length ≤ 100) :
  CallS w p loose mean mg mb 163 news [.ref lI, .str x t] (fun v => v = .bool (fitsL is x.cps.toList)) 12 := by
  w_top off
  intro dp un gd cn cs a ccd cl outer A₀ base h₀ L m s Q E B F X N T hk hd hu hret
  refine wpAny_call ?_
  k_dflt (walk_at "my enterC")
  (k_steps; repeat' ((first | ((with_reducible refine PauseK.mk (n := 0) ?_); with_reducible (k_here; (with_unfolding_all refine' For_turns ‹_› ?_; k_whole))) | ((with_reducible refine PauseK.mk (n := 1) ?_); with_reducible (k_here; k_dflt (refine' ne_ints_known ‹_› (by k_mem) ‹_› (by k_mem) IntsAre.nil (by units_room) ‹_› ?_); (try dsimp only))) | ((with_reducible refine PauseK.mk (n := 2) ?_); with_reducible (k_here; (with_reducible show wpAny _ _ (subscriptTail _ _ (Value.ref _) (Value.int _ _)) _ _ _); k_dflt (refine' item_K ‹_› (by first | assumption | k_mem | kst_mem) (by first | assumption | lia) ‹_› (by first | assumption | lia) ?_ (by with_unfolding_all rfl)); (try dsimp only))) | ((with_reducible refine PauseK.mk (n := 3) ?_); with_reducible (k_here; (rename Fr _ _ _ _ => lF'); (rename News _ _ _ _ => lN'); k_dflt (refine' range_list_K (by exact rfl) lF' lN' ‹IsRange _ _ _ _ _ _ _ _› (by lia) (by lia) (by lia) ‹_› ?_); clear lF' lN'; intro D' us' c' h' tk' F' N' l1 hI'; (try k_lt l1); (try dsimp only))) | ((with_reducible refine PauseK.mk (n := 4) ?_); with_reducible (k_here; lcg_calm; k_dflt (refine LCt.Assign_ListComp_T (F₀ := by k_asm) (by rfl) (by with_unfolding_all rfl) (by with_unfolding_all rfl) (by decide) (by rfl) (by decide) (by rfl) (by rfl) (by rfl) ?_))) | ((with_reducible refine PauseK.mk (n := 5) ?_); with_reducible (k_here; k_dflt (refine' in_ints_K ‹_› (by first | assumption | k_mem | kst_mem) ‹_› ?_); (try dsimp only)))); k_steps))
  rename_i g1 L1 h1 tk1 FG B1 X1 TT1 q1 oI oT d1 d2 lP h2 q2 h3 F1 N1
  have dT : oT.data = .cell (some (.str x t)) := d2
  have dI : oI.data = .cell none := d1
  clear d1 d2
  with_unfolding_all refine my_forC (σ := S163) (x := Str.ofString "item") (fun c => (c.lP, listOf c.us.toArray c.n) :: (L1 + 1 + 1, c.oI) :: (L1 + 1, oT) :: news) (fun c => [(Str.ofString "places", .ref c.lP)]) [] (fun i c => IntsAre c.us ((placesL (is.take i) x.cps.toList).map fun (k : Nat) => (k : Int)) ∧ (∃ v, c.oI.data = .cell v) ∧ @Ne Nat c.lP (L1 + 1 + 1)) ⟨lP, [.int 0 tk1], 0, oI⟩ rfl F1 N1 (List.mem_cons_of_mem _ (List.mem_cons_of_mem _ (List.mem_cons_of_mem _ hI))) (by kst_all) ⟨.cons 0 tk1 .nil, ⟨_, dI⟩, Nat.ne_of_gt q2.1⟩ ?_ ?_
  · rintro I hI9 i v ⟨lQ, vs, n9, o9⟩ u h tk oJ hv ⟨hP1, ⟨v9, hP2⟩, hP3⟩ hcJ F2 N2
    obtain ⟨l, tl, hl, rfl⟩ := strs_get hs hv
    dsimp only at hP1 hP2 hP3 F2 N2
    have hI1 : L1 + 1 + 1 < I := hI9 (L1 + 1 + 1, oI) (by simp)
    have hI2 : L1 + 1 < I := hI9 (L1 + 1, oT) (by simp)
    have hne1 : I ≠ L1 + 1 + 1 := Nat.ne_of_gt hI1
    have hne2 : lQ ≠ L1 + 1 + 1 := hP3
    have hne3 : ∀ p ∈ (L1 + 1, oT) :: news, p.1 ≠ L1 + 1 + 1 := by
      intro p hp
      rcases List.mem_cons.mp hp with rfl | hp
      · exact Nat.ne_of_lt (Nat.lt_succ_self _)
      · exact Nat.ne_of_lt (Nat.lt_succ_of_lt (Nat.lt_succ_of_lt (q1 p hp)))
    have hsn : placesL (is.take (i + 1)) x.cps.toList = fitStep x.cps.toList (placesL (is.take i) x.cps.toList) l := by
      unfold placesL
      rw [List.take_add_one, hl, List.foldl_append]; rfl
    obtain ⟨hle, hpn⟩ := places_ok (is.take i) x.cps.toList
    rw [hsn]
    clear hsn
    generalize placesL (is.take i) x.cps.toList = ps at hP1 hle hpn
    have hxl : x.cps.toList.length = x.length := by simp [Str.length]
    rw [hxl] at hle hpn
    have hvl : vs.length ≤ 101 := by
      have h1 := hP1.length
      rw [List.length_map] at h1
      lia
    by_cases hA : ps = [] ∨ l ≠ []
    · have hbb : ((!decide ((ps.map fun (k : Nat) => (k : Int)) = [])) = false) ∨ ((!decide ((ps.map fun (k : Nat) => (k : Int)) = [])) = true ∧ (S l == Str.ofString "") = false) := by
        cases ps with
        | nil => exact .inl rfl
        | cons a b =>
          refine .inr ⟨by simp, ?_⟩
          rcases hA with h | h
          · cases h
          · rw [o_empty, S_beq]; simpa using h
      rcases hbb with hb1 | ⟨hb1, hb2⟩
      all_goals (
        (k_steps; repeat' ((first | ((with_reducible refine PauseK.mk (n := 0) ?_); with_reducible (k_here; (with_unfolding_all refine' For_turns ‹_› ?_; k_whole))) | ((with_reducible refine PauseK.mk (n := 1) ?_); with_reducible (k_here; k_dflt (refine' ne_ints_known ‹_› (by k_mem) ‹_› (by k_mem) IntsAre.nil (by units_room) ‹_› ?_); (try dsimp only))) | ((with_reducible refine PauseK.mk (n := 2) ?_); with_reducible (k_here; (with_reducible show wpAny _ _ (subscriptTail _ _ (Value.ref _) (Value.int _ _)) _ _ _); k_dflt (refine' item_K ‹_› (by first | assumption | k_mem | kst_mem) (by first | assumption | lia) ‹_› (by first | assumption | lia) ?_ (by with_unfolding_all rfl)); (try dsimp only))) | ((with_reducible refine PauseK.mk (n := 3) ?_); with_reducible (k_here; (rename Fr _ _ _ _ => lF'); (rename News _ _ _ _ => lN'); k_dflt (refine' range_list_K (by exact rfl) lF' lN' ‹IsRange _ _ _ _ _ _ _ _› (by lia) (by lia) (by lia) ‹_› ?_); clear lF' lN'; intro D' us' c' h' tk' F' N' l1 hI'; (try k_lt l1); (try dsimp only))) | ((with_reducible refine PauseK.mk (n := 4) ?_); with_reducible (k_here; lcg_calm; k_dflt (refine LCt.Assign_ListComp_T (F₀ := by k_asm) (by rfl) (by with_unfolding_all rfl) (by with_unfolding_all rfl) (by decide) (by rfl) (by decide) (by rfl) (by rfl) (by rfl) ?_))) | ((with_reducible refine PauseK.mk (n := 5) ?_); with_reducible (k_here; k_dflt (refine' in_ints_K ‹_› (by first | assumption | k_mem | kst_mem) ‹_› ?_); (try dsimp only)))); k_steps))
        rename Fr _ _ _ _ => F6
        rename News _ _ _ _ => N6
        refine LCt.CompSrcT.ledger (its := vs.toArray) (k := n9) rfl F6 N6 (by k_mem) (by rw [List.size_toArray, sizeLine_eq]; lia) ?_
        intro g9
        refine comp_invT (fun i ys => IntsAre ys (((ps.take i).filter fun k => (x.cps.toList.drop k).take l.length == l).map fun (k : Nat) => ((k + l.length : Nat) : Int))) .nil ?_ ?_
        · rintro i2 v2 ys a2 oa C oC D m₂ h tk E' hi2 hv2 hY hC hx2 F7 N7 off ne
          obtain ⟨k2, tk2, rfl, hk2⟩ := IntsAre.at hP1 i2 v2 (by simpa using hv2)
          obtain ⟨kn, hkn, rfl⟩ : ∃ kn : Nat, ps[i2]? = some kn ∧ k2 = (kn : Int) := by
            rw [List.getElem?_map] at hk2
            cases hq : ps[i2]? with
            | none => rw [hq] at hk2; cases hk2
            | some kn => rw [hq] at hk2; exact ⟨kn, rfl, (Option.some.inj hk2).symm⟩
          have hkl := hle kn (List.mem_of_getElem? hkn)
          have hll : (S l).length = l.length := S_len l
          have hl5 := menu_len l (hm l (List.mem_of_getElem? hl))
          (k_steps; repeat' ((first | ((with_reducible refine PauseK.mk (n := 0) ?_); with_reducible (k_here; (with_unfolding_all refine' For_turns ‹_› ?_; k_whole))) | ((with_reducible refine PauseK.mk (n := 1) ?_); with_reducible (k_here; k_dflt (refine' ne_ints_known ‹_› (by k_mem) ‹_› (by k_mem) IntsAre.nil (by units_room) ‹_› ?_); (try dsimp only))) | ((with_reducible refine PauseK.mk (n := 2) ?_); with_reducible (k_here; (with_reducible show wpAny _ _ (subscriptTail _ _ (Value.ref _) (Value.int _ _)) _ _ _); k_dflt (refine' item_K ‹_› (by first | assumption | k_mem | kst_mem) (by first | assumption | lia) ‹_› (by first | assumption | lia) ?_ (by with_unfolding_all rfl)); (try dsimp only))) | ((with_reducible refine PauseK.mk (n := 3) ?_); with_reducible (k_here; (rename Fr _ _ _ _ => lF'); (rename News _ _ _ _ => lN'); k_dflt (refine' range_list_K (by exact rfl) lF' lN' ‹IsRange _ _ _ _ _ _ _ _› (by lia) (by lia) (by lia) ‹_› ?_); clear lF' lN'; intro D' us' c' h' tk' F' N' l1 hI'; (try k_lt l1); (try dsimp only))) | ((with_reducible refine PauseK.mk (n := 4) ?_); with_reducible (k_here; lcg_calm; k_dflt (refine LCt.Assign_ListComp_T (F₀ := by k_asm) (by rfl) (by with_unfolding_all rfl) (by with_unfolding_all rfl) (by decide) (by rfl) (by decide) (by rfl) (by rfl) (by rfl) ?_))) | ((with_reducible refine PauseK.mk (n := 5) ?_); with_reducible (k_here; k_dflt (refine' in_ints_K ‹_› (by first | assumption | k_mem | kst_mem) ‹_› ?_); (try dsimp only)))); k_steps))
          all_goals (
            rename Fr _ _ _ _ => Fz
            rename News _ _ _ _ => Nz
            refine LCg.CompEnd.intro Fz Nz _ (fun p h => h) off (.inr ⟨_, by k_mem, rfl, _, rfl⟩) ⟨rfl, ?_⟩
            have hsl := ‹(Txt.slice x (some (kn : Int)) (some ((kn : Int) + ((S l).length : Int))) == S l) = _›
            rw [slice_cut x (by lia) (by lia), S_beq, hll, cut_nat] at hsl
            rw [fits_snoc hkn]
            first
            | rw [if_pos hsl, hll]; exact ints_snoc hY _ _
            | rw [if_neg (by rw [hsl]; decide), List.append_nil]; exact hY)
        · intro ys hys
          rw [show vs.toArray.size = ps.length by rw [List.size_toArray, hP1.length, List.length_map], List.take_length] at hys
          intro D hD tkD FD ND offD
          (k_steps; repeat' ((first | ((with_reducible refine PauseK.mk (n := 0) ?_); with_reducible (k_here; (with_unfolding_all refine' For_turns ‹_› ?_; k_whole))) | ((with_reducible refine PauseK.mk (n := 1) ?_); with_reducible (k_here; k_dflt (refine' ne_ints_known ‹_› (by k_mem) ‹_› (by k_mem) IntsAre.nil (by units_room) ‹_› ?_); (try dsimp only))) | ((with_reducible refine PauseK.mk (n := 2) ?_); with_reducible (k_here; (with_reducible show wpAny _ _ (subscriptTail _ _ (Value.ref _) (Value.int _ _)) _ _ _); k_dflt (refine' item_K ‹_› (by first | assumption | k_mem | kst_mem) (by first | assumption | lia) ‹_› (by first | assumption | lia) ?_ (by with_unfolding_all rfl)); (try dsimp only))) | ((with_reducible refine PauseK.mk (n := 3) ?_); with_reducible (k_here; (rename Fr _ _ _ _ => lF'); (rename News _ _ _ _ => lN'); k_dflt (refine' range_list_K (by exact rfl) lF' lN' ‹IsRange _ _ _ _ _ _ _ _› (by lia) (by lia) (by lia) ‹_› ?_); clear lF' lN'; intro D' us' c' h' tk' F' N' l1 hI'; (try k_lt l1); (try dsimp only))) | ((with_reducible refine PauseK.mk (n := 4) ?_); with_reducible (k_here; lcg_calm; k_dflt (refine LCt.Assign_ListComp_T (F₀ := by k_asm) (by rfl) (by with_unfolding_all rfl) (by with_unfolding_all rfl) (by decide) (by rfl) (by decide) (by rfl) (by rfl) (by rfl) ?_))) | ((with_reducible refine PauseK.mk (n := 5) ?_); with_reducible (k_here; k_dflt (refine' in_ints_K ‹_› (by first | assumption | k_mem | kst_mem) ‹_› ?_); (try dsimp only)))); k_steps))
          rename Fr _ _ _ _ => F5
          rename News _ _ _ _ => N5
          refine end163 F5 N5 (by k_mem) (by k_mem) (by k_mem) (fun p hp => by simp [hp]) hcJ hI1 hI2 (fun p hp => hI9 p (by simp [hp])) hI (by with_unfolding_all rfl) (by walk_at "my same") ⟨?_, ⟨_, by assumption⟩, ?_⟩
          · rw [fitStep_lits _ _ _ hA, List.map_map]
            exact hys
          · exact Ne.symm offD.2.2.2.1)
    · obtain ⟨p0, pr, rfl⟩ : ∃ p0 pr, ps = p0 :: pr := by
        cases ps with
        | nil => exact absurd (.inl rfl) hA
        | cons a b => exact ⟨a, b, rfl⟩
      have hl0 : l = [] := by
        by_cases h : l = []
        · exact h
        · exact absurd (.inr h) hA
      subst hl0
      have hb1 : (!decide (((p0 :: pr).map fun (k : Nat) => (k : Int)) = [])) = true := by simp
      have hb2 : (S [] == Str.ofString "") = true := by rw [o_empty]; simp
      obtain ⟨tt, ht0⟩ : ∃ tt, vs[((0 : Int)).toNat]? = some (.int (p0 : Int) tt) := by
        cases hP1 with
        | cons k t r => exact ⟨t, rfl⟩
      have hp0 := hle p0 (List.mem_cons_self ..)
      have hn9 : ((x.length : Nat) : Int) + 1 = (p0 : Int) + ((x.length + 1 - p0 : Nat) : Int) := by lia
      (k_steps; repeat' ((first | ((with_reducible refine PauseK.mk (n := 0) ?_); with_reducible (k_here; (with_unfolding_all refine' For_turns ‹_› ?_; k_whole))) | ((with_reducible refine PauseK.mk (n := 1) ?_); with_reducible (k_here; k_dflt (refine' ne_ints_known ‹_› (by k_mem) ‹_› (by k_mem) IntsAre.nil (by units_room) ‹_› ?_); (try dsimp only))) | ((with_reducible refine PauseK.mk (n := 2) ?_); with_reducible (k_here; (with_reducible show wpAny _ _ (subscriptTail _ _ (Value.ref _) (Value.int _ _)) _ _ _); k_dflt (refine' item_K ‹_› (by first | assumption | k_mem | kst_mem) (by first | assumption | lia) ‹_› (by first | assumption | lia) ?_ (by with_unfolding_all rfl)); (try dsimp only))) | ((with_reducible refine PauseK.mk (n := 3) ?_); with_reducible (k_here; (rename Fr _ _ _ _ => lF'); (rename News _ _ _ _ => lN'); k_dflt (refine' range_list_K (by exact rfl) lF' lN' ‹IsRange _ _ _ _ _ _ _ _› (by lia) (by lia) (by lia) ‹_› ?_); clear lF' lN'; intro D' us' c' h' tk' F' N' l1 hI'; (try k_lt l1); (try dsimp only))) | ((with_reducible refine PauseK.mk (n := 4) ?_); with_reducible (k_here; lcg_calm; k_dflt (refine LCt.Assign_ListComp_T (F₀ := by k_asm) (by rfl) (by with_unfolding_all rfl) (by with_unfolding_all rfl) (by decide) (by rfl) (by decide) (by rfl) (by rfl) (by rfl) ?_))) | ((with_reducible refine PauseK.mk (n := 5) ?_); with_reducible (k_here; k_dflt (refine' in_ints_K ‹_› (by first | assumption | k_mem | kst_mem) ‹_› ?_); (try dsimp only)))); k_steps))
      rename Fr _ _ _ _ => F5
      rename News _ _ _ _ => N5
      rename IntsAre _ (rangeKs _ _) => hI5
      refine end163 F5 N5 (by k_mem) (by k_mem) (by k_mem) (fun p hp => by simp [hp]) hcJ hI1 hI2 (fun p hp => hI9 p (by simp [hp])) hI (by with_unfolding_all rfl) (by walk_at "my same") ⟨?_, ⟨_, by assumption⟩, ?_⟩
      · show IntsAre _ ((List.range' p0 (x.cps.toList.length + 1 - p0)).map fun (k : Nat) => (k : Int))
        rw [hxl, ← rangeKs_nat]
        exact hI5
      · rename _ ∧ _ => lD
        exact Nat.ne_of_gt lD.2.2.2.1
  · rintro ⟨lQ, vs, n9, o9⟩ u h tk ⟨hP1, ⟨v9, hP2⟩, hP3⟩ F2 N2
    have hul : us.length = is.length := by rw [strs_len hs, List.length_map]
    rw [hul, List.take_length] at hP1
    dsimp only at hP1 hP2 hP3 F2 N2
    (k_steps; repeat' ((first | ((with_reducible refine PauseK.mk (n := 0) ?_); with_reducible (k_here; (with_unfolding_all refine' For_turns ‹_› ?_; k_whole))) | ((with_reducible refine PauseK.mk (n := 1) ?_); with_reducible (k_here; k_dflt (refine' ne_ints_known ‹_› (by k_mem) ‹_› (by k_mem) IntsAre.nil (by units_room) ‹_› ?_); (try dsimp only))) | ((with_reducible refine PauseK.mk (n := 2) ?_); with_reducible (k_here; (with_reducible show wpAny _ _ (subscriptTail _ _ (Value.ref _) (Value.int _ _)) _ _ _); k_dflt (refine' item_K ‹_› (by first | assumption | k_mem | kst_mem) (by first | assumption | lia) ‹_› (by first | assumption | lia) ?_ (by with_unfolding_all rfl)); (try dsimp only))) | ((with_reducible refine PauseK.mk (n := 3) ?_); with_reducible (k_here; (rename Fr _ _ _ _ => lF'); (rename News _ _ _ _ => lN'); k_dflt (refine' range_list_K (by exact rfl) lF' lN' ‹IsRange _ _ _ _ _ _ _ _› (by lia) (by lia) (by lia) ‹_› ?_); clear lF' lN'; intro D' us' c' h' tk' F' N' l1 hI'; (try k_lt l1); (try dsimp only))) | ((with_reducible refine PauseK.mk (n := 4) ?_); with_reducible (k_here; lcg_calm; k_dflt (refine LCt.Assign_ListComp_T (F₀ := by k_asm) (by rfl) (by with_unfolding_all rfl) (by with_unfolding_all rfl) (by decide) (by rfl) (by decide) (by rfl) (by rfl) (by rfl) ?_))) | ((with_reducible refine PauseK.mk (n := 5) ?_); with_reducible (k_here; k_dflt (refine' in_ints_K ‹_› (by first | assumption | k_mem | kst_mem) ‹_› ?_); (try dsimp only)))); k_steps))
    rename News h₀ _ _ _ => kN
    refine hret _ _ _ ?_ (by assumption) (cb_drop kN fun p hp => List.mem_cons_of_mem _ (List.mem_cons_of_mem _ (List.mem_cons_of_mem _ hp)))
    rw [fits_contains]
end
section
open PySem.Calls PySem.Spec
local macro_rules | `(tactic| walk_at "my pad") => `(tactic| skip)
local macro_rules | `(tactic| walk_at "exec For Tuple Call cons nil") => `(tactic| refine PauseK.o 0 ?_)
local macro_rules | `(tactic| walk_at "storeName") => `(tactic| (k_here; k_dflt (refine' storeX_C ‹_› ‹_› (by exact rfl) (by exact UpdF.tail (by assumption) (UpdF.tail (by assumption) (UpdF.tail (by assumption) (UpdF.tail (by assumption) (UpdF.tail (by assumption) (UpdF.head (by assumption))))))) ‹_› ?_ (by exact rfl) (by exact rfl)); walk_at "my eFN"))
local macro_rules | `(tactic| walk_at "eval ListComp") => `(tactic| refine PauseK.o 1 ?_)
theorem get_esc {prog : Program} {w : World} {A : Around} {E : Value → Shared → Prop} {s : Shared} {h₀ : Heap} {L d : Addr} {news : List (Addr × Obj)} {o : Obj} {kvs : List (Str × Value)} {T : List (Nat × List Nat)} {c : Nat} {t1 t2 : Tok} {Q : Value → Shared → Prop}
    (N : News h₀ L s.heap news) (hp : (d, o) ∈ news) (hd : o.IsDictOf (PySem.strKind prog w) kvs) (hk : KvT kvs T) (lo : (d == sysModules) = false) (h : ∀ t, Q (.str (S (escC T c)) t) { s with toks := s.toks + 1 }) :
    wpAny (model prog w) A (call (.builtin "dict.get") [.ref d, .str (S [c]) t1, .str (S [c]) t2]) Q E s := by
  refine kdg_get2 N hp hd lo (strKind_is _ _ _ _) _ rfl ?_
  unfold escC at h
  rcases hk.value c with ⟨h1, h2⟩ | ⟨v, t, h1, h2⟩
  · rw [h2]; rw [h1] at h; exact h t2
  · rw [h2]; rw [h1] at h; exact h t
local macro_rules | `(tactic| walk_at "subscriptTail Name Constant ref int") => `(tactic| refine PauseK.o 2 ?_)
local macro_rules | `(tactic| walk_at "getMethod ref") => `(tactic| refine PauseK.o 3 ?_)
local macro_rules | `(tactic| walk_at "call builtin:dict.get") => `(tactic| refine PauseK.o 4 ?_)
local macro_rules | `(tactic| walk_at "call builtin:str.join") => `(tactic| refine PauseK.o 5 ?_)
theorem esc_snoc {T : List (Nat × List Nat)} {x : Str} {i c : Nat} (h : x.cps[i]? = some c) : (x.cps.toList.take (i + 1)).map (escC T) = (x.cps.toList.take i).map (escC T) ++ [escC T c] := by
  have h' : x.cps.toList[i]? = some c := by simpa using h
  rw [List.take_add_one, h']; simp
theorem esc_flat (T : List (Nat × List Nat)) (l : List Nat) : (l.map (escC T)).flatten = esc T l := by
  unfold esc; rw [List.flatMap_def]
theorem tab_len : ∀ h, h < 5 → ∀ p ∈ tab h, p.2.length ≤ 6 := by decide
local macro_rules | `(tactic| walk_at "binaryOp Add str str") => `(tactic| refine PauseK.o 6 ?_)
structure S158 where
  oF : Obj
  x : Str
  t : Tok
noncomputable def bnd2 : Nat → Nat
  | 0 => 0
  | n + 1 => 6 * bnd2 n + 247
theorem end158 {g h' : Heap} {L L1 I l1 l2 : Addr} {p1 p2 p3 p4 p5 o5 lo1 lo2 : Obj} {all news : List (Addr × Obj)} {m₀ m' : Str → Option Value} {P : S158 → Prop} {s₁ : Shared} {tk : Nat} {y : Str} {t : Tok}
    (F5 : Fr g L h' m') (N5 : News g L h' all) (h1 : ∀ p ∈ [(I + 4, p1), (I + 2, p2), (I + 3, p3), (I, p4), (I + 1, p5)], p ∈ all) (h2 : (L1 + 1, o5) ∈ all) (h4 : ∀ p ∈ news, p ∈ all)
    (i1 : L1 + 1 < I) (i3 : ∀ p ∈ news, p.1 < I) (hlo1 : (l1, lo1) ∈ news) (hlo2 : (l2, lo2) ∈ news)
    (hk : m' (Str.ofString "whole") = some (.str y t)) (hr : ∀ z, z ≠ Str.ofString "text" → (∀ p ∈ [(Str.ofString "whole", Value.str y t)], z ≠ p.1) → [Str.ofString "before"].contains z = false → m' z = m₀ z) (hp : P ⟨o5, y, t⟩) :
    UnrEndW g L s₁ [(I + 4, p1), (I + 2, p2), (I + 3, p3), (I, p4), (I + 1, p5)] (fun m' n' => SubL [(l1, lo1), (l2, lo2)] n' ∧ MfJ (σ := S158) (fun c => (L1 + 1, c.oF) :: news) (fun c => [(Str.ofString "whole", .str c.x c.t)]) (Str.ofString "text") [Str.ofString "before"] m₀ P m' n') { s₁ with heap := h', toks := tk } := by
  refine mf_endW ⟨o5, y, t⟩ F5 N5 h1 ?_ ?_ ?_ ?_ hr hp
  · intro p hp
    dsimp only at hp
    rcases List.mem_cons.mp hp with rfl | hp
    · exact h2
    · exact h4 p hp
  · intro p hp q hq
    have hpI : p.1 < I := by
      dsimp only at hp
      rcases List.mem_cons.mp hp with rfl | hp
      · exact i1
      · exact i3 p hp
    have hqI : I ≤ q.1 := by
      simp only [List.mem_cons, List.not_mem_nil, or_false] at hq
      rcases hq with rfl | rfl | rfl | rfl | rfl
      · exact Nat.le_add_right _ _
      · exact Nat.le_add_right _ _
      · exact Nat.le_add_right _ _
      · exact Nat.le_refl _
      · exact Nat.le_add_right _ _
    exact .inl (Nat.ne_of_lt (Nat.lt_of_lt_of_le hpI hqI))
  · exact ⟨by simp [hlo1], by simp [hlo2], trivial⟩
  · intro p hp
    rcases List.mem_singleton.mp hp with rfl
    exact hk
theorem spelled_snoc {fs : List Fld} {ts : List (List Nat)} {i : Nat} {f : Fld} {tx : List Nat} (h1 : fs[i]? = some f) (h2 : ts[i]? = some tx) : spelledL ((fs.zip ts).take (i + 1)) = esc (tab f.hn) (spelledL ((fs.zip ts).take i)) ++ [f.mark] ++ esc (tab f.hn) tx := by
  have h : (fs.zip ts)[i]? = some (f, tx) := by rw [List.getElem?_zip_eq_some]; exact ⟨h1, h2⟩
  unfold spelledL
  rw [List.take_add_one, h, List.foldl_append]
  rfl
set_option linter.unusedVariables false in
theorem c158 (w : World) (p : Program) (loose : List Str) (mean : ExcName → Option Value) (mg mb : Str → Option Value) (news : List (Addr × Obj)) (lF lT : Addr) (n n2 : Nat) (afs : List (Addr × Fld)) (us : List Value) (ts : List (List Nat))
   (hL : (lF, listOf (afs.map fun q => Value.ref q.1).toArray n) ∈ news) (hT : (lT, listOf us.toArray n2) ∈ news) (hF : ∀ q ∈ afs, FldAt w news q.1 q.2) (hS : Strs ts us) (hl1 : afs.length ≤ 3) (hl2 : ts.length = afs.length) (hl3 : ∀ t ∈ ts, t.length ≤ 41) :
  CallS w p loose mean mg mb 158 news [.ref lF, .ref lT] (fun v => ∃ y t', v = .str y t' ∧ y = S (spelledL ((afs.map (·.2)).zip ts)) ∧ y.length ≤ 20000) 2 := by
  w_top off
  intro dp un gd cn cs a ccd cl outer A₀ base h₀ L m s Q E B F X N T hk hd hu hret
  refine wpAny_call ?_
  k_dflt (walk_at "my enterC")
  (k_steps; repeat' ((first | ((with_reducible refine PauseK.mk (n := 0) ?_); with_reducible (k_here; (with_unfolding_all refine' For_turns ‹_› ?_; k_whole))) | ((with_reducible refine PauseK.mk (n := 1) ?_); with_reducible (k_here; lcg_calm; k_dflt (refine ListComp_str (F₀ := by k_asm) (by with_unfolding_all rfl) (by decide) (by rfl) (by decide) (by rfl) ?_))) | ((with_reducible refine PauseK.mk (n := 2) ?_); with_reducible (k_here; k_dflt (refine' tup_K ‹_› (by first | assumption | kst_mem) (by decide) (by decide) (by exact rfl) (by exact rfl) ?_ (by with_unfolding_all rfl)); (try dsimp only))) | ((with_reducible refine PauseK.mk (n := 3) ?_); with_reducible (k_here; k_dflt (refine' kdg_method (knd := PySem.strKind _ _) ‹_› (by first | assumption | kst_mem) ‹_› ?_); (try dsimp only))) | ((with_reducible refine PauseK.mk (n := 4) ?_); with_reducible (k_here; k_dflt (refine' get_esc ‹_› (by first | assumption | kst_mem) ‹_› ‹_› ‹_› ?_); (intros; (try dsimp only)))) | ((with_reducible refine PauseK.mk (n := 5) ?_); with_reducible (k_here; k_dflt (refine' join_K o_empty ‹_› (by first | k_mem | kst_mem) ‹_› (by first | assumption | lia) ?_); (intros; (try dsimp only)))) | ((with_reducible refine PauseK.mk (n := 6) ?_); with_reducible (k_here; (refine' add_K (by first | assumption | lia) ?_); (intros; (try dsimp only))))); k_steps))
  rename_i g1 L1 h1 tk1 FG B1 X1 TT1 q1 oF d1 h2 F1 N1
  have dF : oF.data = .cell none := d1
  clear d1
  have hul : us.length = afs.length := by rw [hS.len, hl2]
  with_unfolding_all refine my_forZ (σ := S158) (x := Str.ofString "text") (xs := afs.map fun q => Value.ref q.1) (ys := us) (fun c => (L1 + 1, c.oF) :: news) (fun c => [(Str.ofString "whole", .str c.x c.t)]) [Str.ofString "before"] (fun i c => c.x = S (spelledL (((afs.map (·.2)).zip ts).take i)) ∧ c.x.length ≤ bnd2 i ∧ ∃ v, c.oF.data = .cell v) ⟨oF, Str.ofString "", _⟩ rfl F1 N1 (List.mem_cons_of_mem _ hL) (List.mem_cons_of_mem _ hT) (by kst_all) ⟨o_empty, (by decide +kernel : (Str.ofString "").length ≤ 0), ⟨_, dF⟩⟩ ?_ ?_
  · rintro I hI i vx vy T0 ⟨o9, x9, t9⟩ u h tk hx hy ⟨hP1, hP2, v9, hP3⟩ hT0 F3 p1 p2 p3 p4 p5 c1 c2 c3 c4 c5 N3
    dsimp only at hP1 hP2 hP3 F3 N3
    have hI1 : L1 + 1 < I := hI (L1 + 1, oF) (List.mem_cons_self ..)
    have hne0 : I ≠ L1 + 1 := Nat.ne_of_gt hI1
    have hne1 : I + 1 ≠ L1 + 1 := Nat.ne_of_gt (Nat.lt_succ_of_lt hI1)
    have hne2 : I + 2 ≠ L1 + 1 := Nat.ne_of_gt (Nat.lt_succ_of_lt (Nat.lt_succ_of_lt hI1))
    have hne3 : I + 3 ≠ L1 + 1 := Nat.ne_of_gt (Nat.lt_succ_of_lt (Nat.lt_succ_of_lt (Nat.lt_succ_of_lt hI1)))
    have hne4 : I + 4 ≠ L1 + 1 := Nat.ne_of_gt (Nat.lt_succ_of_lt (Nat.lt_succ_of_lt (Nat.lt_succ_of_lt (Nat.lt_succ_of_lt hI1))))
    have hne5 : ∀ p ∈ news, p.1 ≠ L1 + 1 := fun p hp => Nat.ne_of_lt (Nat.lt_succ_of_lt (q1 p hp))
    rw [List.getElem?_map] at hx
    cases hq : afs[i]? with
    | none => rw [hq] at hx; cases hx
    | some q =>
      obtain ⟨a, f⟩ := q
      rw [hq] at hx
      have hvx : vx = .ref a := (Option.some.inj hx).symm
      subst hvx
      obtain ⟨tx, t0, htx, rfl⟩ := hS.at hy
      have hf := hF _ (List.mem_of_getElem? hq)
      have hSl : (S tx).length = tx.length := S_len tx
      have hSm : (S [f.mark]).length = 1 := rfl
      have htl := hl3 tx (List.mem_of_getElem? htx)
      obtain ⟨hok, th, tm, tt, tx2, aT, lI, n6, nn, us2, oT, m1, m2, m3, m4, hTab, hsm⟩ := hf
      dsimp only at m1 m2 m3 m4 hTab hsm hok
      obtain ⟨kvs, hkd, hkv⟩ := hTab
      have hb3 : bnd2 i ≤ 2000 := by
        have : i < 3 := by
          have := (List.getElem?_eq_some_iff.mp hq).1
          lia
        have h3 : ∀ i, i < 3 → bnd2 i ≤ 2000 := by decide
        exact h3 i this
      (k_steps; repeat' ((first | ((with_reducible refine PauseK.mk (n := 0) ?_); with_reducible (k_here; (with_unfolding_all refine' For_turns ‹_› ?_; k_whole))) | ((with_reducible refine PauseK.mk (n := 1) ?_); with_reducible (k_here; lcg_calm; k_dflt (refine ListComp_str (F₀ := by k_asm) (by with_unfolding_all rfl) (by decide) (by rfl) (by decide) (by rfl) ?_))) | ((with_reducible refine PauseK.mk (n := 2) ?_); with_reducible (k_here; k_dflt (refine' tup_K ‹_› (by first | assumption | kst_mem) (by decide) (by decide) (by exact rfl) (by exact rfl) ?_ (by with_unfolding_all rfl)); (try dsimp only))) | ((with_reducible refine PauseK.mk (n := 3) ?_); with_reducible (k_here; k_dflt (refine' kdg_method (knd := PySem.strKind _ _) ‹_› (by first | assumption | kst_mem) ‹_› ?_); (try dsimp only))) | ((with_reducible refine PauseK.mk (n := 4) ?_); with_reducible (k_here; k_dflt (refine' get_esc ‹_› (by first | assumption | kst_mem) ‹_› ‹_› ‹_› ?_); (intros; (try dsimp only)))) | ((with_reducible refine PauseK.mk (n := 5) ?_); with_reducible (k_here; k_dflt (refine' join_K o_empty ‹_› (by first | k_mem | kst_mem) ‹_› (by first | assumption | lia) ?_); (intros; (try dsimp only)))) | ((with_reducible refine PauseK.mk (n := 6) ?_); with_reducible (k_here; (refine' add_K (by first | assumption | lia) ?_); (intros; (try dsimp only))))); k_steps))
      rename Fr _ _ _ _ => F6
      rename News _ _ _ _ => N6
      refine SrcS.intro rfl F6 N6 (show x9.length ≤ 16777216 by lia) ?_
      intro g9
      refine comp_inv (fun i ys => Strs ((x9.cps.toList.take i).map (escC (tab f.hn))) ys) .nil ?_ ?_
      · rintro i2 v2 ys a2 oa C oC D m₂ h tk E' hi2 ⟨c, tc, hc2, rfl⟩ hY hC hx2 F7 N7 off ne
        (k_steps; repeat' ((first | ((with_reducible refine PauseK.mk (n := 0) ?_); with_reducible (k_here; (with_unfolding_all refine' For_turns ‹_› ?_; k_whole))) | ((with_reducible refine PauseK.mk (n := 1) ?_); with_reducible (k_here; lcg_calm; k_dflt (refine ListComp_str (F₀ := by k_asm) (by with_unfolding_all rfl) (by decide) (by rfl) (by decide) (by rfl) ?_))) | ((with_reducible refine PauseK.mk (n := 2) ?_); with_reducible (k_here; k_dflt (refine' tup_K ‹_› (by first | assumption | kst_mem) (by decide) (by decide) (by exact rfl) (by exact rfl) ?_ (by with_unfolding_all rfl)); (try dsimp only))) | ((with_reducible refine PauseK.mk (n := 3) ?_); with_reducible (k_here; k_dflt (refine' kdg_method (knd := PySem.strKind _ _) ‹_› (by first | assumption | kst_mem) ‹_› ?_); (try dsimp only))) | ((with_reducible refine PauseK.mk (n := 4) ?_); with_reducible (k_here; k_dflt (refine' get_esc ‹_› (by first | assumption | kst_mem) ‹_› ‹_› ‹_› ?_); (intros; (try dsimp only)))) | ((with_reducible refine PauseK.mk (n := 5) ?_); with_reducible (k_here; k_dflt (refine' join_K o_empty ‹_› (by first | k_mem | kst_mem) ‹_› (by first | assumption | lia) ?_); (intros; (try dsimp only)))) | ((with_reducible refine PauseK.mk (n := 6) ?_); with_reducible (k_here; (refine' add_K (by first | assumption | lia) ?_); (intros; (try dsimp only))))); k_steps))
        rename Fr _ _ _ _ => Fz
        rename News _ _ _ _ => Nz
        refine LCg.CompEnd.intro Fz Nz _ (fun p h => h) off trivial ⟨rfl, ?_⟩
        rw [esc_snoc hc2]
        exact hY.append (.cons _ _ .nil)
      · intro ys hys
        rw [show x9.cps.size = x9.cps.toList.length by simp, List.take_length] at hys
        have hye := esc_flat (tab f.hn) x9.cps.toList
        have hyl := esc_len (tab_len f.hn hok.1) x9.cps.toList
        rw [show x9.cps.toList.length = x9.length by simp [Str.length]] at hyl
        have hyb : ((x9.cps.toList.map (escC (tab f.hn))).flatten).length ≤ 1000000 := by rw [hye]; lia
        intro D hD tkD FD ND offD
        (k_steps; repeat' ((first | ((with_reducible refine PauseK.mk (n := 0) ?_); with_reducible (k_here; (with_unfolding_all refine' For_turns ‹_› ?_; k_whole))) | ((with_reducible refine PauseK.mk (n := 1) ?_); with_reducible (k_here; lcg_calm; k_dflt (refine ListComp_str (F₀ := by k_asm) (by with_unfolding_all rfl) (by decide) (by rfl) (by decide) (by rfl) ?_))) | ((with_reducible refine PauseK.mk (n := 2) ?_); with_reducible (k_here; k_dflt (refine' tup_K ‹_› (by first | assumption | kst_mem) (by decide) (by decide) (by exact rfl) (by exact rfl) ?_ (by with_unfolding_all rfl)); (try dsimp only))) | ((with_reducible refine PauseK.mk (n := 3) ?_); with_reducible (k_here; k_dflt (refine' kdg_method (knd := PySem.strKind _ _) ‹_› (by first | assumption | kst_mem) ‹_› ?_); (try dsimp only))) | ((with_reducible refine PauseK.mk (n := 4) ?_); with_reducible (k_here; k_dflt (refine' get_esc ‹_› (by first | assumption | kst_mem) ‹_› ‹_› ‹_› ?_); (intros; (try dsimp only)))) | ((with_reducible refine PauseK.mk (n := 5) ?_); with_reducible (k_here; k_dflt (refine' join_K o_empty ‹_› (by first | k_mem | kst_mem) ‹_› (by first | assumption | lia) ?_); (intros; (try dsimp only)))) | ((with_reducible refine PauseK.mk (n := 6) ?_); with_reducible (k_here; (refine' add_K (by first | assumption | lia) ?_); (intros; (try dsimp only))))); k_steps))
        rename Fr _ _ _ _ => F8
        rename News _ _ _ _ => N8
        refine SrcS.intro rfl F8 N8 (show (S tx).length ≤ 16777216 by rw [S_len]; lia) ?_
        intro g8
        refine comp_inv (fun i ys => Strs (((S tx).cps.toList.take i).map (escC (tab f.hn))) ys) .nil ?_ ?_
        · rintro i2 v2 ys a2 oa C oC D m₂ h tk E' hi2 ⟨c, tc, hc2, rfl⟩ hY hC hx2 F7 N7 off ne
          (k_steps; repeat' ((first | ((with_reducible refine PauseK.mk (n := 0) ?_); with_reducible (k_here; (with_unfolding_all refine' For_turns ‹_› ?_; k_whole))) | ((with_reducible refine PauseK.mk (n := 1) ?_); with_reducible (k_here; lcg_calm; k_dflt (refine ListComp_str (F₀ := by k_asm) (by with_unfolding_all rfl) (by decide) (by rfl) (by decide) (by rfl) ?_))) | ((with_reducible refine PauseK.mk (n := 2) ?_); with_reducible (k_here; k_dflt (refine' tup_K ‹_› (by first | assumption | kst_mem) (by decide) (by decide) (by exact rfl) (by exact rfl) ?_ (by with_unfolding_all rfl)); (try dsimp only))) | ((with_reducible refine PauseK.mk (n := 3) ?_); with_reducible (k_here; k_dflt (refine' kdg_method (knd := PySem.strKind _ _) ‹_› (by first | assumption | kst_mem) ‹_› ?_); (try dsimp only))) | ((with_reducible refine PauseK.mk (n := 4) ?_); with_reducible (k_here; k_dflt (refine' get_esc ‹_› (by first | assumption | kst_mem) ‹_› ‹_› ‹_› ?_); (intros; (try dsimp only)))) | ((with_reducible refine PauseK.mk (n := 5) ?_); with_reducible (k_here; k_dflt (refine' join_K o_empty ‹_› (by first | k_mem | kst_mem) ‹_› (by first | assumption | lia) ?_); (intros; (try dsimp only)))) | ((with_reducible refine PauseK.mk (n := 6) ?_); with_reducible (k_here; (refine' add_K (by first | assumption | lia) ?_); (intros; (try dsimp only))))); k_steps))
          rename Fr _ _ _ _ => Fz
          rename News _ _ _ _ => Nz
          refine LCg.CompEnd.intro Fz Nz _ (fun p h => h) off trivial ⟨rfl, ?_⟩
          rw [esc_snoc hc2]
          exact hY.append (.cons _ _ .nil)
        · intro ys hys
          rw [show (S tx).cps.size = (S tx).cps.toList.length by simp, List.take_length] at hys
          have hye := esc_flat (tab f.hn) (S tx).cps.toList
          have hyl := esc_len (tab_len f.hn hok.1) (S tx).cps.toList
          rw [show (S tx).cps.toList.length = (S tx).length by simp [Str.length]] at hyl
          have hyb : (((S tx).cps.toList.map (escC (tab f.hn))).flatten).length ≤ 1000000 := by rw [hye]; lia
          intro D hD tkD FD ND offD
          (k_steps; repeat' ((first | ((with_reducible refine PauseK.mk (n := 0) ?_); with_reducible (k_here; (with_unfolding_all refine' For_turns ‹_› ?_; k_whole))) | ((with_reducible refine PauseK.mk (n := 1) ?_); with_reducible (k_here; lcg_calm; k_dflt (refine ListComp_str (F₀ := by k_asm) (by with_unfolding_all rfl) (by decide) (by rfl) (by decide) (by rfl) ?_))) | ((with_reducible refine PauseK.mk (n := 2) ?_); with_reducible (k_here; k_dflt (refine' tup_K ‹_› (by first | assumption | kst_mem) (by decide) (by decide) (by exact rfl) (by exact rfl) ?_ (by with_unfolding_all rfl)); (try dsimp only))) | ((with_reducible refine PauseK.mk (n := 3) ?_); with_reducible (k_here; k_dflt (refine' kdg_method (knd := PySem.strKind _ _) ‹_› (by first | assumption | kst_mem) ‹_› ?_); (try dsimp only))) | ((with_reducible refine PauseK.mk (n := 4) ?_); with_reducible (k_here; k_dflt (refine' get_esc ‹_› (by first | assumption | kst_mem) ‹_› ‹_› ‹_› ?_); (intros; (try dsimp only)))) | ((with_reducible refine PauseK.mk (n := 5) ?_); with_reducible (k_here; k_dflt (refine' join_K o_empty ‹_› (by first | k_mem | kst_mem) ‹_› (by first | assumption | lia) ?_); (intros; (try dsimp only)))) | ((with_reducible refine PauseK.mk (n := 6) ?_); with_reducible (k_here; (refine' add_K (by first | assumption | lia) ?_); (intros; (try dsimp only))))); k_steps))
          rename Fr _ _ _ _ => F5
          rename News _ _ _ _ => N5
          have e2 := ‹_ = S (List.map (escC (tab f.hn)) (S tx).cps.toList).flatten›
          have e1 := ‹_ = S (List.map (escC (tab f.hn)) x9.cps.toList).flatten›
          refine end158 F5 N5 (fun p hp => by simp only [List.mem_cons, List.not_mem_nil, or_false] at hp; rcases hp with rfl | rfl | rfl | rfl | rfl <;> k_mem) (by k_mem) (fun p hp => by simp [hp]) hI1 (fun p hp => hI p (List.mem_cons_of_mem _ hp)) hL hT (by with_unfolding_all rfl) (by walk_at "my same") ⟨?_, ?_, ⟨_, by assumption⟩⟩
          · dsimp only
            rw [e1, e2, esc_flat, esc_flat, spelled_snoc (by rw [List.getElem?_map, hq]; rfl) htx, hP1, S_cps, S_cps, S_app, S_app]
          · dsimp only
            have hbn : bnd2 (i + 1) = 6 * bnd2 i + 247 := rfl
            have l1 := (congrArg Str.length e1).trans (S_len _)
            have l2 := (congrArg Str.length e2).trans (S_len _)
            rw [esc_flat] at l1 l2
            rw [hbn]
            have := hSl
            rw [str_app_len, str_app_len]
            lia
  · rintro ⟨o9, x9, t9⟩ u h tk ⟨hP1, hP2, v9, hP3⟩ F3 N3
    dsimp only at hP1 hP2 F3 N3
    have hzl : ((afs.map (·.2)).zip ts).length = afs.length := by rw [List.length_zip, List.length_map, hl2, Nat.min_self]
    rw [List.length_map, hul, Nat.min_self] at hP1 hP2
    rw [← hzl, List.take_length] at hP1
    (k_steps; repeat' ((first | ((with_reducible refine PauseK.mk (n := 0) ?_); with_reducible (k_here; (with_unfolding_all refine' For_turns ‹_› ?_; k_whole))) | ((with_reducible refine PauseK.mk (n := 1) ?_); with_reducible (k_here; lcg_calm; k_dflt (refine ListComp_str (F₀ := by k_asm) (by with_unfolding_all rfl) (by decide) (by rfl) (by decide) (by rfl) ?_))) | ((with_reducible refine PauseK.mk (n := 2) ?_); with_reducible (k_here; k_dflt (refine' tup_K ‹_› (by first | assumption | kst_mem) (by decide) (by decide) (by exact rfl) (by exact rfl) ?_ (by with_unfolding_all rfl)); (try dsimp only))) | ((with_reducible refine PauseK.mk (n := 3) ?_); with_reducible (k_here; k_dflt (refine' kdg_method (knd := PySem.strKind _ _) ‹_› (by first | assumption | kst_mem) ‹_› ?_); (try dsimp only))) | ((with_reducible refine PauseK.mk (n := 4) ?_); with_reducible (k_here; k_dflt (refine' get_esc ‹_› (by first | assumption | kst_mem) ‹_› ‹_› ‹_› ?_); (intros; (try dsimp only)))) | ((with_reducible refine PauseK.mk (n := 5) ?_); with_reducible (k_here; k_dflt (refine' join_K o_empty ‹_› (by first | k_mem | kst_mem) ‹_› (by first | assumption | lia) ?_); (intros; (try dsimp only)))) | ((with_reducible refine PauseK.mk (n := 6) ?_); with_reducible (k_here; (refine' add_K (by first | assumption | lia) ?_); (intros; (try dsimp only))))); k_steps))
    rename News h₀ _ _ _ => kN
    refine hret _ _ _ ⟨_, _, rfl, hP1, ?_⟩ (by assumption) (cb_drop kN fun p hp => List.mem_cons_of_mem _ hp)
    have h3 : ∀ i, i ≤ 3 → bnd2 i ≤ 20000 := by decide
    exact Nat.le_trans hP2 (h3 _ hl1)
end
section
/-- what a turn of _law_pieces takes from the told text -/
inductive Ck where
  | tok (s : Sg)
  | opn
  | cls
  | dot
noncomputable def ckTxt : Ck → List Nat
  | .tok s => reS s
  | .opn => [40, 63, 62, 46, 42, 63]
  | .cls => [41]
  | .dot => [46, 42]
noncomputable def okCk : Ck → Prop
  | .tok s => okS s
  | _ => True
structure PSt where
  st : Nat
  ps : List (List Nat)
  l : List Nat
noncomputable def stepC (s : PSt) : Ck → Option PSt
  | .tok c => if s.st = 2 then none else some ⟨s.st, s.ps, s.l ++ [chS c]⟩
  | .opn => if s.st = 0 ∨ s.st = 2 then some ⟨1, s.ps ++ [s.l], []⟩ else none
  | .cls => if s.st = 1 then some ⟨2, s.ps, s.l⟩ else none
  | .dot => if s.st = 0 ∨ s.st = 2 then some ⟨3, s.ps ++ [s.l], []⟩ else none
noncomputable def runC (s : PSt) : List Ck → Option PSt
  | [] => some s
  | c :: cs => (stepC s c).bind fun s' => runC s' cs
noncomputable def cksG : List (List Sg) → List Ck
  | [] => []
  | [g] => .dot :: g.map .tok
  | g :: gs => .opn :: (g.map .tok ++ .cls :: cksG gs)
noncomputable def cks (ts : List Tk) : List Ck := (grpS ts).1.map .tok ++ cksG (grpS ts).2
noncomputable def txtC (cs : List Ck) : List Nat := cs.flatMap ckTxt

theorem txtC_app (a b : List Ck) : txtC (a ++ b) = txtC a ++ txtC b := List.flatMap_append
theorem txtC_cons (c : Ck) (b : List Ck) : txtC (c :: b) = ckTxt c ++ txtC b := rfl
theorem txtC_toks (g : List Sg) : txtC (g.map .tok) = (g.map reS).flatten := by
  induction g with
  | nil => rfl
  | cons s g ih => rw [List.map_cons, txtC_cons, ih]; rfl
theorem txtC_G : ∀ gs : List (List Sg), txtC (cksG gs) = toldG (gs.map (·.map reS))
  | [] => rfl
  | [g] => by
    show txtC (.dot :: g.map .tok) = [46, 42] ++ (g.map reS).flatten
    rw [txtC_cons, txtC_toks]; rfl
  | g :: g' :: gs => by
    show txtC (.opn :: (g.map .tok ++ .cls :: cksG (g' :: gs))) = ([40, 63, 62, 46, 42, 63] ++ (g.map reS).flatten ++ [41]) ++ toldG ((g' :: gs).map (·.map reS))
    rw [txtC_cons, txtC_app, txtC_toks, txtC_cons, txtC_G (g' :: gs)]
    simp [ckTxt]
theorem told_cks (ts : List Tk) : toldOf ts = [40, 63, 115, 58] ++ txtC (cks ts) ++ [41, 92, 90] := by
  rw [told_grp]
  unfold cks
  rw [txtC_app, txtC_toks, txtC_G]
  simp
theorem run_toks {st : Nat} (h : st ≠ 2) (ps : List (List Nat)) (rest : List Ck) : ∀ (g : List Sg) (l : List Nat), runC ⟨st, ps, l⟩ (g.map .tok ++ rest) = runC ⟨st, ps, l ++ g.map chS⟩ rest
  | [], l => by simp
  | s :: g, l => by
    show (stepC ⟨st, ps, l⟩ (.tok s)).bind (fun s' => runC s' (g.map .tok ++ rest)) = _
    have e : stepC ⟨st, ps, l⟩ (.tok s) = some ⟨st, ps, l ++ [chS s]⟩ := if_neg h
    rw [e]
    show runC _ (g.map .tok ++ rest) = _
    rw [run_toks h ps rest g]
    simp
theorem run_G : ∀ (gs : List (List Sg)) (st : Nat) (ps : List (List Nat)) (l : List Nat), gs ≠ [] → (st = 0 ∨ st = 2) → ∃ ps' l', runC ⟨st, ps, l⟩ (cksG gs) = some ⟨3, ps', l'⟩ ∧ ps' ++ [l'] = ps ++ [l] ++ gs.map (·.map chS)
  | [], _, _, _, h, _ => absurd rfl h
  | [g], st, ps, l, _, hst => by
    have e : stepC ⟨st, ps, l⟩ .dot = some ⟨3, ps ++ [l], []⟩ := if_pos hst
    have e2 : runC ⟨st, ps, l⟩ (cksG [g]) = runC ⟨3, ps ++ [l], []⟩ (g.map .tok ++ []) := by
      show (stepC ⟨st, ps, l⟩ .dot).bind (fun s' => runC s' (g.map .tok)) = _
      rw [e, List.append_nil]; rfl
    rw [run_toks (by decide)] at e2
    exact ⟨_, _, e2, by simp⟩
  | g :: g' :: gs, st, ps, l, _, hst => by
    have e : stepC ⟨st, ps, l⟩ .opn = some ⟨1, ps ++ [l], []⟩ := if_pos hst
    have e2 : runC ⟨st, ps, l⟩ (cksG (g :: g' :: gs)) = runC ⟨1, ps ++ [l], []⟩ (g.map .tok ++ .cls :: cksG (g' :: gs)) := by
      show (stepC ⟨st, ps, l⟩ .opn).bind (fun s' => runC s' (g.map .tok ++ .cls :: cksG (g' :: gs))) = _
      rw [e]; rfl
    rw [run_toks (by decide)] at e2
    have e3 : runC ⟨1, ps ++ [l], [] ++ g.map chS⟩ (.cls :: cksG (g' :: gs)) = runC ⟨2, ps ++ [l], g.map chS⟩ (cksG (g' :: gs)) := rfl
    rw [e3] at e2
    obtain ⟨ps', l', h1, h2⟩ := run_G (g' :: gs) 2 (ps ++ [l]) (g.map chS) (by simp) (.inr rfl)
    exact ⟨ps', l', e2.trans h1, by rw [h2]; simp⟩
theorem run_all (ts : List Tk) : ∃ st ps l, runC ⟨0, [], []⟩ (cks ts) = some ⟨st, ps, l⟩ ∧ (st = 0 ∨ st = 3) ∧ ps ++ [l] = piecesOf ts := by
  unfold cks piecesOf
  rw [run_toks (by decide)]
  cases h : (grpS ts).2 with
  | nil => exact ⟨0, [], _, rfl, .inl rfl, by simp⟩
  | cons g gs =>
    obtain ⟨ps', l', h1, h2⟩ := run_G (g :: gs) 0 [] ([] ++ (grpS ts).1.map chS) (by simp) (.inl rfl)
    exact ⟨3, ps', l', h1, .inr rfl, by rw [h2]; simp⟩
theorem runC_app (a b : List Ck) : ∀ s : PSt, runC s (a ++ b) = (runC s a).bind fun s' => runC s' b := by
  induction a with
  | nil => intro s; rfl
  | cons c a ih =>
    intro s
    show (stepC s c).bind (fun s' => runC s' (a ++ b)) = ((stepC s c).bind fun s' => runC s' a).bind _
    cases stepC s c with
    | none => rfl
    | some s' => exact ih s'
theorem outS_ok {ts : List Tk} (h : ∀ t ∈ ts, okTk t) : ∀ s, some s ∈ outS ts → okS s := by
  have key : ∀ (ts : List Tk) (acc : List (Option Sg)), (∀ t ∈ ts, okTk t) → (∀ s, some s ∈ acc → okS s) → ∀ s, some s ∈ ts.foldl keepTk acc → okS s := by
    intro ts
    induction ts with
    | nil => intro acc _ h2 s hs; exact h2 s hs
    | cons t ts ih =>
      intro acc h1 h2 s hs
      refine ih (keepTk acc t) (fun u hu => h1 u (List.mem_cons_of_mem _ hu)) ?_ s hs
      intro u hu
      have ht := h1 t (List.mem_cons_self ..)
      cases t with
      | star =>
        have hu' : some u ∈ (if acc.getLast?.map Option.isNone = some true then acc else acc ++ [none]) := hu
        split at hu'
        · exact h2 u hu'
        · rcases List.mem_append.mp hu' with h | h
          · exact h2 u h
          · rcases List.mem_singleton.mp h
      | lit c =>
        rcases List.mem_append.mp (show some u ∈ acc ++ [some (.lit c)] from hu) with h | h
        · exact h2 u h
        · have := List.mem_singleton.mp h
          cases this; exact ht
      | brk c =>
        rcases List.mem_append.mp (show some u ∈ acc ++ [some (.brk c)] from hu) with h | h
        · exact h2 u h
        · have := List.mem_singleton.mp h
          cases this; exact ht
  exact key ts [] h (fun s hs => by cases hs)
theorem splitS_ok : ∀ {os : List (Option Sg)}, (∀ s, some s ∈ os → okS s) → (∀ s ∈ (splitS os).1, okS s) ∧ ∀ g ∈ (splitS os).2, ∀ s ∈ g, okS s
  | [], _ => ⟨fun s h => (by cases h), fun g h => (by cases h)⟩
  | none :: r, h => by
    have ih := splitS_ok (os := r) fun s hs => h s (List.mem_cons_of_mem _ hs)
    refine ⟨fun s hs => (by cases hs), fun g hg => ?_⟩
    rcases List.mem_cons.mp (show g ∈ (splitS r).1 :: (splitS r).2 from hg) with rfl | hg
    · exact ih.1
    · exact ih.2 g hg
  | some x :: r, h => by
    have ih := splitS_ok (os := r) fun s hs => h s (List.mem_cons_of_mem _ hs)
    refine ⟨fun s hs => ?_, ih.2⟩
    rcases List.mem_cons.mp (show s ∈ x :: (splitS r).1 from hs) with rfl | hs
    · exact h _ (List.mem_cons_self ..)
    · exact ih.1 s hs
theorem cksG_ok : ∀ {gs : List (List Sg)}, (∀ g ∈ gs, ∀ s ∈ g, okS s) → ∀ c ∈ cksG gs, okCk c
  | [], _, c, hc => by cases hc
  | [g], h, c, hc => by
    rcases List.mem_cons.mp (show c ∈ Ck.dot :: g.map .tok from hc) with rfl | hc
    · trivial
    · obtain ⟨s, hs, rfl⟩ := List.mem_map.mp hc
      exact h g (List.mem_cons_self ..) s hs
  | g :: g' :: gs, h, c, hc => by
    rcases List.mem_cons.mp (show c ∈ Ck.opn :: (g.map .tok ++ .cls :: cksG (g' :: gs)) from hc) with rfl | hc
    · trivial
    rcases List.mem_append.mp hc with hc | hc
    · obtain ⟨s, hs, rfl⟩ := List.mem_map.mp hc
      exact h g (List.mem_cons_self ..) s hs
    rcases List.mem_cons.mp hc with rfl | hc
    · trivial
    · exact cksG_ok (fun g hg => h g (List.mem_cons_of_mem _ hg)) c hc
theorem cks_ok {ts : List Tk} (h : ∀ t ∈ ts, okTk t) : ∀ c ∈ cks ts, okCk c := by
  have hs := splitS_ok (outS_ok h)
  intro c hc
  rcases List.mem_append.mp hc with hc | hc
  · obtain ⟨s, hs', rfl⟩ := List.mem_map.mp hc
    exact hs.1 s hs'
  · exact cksG_ok hs.2 c hc
theorem ckTxt_pos (c : Ck) : 1 ≤ (ckTxt c).length := by
  cases c with
  | tok s =>
    cases s with
    | lit c => show 1 ≤ (escRe c).length; unfold escRe; split <;> simp
    | brk c => show 1 ≤ (brkRe c).length; unfold brkRe; split <;> simp
  | opn => decide
  | cls => decide
  | dot => decide
end
section
/-- the told text, cut at one chunk -/
noncomputable def ToldAt (x : List Nat) (pre : List Ck) (c : Ck) (post : List Ck) : Prop := x = [40, 63, 115, 58] ++ txtC (pre ++ c :: post) ++ [41, 92, 90]
theorem told_drop {x : List Nat} {pre post : List Ck} {c : Ck} (h : ToldAt x pre c post) (a : Nat) (ha : a ≤ (ckTxt c).length) : x.drop (4 + (txtC pre).length + a) = (ckTxt c).drop a ++ (txtC post ++ [41, 92, 90]) := by
  have e : x = ([40, 63, 115, 58] ++ txtC pre) ++ (ckTxt c ++ (txtC post ++ [41, 92, 90])) := by
    unfold ToldAt at h
    rw [h, txtC_app, txtC_cons]; simp
  have hl : ([40, 63, 115, 58] ++ txtC pre).length = 4 + (txtC pre).length := by simp; lia
  rw [e, ← List.drop_drop, ← hl, List.drop_left, List.drop_append_of_le_length ha]
theorem told_len2 {x : List Nat} {pre post : List Ck} {c : Ck} (h : ToldAt x pre c post) : x.length = 4 + (txtC pre).length + (ckTxt c).length + (txtC post).length + 3 := by
  unfold ToldAt at h
  rw [h, txtC_app, txtC_cons]; simp; lia
theorem told_at {x : List Nat} {pre post : List Ck} {c : Ck} (h : ToldAt x pre c post) (j : Nat) (hj : j < (ckTxt c).length) {k : Int} (hk : k = ((4 + (txtC pre).length : Nat) : Int) + (j : Int)) {d : Nat} (hd : (ckTxt c)[j]? = some d) : (S x).cps.toList[k.toNat]? = some d := by
  have h1 := told_drop h j (by lia)
  have h2 := congrArg (fun l : List Nat => l[0]?) h1
  rw [List.getElem?_drop, List.getElem?_append_left (by rw [List.length_drop]; lia), List.getElem?_drop, Nat.add_zero, Nat.add_zero, hd] at h2
  rw [S_cps, show k.toNat = 4 + (txtC pre).length + j by lia]
  exact h2
theorem told_cut {x : List Nat} {pre post : List Ck} {c : Ck} (h : ToldAt x pre c post) {a b : Nat} (hab : a ≤ b) (hb : b ≤ (ckTxt c).length) {k l : Int} (hk : k = ((4 + (txtC pre).length : Nat) : Int) + (a : Int)) (hl : l = ((4 + (txtC pre).length : Nat) : Int) + (b : Int)) : Txt.slice (S x) (some k) (some l) = S (((ckTxt c).drop a).take (b - a)) := by
  rw [slice_cut _ (by lia) (by lia), S_cps]
  unfold cut
  rw [show k.toNat = 4 + (txtC pre).length + a by lia, show (l - k).toNat = b - a by lia, told_drop h a (by lia), List.take_append_of_le_length (by rw [List.length_drop]; lia)]
theorem told_find {x : List Nat} {pre post : List Ck} {c : Nat} (h : ToldAt x pre (.tok (.brk c)) post) (hc : c ≠ 93) {k : Int} (hk : k = ((4 + (txtC pre).length : Nat) : Int) + 2) : findL (S x).cps.toList (S [93]).cps.toList k.toNat = some (4 + (txtC pre).length + ((brkRe c).length - 1)) := by
  rw [S_cps, S_cps, show k.toNat = 4 + (txtC pre).length + 2 by lia]
  have hlen := told_len2 h
  have hat : ∀ j d, (brkRe c)[j]? = some d → x[4 + (txtC pre).length + j]? = some d := by
    intro j d hd
    have hj : j < (ckTxt (.tok (.brk c))).length := (List.getElem?_eq_some_iff.mp hd).1
    have := told_at h j hj (k := ((4 + (txtC pre).length : Nat) : Int) + (j : Int)) rfl hd
    rwa [S_cps, show (((4 + (txtC pre).length : Nat) : Int) + (j : Int)).toNat = 4 + (txtC pre).length + j by lia] at this
  have one : ∀ i, atL x [93] i = (x[i]? == some 93) := by
    intro i
    unfold atL
    by_cases hi : i < x.length
    · rw [decide_eq_true (show i + ([93] : List Nat).length ≤ x.length from hi), Bool.true_and]
      show ((x.drop i).take 1 == [93]) = _
      rw [List.drop_eq_getElem_cons hi, List.getElem?_eq_getElem hi]
      show ([x[i]] == [93]) = (some x[i] == some 93)
      rw [Bool.eq_iff_iff, beq_iff_eq, beq_iff_eq]
      constructor
      · intro h; injection h with h _; rw [h]
      · intro h; injection h with h; rw [h]
    · rw [decide_eq_false (show ¬ i + ([93] : List Nat).length ≤ x.length from hi), Bool.false_and, List.getElem?_eq_none (by lia)]
      rfl
  have hckl : (ckTxt (.tok (.brk c))).length = (brkRe c).length := rfl
  rw [hckl] at hlen
  unfold findL
  by_cases h91 : c = 91
  · subst h91
    have e3 : (brkRe 91).length = 4 := rfl
    rw [e3] at hlen ⊢
    have a1 : atL x [93] (4 + (txtC pre).length + 2) = false := by rw [one, hat 2 91 rfl]; rfl
    have a2 : atL x [93] (4 + (txtC pre).length + 2 + 1) = true := by rw [one, show 4 + (txtC pre).length + 2 + 1 = 4 + (txtC pre).length + 3 by lia, hat 3 93 rfl]; rfl
    obtain ⟨n, hn⟩ : ∃ n, x.length + 1 - (4 + (txtC pre).length + 2) = n + 2 := ⟨x.length + 1 - (4 + (txtC pre).length + 2) - 2, by lia⟩
    rw [hn, List.range'_succ, List.find?_cons, a1, List.range'_succ, List.find?_cons, a2]
  · have e0 : brkRe c = [91, c, 93] := if_neg h91
    have e3 : (brkRe c).length = 3 := by rw [e0]; rfl
    rw [e3] at hlen ⊢
    have a2 : atL x [93] (4 + (txtC pre).length + 2) = true := by rw [one, hat 2 93 (by rw [e0]; rfl)]; rfl
    obtain ⟨n, hn⟩ : ∃ n, x.length + 1 - (4 + (txtC pre).length + 2) = n + 1 := ⟨x.length + 1 - (4 + (txtC pre).length + 2) - 1, by lia⟩
    rw [hn, List.range'_succ, List.find?_cons, a2]
end
section
open PySem.Calls PySem.Spec
local macro_rules | `(tactic| walk_at "my g") => `(tactic| ((fail_if_success (with_reducible show wpAny _ _ _ (Cont _) _ _)); refine genQ ?_; intro Q' hQ'))
local macro_rules | `(tactic| walk_at "isTrue Compare") => `(tactic| walk_at "my g")
local macro_rules | `(tactic| walk_at "isTrue BoolOp") => `(tactic| walk_at "my g")
local macro_rules | `(tactic| walk_at "execs cons") => `(tactic| ((with_reducible show wpAny _ _ (execs (Stmt.While _ _ _ _ :: _) _) _ _ _); (refine Pause.out ?_)))
theorem ne_known {prog : Program} {w : World} {A : Around} {E : Value → Shared → Prop} {s : Shared} {x y : Str} {t u : Tok} {b : Bool} {Q : Value → Shared → Prop} (hb : (x != y) = b) (h : Q (.bool b) s) : wpAny (model prog w) A (compareOp .NotEq (.str x t) (.str y u)) Q E s := by
  subst hb
  exact ne_str h
local macro_rules | `(tactic| walk_at "compareOp Eq str str") => `(tactic| refine PauseK.o 0 ?_)
local macro_rules | `(tactic| walk_at "compareOp NotEq str str") => `(tactic| refine PauseK.o 1 ?_)
local macro_rules | `(tactic| walk_at "subscriptTail Name Name str int") => `(tactic| refine PauseK.o 2 ?_)
local macro_rules | `(tactic| walk_at "getItem ref int") => `(tactic| refine PauseK.o 3 ?_)
local macro_rules | `(tactic| walk_at "setItem ref int str") => `(tactic| refine PauseK.o 4 ?_)
local macro_rules | `(tactic| walk_at "call builtin:list.append") => `(tactic| refine PauseK.o 5 ?_)
local macro_rules | `(tactic| walk_at "inplaceOp Add str str") => `(tactic| refine PauseK.o 6 ?_)
local macro_rules | `(tactic| walk_at "call builtin:str.find") => `(tactic| refine PauseK.o 7 ?_)
local macro_rules | `(tactic| walk_at "compareOp In str str") => `(tactic| refine PauseK.o 8 ?_)
theorem sg_ne {c d : Nat} {y : Str} (hy : y = S [d]) (h : c ≠ d) : (S [c] == y) = false := by
  rw [hy]; exact beq_false_of_ne fun e => h (by have := S_inj e; simpa using this)
theorem eqi_known {prog : Program} {w : World} {A : Around} {E : Value → Shared → Prop} {s : Shared} {a b : Int} {t u : Tok} {bb : Bool} {Q : Value → Shared → Prop} (hb : decide (a = b) = bb) (h : Q (.bool bb) s) : wpAny (model prog w) A (compareOp .Eq (.int a t) (.int b u)) Q E s := by
  subst hb
  exact eq_int h
local macro_rules | `(tactic| walk_at "compareOp Eq int int") => `(tactic| (k_here; (refine' eqi_known ‹_› ?_); walk_at "my d"))
theorem run_len : ∀ (cs : List Ck) (s s' : PSt), runC s cs = some s' → s'.ps.length + s'.l.length ≤ s.ps.length + s.l.length + (txtC cs).length
  | [], s, s', h => by cases h; simp [txtC]
  | c :: cs, s, s', h => by
    have h' : (stepC s c).bind (fun s' => runC s' cs) = some s' := h
    cases hs : stepC s c with
    | none => rw [hs] at h'; cases h'
    | some s2 =>
      rw [hs] at h'
      have ih := run_len cs s2 s' h'
      have hp := ckTxt_pos c
      rw [txtC_cons, List.length_append]
      have h2 : s2.ps.length + s2.l.length ≤ s.ps.length + s.l.length + 1 := by
        cases c with
        | tok x =>
          have e : (if s.st = 2 then none else some (⟨s.st, s.ps, s.l ++ [chS x]⟩ : PSt)) = some s2 := hs
          split at e
          · cases e
          · cases e; simp; lia
        | opn =>
          have e : (if s.st = 0 ∨ s.st = 2 then some (⟨1, s.ps ++ [s.l], []⟩ : PSt) else none) = some s2 := hs
          split at e
          · cases e; simp
          · cases e
        | cls =>
          have e : (if s.st = 1 then some (⟨2, s.ps, s.l⟩ : PSt) else none) = some s2 := hs
          split at e
          · cases e; simp
          · cases e
        | dot =>
          have e : (if s.st = 0 ∨ s.st = 2 then some (⟨3, s.ps ++ [s.l], []⟩ : PSt) else none) = some s2 := hs
          split at e
          · cases e; simp
          · cases e
      lia
theorem lit_plain {c : Nat} (h : c ∉ specials) : c ≠ 40 ∧ c ≠ 46 ∧ c ≠ 41 ∧ c ≠ 92 ∧ c ≠ 91 ∧ (!(Builtin.Str.occurrences (Str.ofString "().*?+{}|^$") (S [c]) 0 (Str.ofString "().*?+{}|^$").length 1).isEmpty) = false := by
  have key : ∀ d, d ∈ specials → c ≠ d := fun d hd e => h (e ▸ hd)
  refine ⟨key 40 (by decide), key 46 (by decide), key 41 (by decide), key 92 (by decide), key 91 (by decide), ?_⟩
  rw [in_signs, decide_eq_false_iff_not]
  intro hm
  rw [show (Str.ofString "().*?+{}|^$").cps.toList = [40, 41, 46, 42, 63, 43, 123, 125, 124, 94, 36] by decide +kernel] at hm
  have : ∀ d, d ∈ [40, 41, 46, 42, 63, 43, 123, 125, 124, 94, 36] → d ∈ specials := by decide
  exact h (this c hm)
theorem slice_neg (y : Str) {k : Nat} (hk : 0 < k) (h : k ≤ y.cps.toList.length) : Txt.slice y (some (-(k : Int))) none = S (y.cps.toList.drop (y.cps.toList.length - k)) := by
  have hl : y.cps.toList.length = y.length := by simp [Str.length]
  have e : Txt.slice y (some (-(k : Int))) none = Txt.slice y (some ((y.length : Int) - (k : Int))) none := by
    rw [slice_eq, slice_eq]
    unfold StrLaws.sliceText
    have : Builtin.Str.strSliceIndices (some (-(k : Int))) none 1 y.length = Builtin.Str.strSliceIndices (some ((y.length : Int) - (k : Int))) none 1 y.length := by
      have a1 : (-(k : Int)) < 0 := by lia
      have a2 : ¬ ((y.length : Int) - (k : Int)) < 0 := by lia
      simp only [Builtin.Str.strSliceIndices, if_pos a1, if_neg a2, show (1 : Int) > 0 by decide, if_true]
      have e9 : -(k : Int) + (y.length : Int) = (y.length : Int) - (k : Int) := by lia
      rw [e9]
    rw [this]
  rw [e, slice_from_cut _ (by lia)]
  congr 2
  lia
structure S170 where
  pre : List Ck
  st : Nat
  us : List Value
  lx : Str
  tl : Tok
  n : Nat
  ti : Tok
  ts : Tok
theorem end170 {lP : Addr} {ck pre post : List Ck} {c : Ck} {g : Heap} {L : Addr} {s : Shared} {h' : Heap} {tk n n' : Nat} {us us' : List Value} {lx lx' : Str} {tl tl' ti ti' ts ts' : Tok} {m₀ m' : Str → Option Value} {news all : List (Addr × Obj)} {k : Int} {st st' : Nat} {ps ps' : List (List Nat)} {l l' : List Nat}
  (hpost : ck = pre ++ c :: post) (hrn : runC ⟨0, [], []⟩ pre = some ⟨st, ps, l⟩) (hs' : stepC ⟨st, ps, l⟩ c = some ⟨st', ps', l'⟩) (hk9 : k = ((4 + (txtC pre).length : Nat) : Int) + ((ckTxt c).length : Int))
  (F : Fr g L h' m') (N : News g L h' all) (hN : (lP, listOf (us' ++ [Value.str lx' tl']).toArray n') ∈ all) (hN2 : ∀ p ∈ news, p ∈ all) (hps : Strs ps' us') (hlx : lx' = S l')
  (hki : m' (Str.ofString "i") = some (.int k ti')) (hks : m' (Str.ofString "state") = some (.int (st' : Int) ts'))
  (hr : ∀ z, (∀ p ∈ [(Str.ofString "i", Value.int k ti'), (Str.ofString "state", Value.int (st' : Int) ts')], z ≠ p.1) → [Str.ofString "sign", Str.ofString "end"].contains z = false → m' z = m₀ z) :
  KswEnd (σ := S170) g L s (fun c => (lP, listOf (c.us ++ [Value.str c.lx c.tl]).toArray c.n) :: news) (fun c => [(Str.ofString "i", Value.int ((4 + (txtC c.pre).length : Nat) : Int) c.ti), (Str.ofString "state", Value.int (c.st : Int) c.ts)]) (fun _ => True)
    [Str.ofString "sign", Str.ofString "end"] m₀
    (fun c => ∃ post ps l, ck = c.pre ++ post ∧ runC ⟨0, [], []⟩ c.pre = some ⟨c.st, ps, l⟩ ∧ Strs ps c.us ∧ c.lx = S l) (fun c => ck.length - c.pre.length) ⟨pre, st, us, lx, tl, n, ti, ts⟩ { s with heap := h', toks := tk } := by
  have e : ((4 + (txtC (pre ++ [c])).length : Nat) : Int) = k := by
    rw [hk9, txtC_app, List.length_append, txtC_cons]
    simp [txtC]; lia
  refine ksw_end ⟨pre ++ [c], st', us', lx', tl', n', ti', ts'⟩ F N ?_ trivial ?_ ?_ ⟨post, ps', l', by rw [hpost]; simp, ?_, hps, hlx⟩ ?_
  · intro p hp
    dsimp only at hp
    rcases List.mem_cons.mp hp with rfl | hp
    · exact hN
    · exact hN2 p hp
  · intro p hp
    dsimp only at hp
    rcases List.mem_cons.mp hp with rfl | hp
    · dsimp only; rw [e]; exact hki
    · rcases List.mem_singleton.mp hp with rfl
      exact hks
  · intro z h1 h2
    refine hr z (fun p hp => ?_) h2
    rcases List.mem_cons.mp hp with rfl | hp
    · exact h1 (Str.ofString "i", Value.int ((4 + (txtC (pre ++ [c])).length : Nat) : Int) ti') (List.mem_cons_self ..)
    · rcases List.mem_singleton.mp hp with rfl
      exact h1 (Str.ofString "state", Value.int (st' : Int) ts') (List.mem_cons_of_mem _ (List.mem_cons_self ..))
  · show runC _ (pre ++ [c]) = _
    rw [runC_app, hrn]
    show (stepC _ c).bind (fun s' => runC s' []) = _
    rw [hs']; rfl
  · dsimp only
    rw [hpost]
    simp only [List.length_append, List.length_cons, List.length_nil]
    lia
set_option linter.unusedVariables false in
theorem c170 (w : World) (p : Program) (loose : List Str) (mean : ExcName → Option Value) (mg mb : Str → Option Value) (news : List (Addr × Obj)) (x : List Nat) (t : Tok) (ck : List Ck) (r : PSt)
   (hx : x = [40, 63, 115, 58] ++ txtC ck ++ [41, 92, 90]) (hok : ∀ c ∈ ck, okCk c) (hl : x.length ≤ 200000) (hrun : runC ⟨0, [], []⟩ ck = some r) (hst : r.st = 0 ∨ r.st = 3) :
  CallOf w p loose mean mg mb 170 news [.str (S x) t] (fun v add news => ∃ lP us n, v = .ref lP ∧ add = [(lP, listOf us.toArray n)] ∧ Strs (r.ps ++ [r.l]) us ∧ ∀ q ∈ news, q.1 < lP) 2 := by
  w_top off
  intro dp un gd cn cs a ccd cl outer A₀ base h₀ L m s Q E B F X N T hk hd hu hret
  have hSx : (S x).length = x.length := S_len x
  have g1 : (Txt.slice (S x) none (some 4) != Str.ofString "(?s:") = false := by
    rw [slice_to_cut _ (by decide), S_cps, hx, show Str.ofString "(?s:" = S [40, 63, 115, 58] by decide +kernel]
    simp
  have g2 : (Txt.slice (S x) (some (-3)) none != Str.ofString ")\\Z") = false := by
    have e : Txt.slice (S x) (some (-3)) none = S [41, 92, 90] := by
      show Txt.slice (S x) (some (-((3 : Nat) : Int))) none = _
      rw [slice_neg (S x) (by decide : 0 < 3) (show 3 ≤ (S x).cps.toList.length by rw [S_cps, hx]; simp), S_cps, hx]
      rw [List.length_append, show ([41, 92, 90] : List Nat).length = 3 from rfl, Nat.add_sub_cancel, List.drop_left]
    rw [e]
    decide +kernel
  refine wpAny_call ?_
  k_dflt cell_enter
  (k_steps; repeat' ((first | ((with_reducible refine PauseK.mk (n := 0) ?_); with_reducible (k_here; (refine' eq_known ‹_› ?_); (try dsimp only))) | ((with_reducible refine PauseK.mk (n := 1) ?_); with_reducible (k_here; (refine' ne_known ‹_› ?_); (try dsimp only))) | ((with_reducible refine PauseK.mk (n := 2) ?_); with_reducible (k_here; k_dflt (refine' idx_K2 (by first | assumption | lia) ‹_› (by first | assumption | lia) ?_ (by with_unfolding_all rfl) (by (intro _; with_unfolding_all rfl))); (try dsimp only))) | ((with_reducible refine PauseK.mk (n := 3) ?_); with_reducible (k_here; k_dflt (refine' get_last_K ‹_› (by first | k_mem | kst_mem) (by first | assumption | lia) ?_); (try dsimp only))) | ((with_reducible refine PauseK.mk (n := 4) ?_); with_reducible (k_here; k_dflt (refine' set_last_K ‹_› (by first | assumption | exact ntl ‹_› | exact ntl (ntl ‹_›)) ‹_› (by first | assumption | lia) ?_); ((rename Fr _ _ _ _ => lF'); (rename News _ _ _ _ => lN'); clear lF' lN'; intros; (try dsimp only)))) | ((with_reducible refine PauseK.mk (n := 5) ?_); with_reducible (k_here; k_dflt (refine' app_K ‹_› (by first | assumption | exact ntl ‹_› | exact ntl (ntl ‹_›)) ‹_› (by first | assumption | lia) ?_); ((rename Fr _ _ _ _ => lF'); (rename News _ _ _ _ => lN'); clear lF' lN'; intros; (try dsimp only)))) | ((with_reducible refine PauseK.mk (n := 6) ?_); with_reducible (k_here; (refine' iadd_K (by first | assumption | lia) ?_); (intros; (try dsimp only)))) | ((with_reducible refine PauseK.mk (n := 7) ?_); with_reducible (k_here; k_dflt (refine' find_known (by first | assumption | lia) ‹_› ?_); (try dsimp only))) | ((with_reducible refine PauseK.mk (n := 8) ?_); with_reducible (k_here; (refine' in_known ‹_› ?_); (try dsimp only)))); k_steps))
  rename_i lP h2 q1 h3 h4 h5 F1 N1
  clear g1 g2
  refine Pause.mk ?_
  refine wpAny_execs_cons ?_
  with_unfolding_all refine ksw_while (σ := S170) (fun c => (lP, listOf (c.us ++ [Value.str c.lx c.tl]).toArray c.n) :: news) (fun c => [(Str.ofString "i", Value.int ((4 + (txtC c.pre).length : Nat) : Int) c.ti), (Str.ofString "state", Value.int (c.st : Int) c.ts)]) (fun _ => True) [Str.ofString "sign", Str.ofString "end"] (fun c => ∃ post ps l, ck = c.pre ++ post ∧ runC ⟨0, [], []⟩ c.pre = some ⟨c.st, ps, l⟩ ∧ Strs ps c.us ∧ c.lx = S l) (fun c => ck.length - c.pre.length) ⟨[], 0, [], Str.ofString "", _, 0, _, _⟩ F1 N1 trivial (by kst_all) ⟨ck, [], [], rfl, rfl, .nil, o_empty⟩ ?_
  rintro ⟨pre, st, us, lx, tl, n9, ti, ts⟩ u h tk _ ⟨post, ps, l, hpost, hrn, hps, hlx⟩ F2 N2
  dsimp only at hpost hrn hps hlx F2 N2
  subst hlx
  cases post with
  | nil =>
    rw [List.append_nil] at hpost
    subst hpost
    rw [hrn] at hrun
    have hr9 : (⟨st, ps, l⟩ : PSt) = r := Option.some.inj hrun
    subst hr9
    dsimp only at hst
    have hlen : x.length = 4 + (txtC ck).length + 3 := by rw [hx]; simp; lia
    rcases hst with rfl | rfl
    all_goals (
      (k_steps; repeat' ((first | ((with_reducible refine PauseK.mk (n := 0) ?_); with_reducible (k_here; (refine' eq_known ‹_› ?_); (try dsimp only))) | ((with_reducible refine PauseK.mk (n := 1) ?_); with_reducible (k_here; (refine' ne_known ‹_› ?_); (try dsimp only))) | ((with_reducible refine PauseK.mk (n := 2) ?_); with_reducible (k_here; k_dflt (refine' idx_K2 (by first | assumption | lia) ‹_› (by first | assumption | lia) ?_ (by with_unfolding_all rfl) (by (intro _; with_unfolding_all rfl))); (try dsimp only))) | ((with_reducible refine PauseK.mk (n := 3) ?_); with_reducible (k_here; k_dflt (refine' get_last_K ‹_› (by first | k_mem | kst_mem) (by first | assumption | lia) ?_); (try dsimp only))) | ((with_reducible refine PauseK.mk (n := 4) ?_); with_reducible (k_here; k_dflt (refine' set_last_K ‹_› (by first | assumption | exact ntl ‹_› | exact ntl (ntl ‹_›)) ‹_› (by first | assumption | lia) ?_); ((rename Fr _ _ _ _ => lF'); (rename News _ _ _ _ => lN'); clear lF' lN'; intros; (try dsimp only)))) | ((with_reducible refine PauseK.mk (n := 5) ?_); with_reducible (k_here; k_dflt (refine' app_K ‹_› (by first | assumption | exact ntl ‹_› | exact ntl (ntl ‹_›)) ‹_› (by first | assumption | lia) ?_); ((rename Fr _ _ _ _ => lF'); (rename News _ _ _ _ => lN'); clear lF' lN'; intros; (try dsimp only)))) | ((with_reducible refine PauseK.mk (n := 6) ?_); with_reducible (k_here; (refine' iadd_K (by first | assumption | lia) ?_); (intros; (try dsimp only)))) | ((with_reducible refine PauseK.mk (n := 7) ?_); with_reducible (k_here; k_dflt (refine' find_known (by first | assumption | lia) ‹_› ?_); (try dsimp only))) | ((with_reducible refine PauseK.mk (n := 8) ?_); with_reducible (k_here; (refine' in_known ‹_› ?_); (try dsimp only)))); k_steps))
      · rename News h₀ _ _ _ => kN
        refine hret (.ref lP) [(lP, listOf (us ++ [Value.str (S l) tl]).toArray n9)] _ _ ⟨lP, us ++ [Value.str (S l) tl], n9, rfl, rfl, hps.append (.cons _ _ .nil), q1⟩ (by assumption) (cb_drop kN fun p hp => ?_)
        simp only [List.cons_append, List.nil_append] at hp
        rcases List.mem_cons.mp hp with rfl | hp
        · k_mem
        · simp [hp])
  | cons c post =>
    have hnq : ∀ p ∈ news, p.1 ≠ lP := fun p hp => Nat.ne_of_lt (q1 p hp)
    have hT : ToldAt x pre c post := by unfold ToldAt; rw [hx, hpost]
    have hlen := told_len2 hT
    have hpos := ckTxt_pos c
    have hul : us.length ≤ 200000 := by
      have h1 := run_len pre _ _ hrn
      rw [hps.len]
      dsimp only at h1
      simp at h1
      lia
    have hsn : (us ++ [Value.str (S l) tl]).length ≤ 200001 := by rw [List.length_append, List.length_singleton]; lia
    have hokc := hok c (by rw [hpost]; simp)
    have hstep : ∃ s', stepC ⟨st, ps, l⟩ c = some s' := by
      rw [hpost, runC_app, hrn] at hrun
      have e : (some (⟨st, ps, l⟩ : PSt)).bind (fun s' => runC s' (c :: post)) = (stepC ⟨st, ps, l⟩ c).bind fun s' => runC s' post := rfl
      rw [e] at hrun
      cases hs : stepC ⟨st, ps, l⟩ c with
      | none => rw [hs] at hrun; cases hrun
      | some s' => exact ⟨s', rfl⟩
    cases c with
    | opn =>
      have hx0 := told_at hT 0 (by decide) (k := ((4 + (txtC pre).length : Nat) : Int)) (by lia) (d := 40) rfl
      have e1 : (S [40] == Str.ofString "(") = true := by decide +kernel
      have e2 : (Txt.slice (S x) (some ((4 + (txtC pre).length : Nat) : Int)) (some (((4 + (txtC pre).length : Nat) : Int) + 6)) == Str.ofString "(?>.*?") = true := by
        rw [told_cut hT (a := 0) (b := 6) (by decide) (by decide) (by lia) (by lia)]
        decide +kernel
      obtain ⟨s', hs'⟩ := hstep
      have hst2 : st = 0 ∨ st = 2 := by
        by_cases h : st = 0 ∨ st = 2
        · exact h
        · have : stepC ⟨st, ps, l⟩ .opn = none := if_neg h
          rw [this] at hs'; cases hs'
      rcases hst2 with rfl | rfl
      all_goals (
        (k_steps; repeat' ((first | ((with_reducible refine PauseK.mk (n := 0) ?_); with_reducible (k_here; (refine' eq_known ‹_› ?_); (try dsimp only))) | ((with_reducible refine PauseK.mk (n := 1) ?_); with_reducible (k_here; (refine' ne_known ‹_› ?_); (try dsimp only))) | ((with_reducible refine PauseK.mk (n := 2) ?_); with_reducible (k_here; k_dflt (refine' idx_K2 (by first | assumption | lia) ‹_› (by first | assumption | lia) ?_ (by with_unfolding_all rfl) (by (intro _; with_unfolding_all rfl))); (try dsimp only))) | ((with_reducible refine PauseK.mk (n := 3) ?_); with_reducible (k_here; k_dflt (refine' get_last_K ‹_› (by first | k_mem | kst_mem) (by first | assumption | lia) ?_); (try dsimp only))) | ((with_reducible refine PauseK.mk (n := 4) ?_); with_reducible (k_here; k_dflt (refine' set_last_K ‹_› (by first | assumption | exact ntl ‹_› | exact ntl (ntl ‹_›)) ‹_› (by first | assumption | lia) ?_); ((rename Fr _ _ _ _ => lF'); (rename News _ _ _ _ => lN'); clear lF' lN'; intros; (try dsimp only)))) | ((with_reducible refine PauseK.mk (n := 5) ?_); with_reducible (k_here; k_dflt (refine' app_K ‹_› (by first | assumption | exact ntl ‹_› | exact ntl (ntl ‹_›)) ‹_› (by first | assumption | lia) ?_); ((rename Fr _ _ _ _ => lF'); (rename News _ _ _ _ => lN'); clear lF' lN'; intros; (try dsimp only)))) | ((with_reducible refine PauseK.mk (n := 6) ?_); with_reducible (k_here; (refine' iadd_K (by first | assumption | lia) ?_); (intros; (try dsimp only)))) | ((with_reducible refine PauseK.mk (n := 7) ?_); with_reducible (k_here; k_dflt (refine' find_known (by first | assumption | lia) ‹_› ?_); (try dsimp only))) | ((with_reducible refine PauseK.mk (n := 8) ?_); with_reducible (k_here; (refine' in_known ‹_› ?_); (try dsimp only)))); k_steps))
        rename Fr _ _ _ _ => F9
        rename News _ _ _ _ => N9
        (refine end170 hpost hrn rfl ?_ F9 N9 (by k_mem) (fun p hp => by simp [hp]) (hps.append (.cons _ _ .nil)) o_empty (by with_unfolding_all rfl) (by with_unfolding_all rfl) (by walk_at "my same2"); (show _ = _ + ((6 : Nat) : Int)); lia))
    | dot =>
      have hx0 := told_at hT 0 (by decide) (k := ((4 + (txtC pre).length : Nat) : Int)) (by lia) (d := 46) rfl
      have e1 : (S [46] == Str.ofString "(") = false := by decide +kernel
      have e3 : (S [46] == Str.ofString ".") = true := by decide +kernel
      have e2 : (Txt.slice (S x) (some ((4 + (txtC pre).length : Nat) : Int)) (some (((4 + (txtC pre).length : Nat) : Int) + 2)) == Str.ofString ".*") = true := by
        rw [told_cut hT (a := 0) (b := 2) (by decide) (by decide) (by lia) (by lia)]
        decide +kernel
      obtain ⟨s', hs'⟩ := hstep
      have hst2 : st = 0 ∨ st = 2 := by
        by_cases h : st = 0 ∨ st = 2
        · exact h
        · have : stepC ⟨st, ps, l⟩ .dot = none := if_neg h
          rw [this] at hs'; cases hs'
      rcases hst2 with rfl | rfl
      all_goals (
        (k_steps; repeat' ((first | ((with_reducible refine PauseK.mk (n := 0) ?_); with_reducible (k_here; (refine' eq_known ‹_› ?_); (try dsimp only))) | ((with_reducible refine PauseK.mk (n := 1) ?_); with_reducible (k_here; (refine' ne_known ‹_› ?_); (try dsimp only))) | ((with_reducible refine PauseK.mk (n := 2) ?_); with_reducible (k_here; k_dflt (refine' idx_K2 (by first | assumption | lia) ‹_› (by first | assumption | lia) ?_ (by with_unfolding_all rfl) (by (intro _; with_unfolding_all rfl))); (try dsimp only))) | ((with_reducible refine PauseK.mk (n := 3) ?_); with_reducible (k_here; k_dflt (refine' get_last_K ‹_› (by first | k_mem | kst_mem) (by first | assumption | lia) ?_); (try dsimp only))) | ((with_reducible refine PauseK.mk (n := 4) ?_); with_reducible (k_here; k_dflt (refine' set_last_K ‹_› (by first | assumption | exact ntl ‹_› | exact ntl (ntl ‹_›)) ‹_› (by first | assumption | lia) ?_); ((rename Fr _ _ _ _ => lF'); (rename News _ _ _ _ => lN'); clear lF' lN'; intros; (try dsimp only)))) | ((with_reducible refine PauseK.mk (n := 5) ?_); with_reducible (k_here; k_dflt (refine' app_K ‹_› (by first | assumption | exact ntl ‹_› | exact ntl (ntl ‹_›)) ‹_› (by first | assumption | lia) ?_); ((rename Fr _ _ _ _ => lF'); (rename News _ _ _ _ => lN'); clear lF' lN'; intros; (try dsimp only)))) | ((with_reducible refine PauseK.mk (n := 6) ?_); with_reducible (k_here; (refine' iadd_K (by first | assumption | lia) ?_); (intros; (try dsimp only)))) | ((with_reducible refine PauseK.mk (n := 7) ?_); with_reducible (k_here; k_dflt (refine' find_known (by first | assumption | lia) ‹_› ?_); (try dsimp only))) | ((with_reducible refine PauseK.mk (n := 8) ?_); with_reducible (k_here; (refine' in_known ‹_› ?_); (try dsimp only)))); k_steps))
        rename Fr _ _ _ _ => F9
        rename News _ _ _ _ => N9
        (refine end170 hpost hrn rfl ?_ F9 N9 (by k_mem) (fun p hp => by simp [hp]) (hps.append (.cons _ _ .nil)) o_empty (by with_unfolding_all rfl) (by with_unfolding_all rfl) (by walk_at "my same2"); (show _ = _ + ((2 : Nat) : Int)); lia))
    | cls =>
      have hx0 := told_at hT 0 (by decide) (k := ((4 + (txtC pre).length : Nat) : Int)) (by lia) (d := 41) rfl
      have e1 : (S [41] == Str.ofString "(") = false := by decide +kernel
      have e3 : (S [41] == Str.ofString ".") = false := by decide +kernel
      have e4 : (S [41] == Str.ofString ")") = true := by decide +kernel
      obtain ⟨s', hs'⟩ := hstep
      have hst2 : st = 1 := by
        by_cases h : st = 1
        · exact h
        · have : stepC ⟨st, ps, l⟩ .cls = none := if_neg h
          rw [this] at hs'; cases hs'
      subst hst2
      (k_steps; repeat' ((first | ((with_reducible refine PauseK.mk (n := 0) ?_); with_reducible (k_here; (refine' eq_known ‹_› ?_); (try dsimp only))) | ((with_reducible refine PauseK.mk (n := 1) ?_); with_reducible (k_here; (refine' ne_known ‹_› ?_); (try dsimp only))) | ((with_reducible refine PauseK.mk (n := 2) ?_); with_reducible (k_here; k_dflt (refine' idx_K2 (by first | assumption | lia) ‹_› (by first | assumption | lia) ?_ (by with_unfolding_all rfl) (by (intro _; with_unfolding_all rfl))); (try dsimp only))) | ((with_reducible refine PauseK.mk (n := 3) ?_); with_reducible (k_here; k_dflt (refine' get_last_K ‹_› (by first | k_mem | kst_mem) (by first | assumption | lia) ?_); (try dsimp only))) | ((with_reducible refine PauseK.mk (n := 4) ?_); with_reducible (k_here; k_dflt (refine' set_last_K ‹_› (by first | assumption | exact ntl ‹_› | exact ntl (ntl ‹_›)) ‹_› (by first | assumption | lia) ?_); ((rename Fr _ _ _ _ => lF'); (rename News _ _ _ _ => lN'); clear lF' lN'; intros; (try dsimp only)))) | ((with_reducible refine PauseK.mk (n := 5) ?_); with_reducible (k_here; k_dflt (refine' app_K ‹_› (by first | assumption | exact ntl ‹_› | exact ntl (ntl ‹_›)) ‹_› (by first | assumption | lia) ?_); ((rename Fr _ _ _ _ => lF'); (rename News _ _ _ _ => lN'); clear lF' lN'; intros; (try dsimp only)))) | ((with_reducible refine PauseK.mk (n := 6) ?_); with_reducible (k_here; (refine' iadd_K (by first | assumption | lia) ?_); (intros; (try dsimp only)))) | ((with_reducible refine PauseK.mk (n := 7) ?_); with_reducible (k_here; k_dflt (refine' find_known (by first | assumption | lia) ‹_› ?_); (try dsimp only))) | ((with_reducible refine PauseK.mk (n := 8) ?_); with_reducible (k_here; (refine' in_known ‹_› ?_); (try dsimp only)))); k_steps))
      rename Fr _ _ _ _ => F9
      rename News _ _ _ _ => N9
      (refine end170 hpost hrn rfl ?_ F9 N9 (by k_mem) (fun p hp => by simp [hp]) hps rfl (by with_unfolding_all rfl) (by with_unfolding_all rfl) (by walk_at "my same2"); (show _ = _ + ((1 : Nat) : Int)); lia)
    | tok sg =>
      obtain ⟨s', hs'⟩ := hstep
      have hst2 : ¬ st = 2 := by
        intro h
        have : stepC ⟨st, ps, l⟩ (.tok sg) = none := if_pos h
        rw [this] at hs'; cases hs'
      have hs9 : stepC ⟨st, ps, l⟩ (.tok sg) = some ⟨st, ps, l ++ [chS sg]⟩ := if_neg hst2
      have hst2i : decide ((st : Int) = 2) = false := decide_eq_false (by lia)
      have hsl : (S l).length ≤ 200000 := by rw [S_len]; have := run_len pre _ _ hrn; dsimp only at this; simp at this; lia
      cases sg with
      | brk c =>
        have hs1 : (S [c]).length = 1 := rfl
        have hc93 : c ≠ 93 := by
          rcases (hokc : c = 42 ∨ c = 63 ∨ c = 91) with rfl | rfl | rfl <;> decide
        have hfind := told_find hT hc93 (k := ((4 + (txtC pre).length : Nat) : Int) + 2) rfl
        have hck : ckTxt (.tok (.brk c)) = brkRe c := rfl
        have e1 : (S [91] == Str.ofString "(") = false := by decide +kernel
        have e3 : (S [91] == Str.ofString ".") = false := by decide +kernel
        have e4 : (S [91] == Str.ofString ")") = false := by decide +kernel
        have e5 : (!(Builtin.Str.occurrences (Str.ofString "().*?+{}|^$") (S [91]) 0 (Str.ofString "().*?+{}|^$").length 1).isEmpty) = false := by decide +kernel
        have e6 : (S [91] == Str.ofString "[") = true := by decide +kernel
        have o93 : Str.ofString "]" = S [93] := by decide +kernel
        obtain ⟨q, hq3, hq4, hxq, hcut, hmem⟩ : ∃ q, (brkRe c).length = q + 1 ∧ 2 ≤ q ∧ (brkRe c)[q - 1]? = some c ∧ (brkRe c)[0]? = some 91 ∧ ([Str.ofString "*", Str.ofString "?", Str.ofString "\\["].any fun y => y == S (((brkRe c).drop 1).take (q - 1))) = true := by
          rcases (hokc : c = 42 ∨ c = 63 ∨ c = 91) with rfl | rfl | rfl
          · exact ⟨2, rfl, by decide, rfl, rfl, by decide +kernel⟩
          · exact ⟨2, rfl, by decide, rfl, rfl, by decide +kernel⟩
          · exact ⟨3, rfl, by decide, rfl, rfl, by decide +kernel⟩
        have hx0 := told_at hT 0 (by rw [hck, hq3]; lia) (k := ((4 + (txtC pre).length : Nat) : Int)) (by lia) (d := 91) hcut
        have hx1 := told_at hT (q - 1) (by rw [hck, hq3]; lia) (k := ((4 + (txtC pre).length + q : Nat) : Int) - 1) (by lia) (d := c) hxq
        rw [hq3, Nat.add_sub_cancel] at hfind
        have hfd : (match findL (S x).cps.toList (Str.ofString "]").cps.toList (((4 + (txtC pre).length : Nat) : Int) + 2).toNat with | some k => (k : Int) | none => -1) = ((4 + (txtC pre).length + q : Nat) : Int) := by rw [o93, hfind]
        rw [hck, hq3] at hlen
        clear hcut
        have hsl9 := told_cut hT (a := 1) (b := q) (by lia) (by rw [hck, hq3]; lia) (k := ((4 + (txtC pre).length : Nat) : Int) + 1) (l := ((4 + (txtC pre).length + q : Nat) : Int)) (by lia) (by lia)
        rw [hck] at hsl9
        rw [← hsl9] at hmem
        clear hsl9
        (k_steps; repeat' ((first | ((with_reducible refine PauseK.mk (n := 0) ?_); with_reducible (k_here; (refine' eq_known ‹_› ?_); (try dsimp only))) | ((with_reducible refine PauseK.mk (n := 1) ?_); with_reducible (k_here; (refine' ne_known ‹_› ?_); (try dsimp only))) | ((with_reducible refine PauseK.mk (n := 2) ?_); with_reducible (k_here; k_dflt (refine' idx_K2 (by first | assumption | lia) ‹_› (by first | assumption | lia) ?_ (by with_unfolding_all rfl) (by (intro _; with_unfolding_all rfl))); (try dsimp only))) | ((with_reducible refine PauseK.mk (n := 3) ?_); with_reducible (k_here; k_dflt (refine' get_last_K ‹_› (by first | k_mem | kst_mem) (by first | assumption | lia) ?_); (try dsimp only))) | ((with_reducible refine PauseK.mk (n := 4) ?_); with_reducible (k_here; k_dflt (refine' set_last_K ‹_› (by first | assumption | exact ntl ‹_› | exact ntl (ntl ‹_›)) ‹_› (by first | assumption | lia) ?_); ((rename Fr _ _ _ _ => lF'); (rename News _ _ _ _ => lN'); clear lF' lN'; intros; (try dsimp only)))) | ((with_reducible refine PauseK.mk (n := 5) ?_); with_reducible (k_here; k_dflt (refine' app_K ‹_› (by first | assumption | exact ntl ‹_› | exact ntl (ntl ‹_›)) ‹_› (by first | assumption | lia) ?_); ((rename Fr _ _ _ _ => lF'); (rename News _ _ _ _ => lN'); clear lF' lN'; intros; (try dsimp only)))) | ((with_reducible refine PauseK.mk (n := 6) ?_); with_reducible (k_here; (refine' iadd_K (by first | assumption | lia) ?_); (intros; (try dsimp only)))) | ((with_reducible refine PauseK.mk (n := 7) ?_); with_reducible (k_here; k_dflt (refine' find_known (by first | assumption | lia) ‹_› ?_); (try dsimp only))) | ((with_reducible refine PauseK.mk (n := 8) ?_); with_reducible (k_here; (refine' in_known ‹_› ?_); (try dsimp only)))); k_steps))
        · rename Fr _ _ _ _ => F9
          rename News _ _ _ _ => N9
          refine end170 hpost hrn hs9 ?_ F9 N9 (by k_mem) (fun p hp => by simp [hp]) hps (by rw [item_S (by lia) hx1]; exact S_app _ _) (by with_unfolding_all rfl) (by with_unfolding_all rfl) (by walk_at "my same2")
          rw [hck, hq3]
          lia
      | lit c =>
        have hs1 : (S [c]).length = 1 := rfl
        by_cases hsp : c ∈ specials
        · have hck : ckTxt (.tok (.lit c)) = [92, c] := by show escRe c = _; unfold escRe; rw [if_pos hsp]
          have hx0 := told_at hT 0 (by rw [hck]; simp) (k := ((4 + (txtC pre).length : Nat) : Int)) (by lia) (d := 92) (by rw [hck]; rfl)
          have hx1 := told_at hT 1 (by rw [hck]; simp) (k := ((4 + (txtC pre).length : Nat) : Int) + 1) (by lia) (d := c) (by rw [hck]; rfl)
          have e1 : (S [92] == Str.ofString "(") = false := by decide +kernel
          have e3 : (S [92] == Str.ofString ".") = false := by decide +kernel
          have e4 : (S [92] == Str.ofString ")") = false := by decide +kernel
          have e5 : (!(Builtin.Str.occurrences (Str.ofString "().*?+{}|^$") (S [92]) 0 (Str.ofString "().*?+{}|^$").length 1).isEmpty) = false := by decide +kernel
          have e6 : (S [92] == Str.ofString "[") = false := by decide +kernel
          have e7 : (S [92] == Str.ofString "\\") = true := by decide +kernel
          rw [hck] at hlen
          simp only [List.length_cons, List.length_nil] at hlen
          (k_steps; repeat' ((first | ((with_reducible refine PauseK.mk (n := 0) ?_); with_reducible (k_here; (refine' eq_known ‹_› ?_); (try dsimp only))) | ((with_reducible refine PauseK.mk (n := 1) ?_); with_reducible (k_here; (refine' ne_known ‹_› ?_); (try dsimp only))) | ((with_reducible refine PauseK.mk (n := 2) ?_); with_reducible (k_here; k_dflt (refine' idx_K2 (by first | assumption | lia) ‹_› (by first | assumption | lia) ?_ (by with_unfolding_all rfl) (by (intro _; with_unfolding_all rfl))); (try dsimp only))) | ((with_reducible refine PauseK.mk (n := 3) ?_); with_reducible (k_here; k_dflt (refine' get_last_K ‹_› (by first | k_mem | kst_mem) (by first | assumption | lia) ?_); (try dsimp only))) | ((with_reducible refine PauseK.mk (n := 4) ?_); with_reducible (k_here; k_dflt (refine' set_last_K ‹_› (by first | assumption | exact ntl ‹_› | exact ntl (ntl ‹_›)) ‹_› (by first | assumption | lia) ?_); ((rename Fr _ _ _ _ => lF'); (rename News _ _ _ _ => lN'); clear lF' lN'; intros; (try dsimp only)))) | ((with_reducible refine PauseK.mk (n := 5) ?_); with_reducible (k_here; k_dflt (refine' app_K ‹_› (by first | assumption | exact ntl ‹_› | exact ntl (ntl ‹_›)) ‹_› (by first | assumption | lia) ?_); ((rename Fr _ _ _ _ => lF'); (rename News _ _ _ _ => lN'); clear lF' lN'; intros; (try dsimp only)))) | ((with_reducible refine PauseK.mk (n := 6) ?_); with_reducible (k_here; (refine' iadd_K (by first | assumption | lia) ?_); (intros; (try dsimp only)))) | ((with_reducible refine PauseK.mk (n := 7) ?_); with_reducible (k_here; k_dflt (refine' find_known (by first | assumption | lia) ‹_› ?_); (try dsimp only))) | ((with_reducible refine PauseK.mk (n := 8) ?_); with_reducible (k_here; (refine' in_known ‹_› ?_); (try dsimp only)))); k_steps))
          rename Fr _ _ _ _ => F9
          rename News _ _ _ _ => N9
          refine end170 hpost hrn hs9 ?_ F9 N9 (by k_mem) (fun p hp => by simp [hp]) hps (S_app _ _) (by with_unfolding_all rfl) (by with_unfolding_all rfl) (by walk_at "my same2")
          rw [hck]
          simp only [List.length_cons, List.length_nil]
          lia
        · have hck : ckTxt (.tok (.lit c)) = [c] := by show escRe c = _; unfold escRe; rw [if_neg hsp]
          have hx0 := told_at hT 0 (by rw [hck]; simp) (k := ((4 + (txtC pre).length : Nat) : Int)) (by lia) (d := c) (by rw [hck]; rfl)
          have hcn : c ∉ specials ∧ c ≠ 91 := ⟨hsp, hokc.2.2.2⟩
          obtain ⟨n40, n46, n41, n92, n91, e5⟩ := lit_plain hcn.1
          have e1 := sg_ne (y := Str.ofString "(") (by decide +kernel) n40
          have e3 := sg_ne (y := Str.ofString ".") (by decide +kernel) n46
          have e4 := sg_ne (y := Str.ofString ")") (by decide +kernel) n41
          have e6 := sg_ne (y := Str.ofString "[") (by decide +kernel) n91
          have e7 := sg_ne (y := Str.ofString "\\") (by decide +kernel) n92
          rw [hck] at hlen
          simp only [List.length_cons, List.length_nil] at hlen
          (k_steps; repeat' ((first | ((with_reducible refine PauseK.mk (n := 0) ?_); with_reducible (k_here; (refine' eq_known ‹_› ?_); (try dsimp only))) | ((with_reducible refine PauseK.mk (n := 1) ?_); with_reducible (k_here; (refine' ne_known ‹_› ?_); (try dsimp only))) | ((with_reducible refine PauseK.mk (n := 2) ?_); with_reducible (k_here; k_dflt (refine' idx_K2 (by first | assumption | lia) ‹_› (by first | assumption | lia) ?_ (by with_unfolding_all rfl) (by (intro _; with_unfolding_all rfl))); (try dsimp only))) | ((with_reducible refine PauseK.mk (n := 3) ?_); with_reducible (k_here; k_dflt (refine' get_last_K ‹_› (by first | k_mem | kst_mem) (by first | assumption | lia) ?_); (try dsimp only))) | ((with_reducible refine PauseK.mk (n := 4) ?_); with_reducible (k_here; k_dflt (refine' set_last_K ‹_› (by first | assumption | exact ntl ‹_› | exact ntl (ntl ‹_›)) ‹_› (by first | assumption | lia) ?_); ((rename Fr _ _ _ _ => lF'); (rename News _ _ _ _ => lN'); clear lF' lN'; intros; (try dsimp only)))) | ((with_reducible refine PauseK.mk (n := 5) ?_); with_reducible (k_here; k_dflt (refine' app_K ‹_› (by first | assumption | exact ntl ‹_› | exact ntl (ntl ‹_›)) ‹_› (by first | assumption | lia) ?_); ((rename Fr _ _ _ _ => lF'); (rename News _ _ _ _ => lN'); clear lF' lN'; intros; (try dsimp only)))) | ((with_reducible refine PauseK.mk (n := 6) ?_); with_reducible (k_here; (refine' iadd_K (by first | assumption | lia) ?_); (intros; (try dsimp only)))) | ((with_reducible refine PauseK.mk (n := 7) ?_); with_reducible (k_here; k_dflt (refine' find_known (by first | assumption | lia) ‹_› ?_); (try dsimp only))) | ((with_reducible refine PauseK.mk (n := 8) ?_); with_reducible (k_here; (refine' in_known ‹_› ?_); (try dsimp only)))); k_steps))
          rename Fr _ _ _ _ => F9
          rename News _ _ _ _ => N9
          refine end170 hpost hrn hs9 ?_ F9 N9 (by k_mem) (fun p hp => by simp [hp]) hps (S_app _ _) (by with_unfolding_all rfl) (by with_unfolding_all rfl) (by walk_at "my same2")
          rw [hck]
          simp only [List.length_cons, List.length_nil]
          lia
end
section
open PySem.Calls PySem.Spec
section
variable {prog : Program} {w : World} {A : Around} {E : Value → Shared → Prop} {s : Shared} {h₀ : Heap} {L : Addr} {m : Str → Option Value} {env : Env} {news : List (Addr × Obj)}
theorem comp_invL {elt : Expr} {x : Str} {scope : Scope} {cl : List (Str × Addr)} {S : List (Addr × Obj) → Prop} {P : Nat → Value → Prop} {Fin : List Value → List (Addr × Obj) → Prop} {n : Nat}
    (I : Nat → List Value → List (Addr × Obj) → Prop) (h0 : I 0 [] news)
    (turn : ∀ i v ys nx a oa C oC D m₂ h tk (E' : Value → Shared → Prop), i < n → P i v → I i ys nx → LCg.NsObj oC m₂ → m₂ x = some v → Fr h₀ L h m → News h₀ L h ((a, oa) :: (C, oC) :: (D, LCg.lst ys) :: nx) → LCg.Off3 a C D nx → ((@Ne Nat a C) ∧ (@Ne Nat a D) ∧ (@Ne Nat C D)) →
      wpAny (model prog w) A (eval elt (compEnvC scope cl C env)) (LCg.CompEnd h₀ L m { s with heap := h, toks := tk } a oa C oC D (LCg.lst ys) S (fun y news' => I (i + 1) (ys ++ [y]) news')) E' { s with heap := h, toks := tk })
    (fin : ∀ ys nx, I n ys nx → Fin ys nx) : LCg.CompRest prog w A h₀ L m env elt x scope cl s S P Fin n 0 [] news := by
  have key : ∀ (j i : Nat) (ys : List Value) (nx : List (Addr × Obj)), i + j = n → I i ys nx → LCg.CompRest prog w A h₀ L m env elt x scope cl s S P Fin j i ys nx := by
    intro j
    induction j with
    | zero =>
      intro i ys nx hi hy
      have e : i = n := by lia
      subst e
      exact LCg.CompRest.zero (fin ys nx hy)
    | succ j ih =>
      intro i ys nx hi hy
      refine LCg.CompRest.succ ?_
      intro v a oa C oC D m₂ h tk E' hv hC hx F N off ne
      refine wpAny_mono (turn i v ys nx a oa C oC D m₂ h tk E' (by lia) hv hy hC hx F N off ne) (fun y s₂ hq => ?_) fun _ _ e => e
      obtain ⟨h', tk', nw, e, F', N', off', hS, hy'⟩ := hq
      exact ⟨h', tk', nw, e, F', N', off', hS, ih (i + 1) _ nw (by lia) hy'⟩
  exact key n 0 [] news (by lia) h0
theorem pickNums_step {ns : List Int} {j k : Int} (h6 : ns.length ≤ 6) (hj : 0 ≤ j) (hk : 2 ≤ k) : (pickNums ns (some j) none (some k)).length ≤ 3 := by
  unfold pickNums
  refine Nat.le_trans (List.length_filterMap_le _ _) ?_
  unfold sliceRange
  rw [List.length_map, List.length_range]
  have hb : (sliceBounds (some j) none (some k) ns.length).2.2 = k := rfl
  have hb2 : (sliceBounds (some j) none (some k) ns.length).2.1 ≤ 6 := by
    unfold sliceBounds
    simp
    lia
  have hb1 : 0 ≤ (sliceBounds (some j) none (some k) ns.length).1 := by
    unfold sliceBounds
    simp
    lia
  rw [hb]
  generalize (sliceBounds (some j) none (some k) ns.length).2.1 = b at hb2
  generalize (sliceBounds (some j) none (some k) ns.length).1 = a at hb1
  rw [if_pos (show k > 0 by lia)]
  split
  · have : (b - a + k - 1) / k < 4 := by
      apply Int.ediv_lt_of_lt_mul (by lia)
      lia
    lia
  · decide
theorem step_slice_K {value slice : Expr} {l : Addr} {us : List Value} {ns : List Int} {n : Nat} {j k : Int} {tj tk : Tok} {ops : List Value} {Q : Value → Shared → Prop}
    (F : Fr h₀ L s.heap m) (N : News h₀ L s.heap news) (hl : (l, listOf us.toArray n) ∈ news) (hi : IntsAre us ns) (h6 : ns.length ≤ 6) (hj : 0 ≤ j) (hk : 2 ≤ k)
    (h : ∀ D h' vs ms, Fr h₀ L h' m → News h₀ L h' ((D, listOf (List.toArray vs) 0) :: news) → (∀ p ∈ news, p.1 < D) → IntsAre vs ms → ms.length ≤ 3 → Q (.ref D) { s with heap := h' })
    (hs : subscripted slice false (.ref l) (.ref s.heap.objs.size) = operate ops (getItem (.ref l) (.ref s.heap.objs.size)) := by with_unfolding_all rfl)
    (ht : ∀ r, letTemporaryGo value (.ref l) r = pure () := by intro _; with_unfolding_all rfl) :
    wpAny (model prog w) A (subscriptTail value slice (.ref l) (.ref s.heap.objs.size)) Q E { s with heap := s.heap.push { cls := .type "slice", data := .fields #[.int j tj, .none, .int k tk] } } := by
  refine slice_list3 F N ⟨_, (N _ hl).1, rfl, n, rfl⟩ (.int j tj) .none (.int k tk) (by intro e; injection e; lia) (fun h' F' N' => ?_) hs ht (by rw [List.size_toArray, hi.length, sizeLine_eq]; lia)
  refine h _ h' (slicePick us.toArray (some j) none (some k)).toList (pickNums ns (some j) none (some k)) F' ?_ (fun p hp => Nat.lt_succ_of_lt (Heap.lt_size (N p hp).1)) (hi.pick _ _ _) (pickNums_step h6 hj hk)
  rw [Array.toArray_toList]
  exact N'
theorem cat_K {a b : Addr} {vs ws : List Value} {n n' : Nat} {ns ms : List Int} {Q : Value → Shared → Prop} (F : Fr h₀ L s.heap m) (N : News h₀ L s.heap news) (ha : (a, listOf vs.toArray n) ∈ news) (hb : (b, listOf ws.toArray n') ∈ news) (hi : IntsAre vs ns) (hj : IntsAre ws ms) (hz : ns.length + ms.length ≤ 1000)
    (h : ∀ D us h', Fr h₀ L h' m → News h₀ L h' ((D, listOf (List.toArray us) 0) :: news) → (∀ p ∈ news, p.1 < D) → IntsAre us (ns ++ ms) → Q (.ref D) { s with heap := h' }) :
    wpAny (model prog w) A (binaryOp .Add (.ref a) (.ref b)) Q E s :=
  kmk_add_ints F N ⟨_, (N _ ha).1, rfl, n, rfl⟩ ⟨_, (N _ hb).1, rfl, n', rfl⟩ hi hj h (by rw [sizeLine_eq]; lia)
end
end
section
open PySem.Calls PySem.Spec
section
variable {prog : Program} {w : World} {A : Around} {E : Value → Shared → Prop} {s : Shared} {env : Env} {h₀ : Heap} {body : List Stmt} {Q : Flow → Shared → Prop}
theorem iter_rangeTurns {x : Str} {px : Pos} {r : Addr} {b : Int} {t u v : Tok} {n : Nat} {m₀ : Str → Option Value} {news : List (Addr × Obj)}
    (hh : A.handled = none) (F : Fr h₀ env.locals s.heap m₀) (N : News h₀ env.locals s.heap news) (hr : IsRange s.heap r 0 b 1 t u v) (hn : b = (n : Int)) (hz : n ≤ 1000)
    (rest₀ : ∀ I : Addr, (∀ p ∈ news, p.1 < I) → ItemsRest prog w A E h₀ env (.Name x px) body Q s [(I, "range_iterator")] [] ((List.range n).map fun (i : Nat) => Itm.tok fun t => Value.int (i : Int) t) m₀ news) :
    wpAny (model prog w) A (pyIter (.ref r)) (fun it s₂ => TurnsAt prog w A h₀ env (.Name x px) body Q E it s₂) E s := by
  subst hn
  have hsm : Builtin.Range.small 0 (n : Int) 1 = true := small_one (by lia) (by lia) (by lia) (by lia)
  have hsize : Builtin.Range.rangeSize 0 (n : Int) 1 = (n : Int) := by rw [rangeSize_nat]; lia
  refine wpAny_pyIter_range hr hsm ?_
  rw [hsize]
  refine ktu_core (tk0 := s.toks) (keep := []) (KTurns.ofWalks ((LCg.range_walks hh 0 n).bound) fun i v s Q E _ q => ?_) (by simp) (fun i v h hp => ?_) (fun i h st => ?_) (fun b hb => ?_) (fun b hb => by simpa using hb) (fun b hb => .inl (by simpa using hb)) ?_ (fun p hp hI => ?_) ?_ (F.push _) (fun p hp => ⟨Heap.get?_push_of_some _ (N p hp).1, (N p hp).2⟩) trivial (rest₀ _ fun p hp => Heap.lt_size (N p hp).1)
  · exact wpAny_pure q
  · obtain ⟨hin, t9, rfl⟩ := (hp : i < n ∧ ∃ t, v = .int (0 + (i : Int)) t)
    refine ⟨Itm.tok fun t => Value.int (i : Int) t, ?_, t9, ?_⟩
    · rw [List.getElem?_map, List.getElem?_range hin]; rfl
    · show Value.int (0 + (i : Int)) t9 = Value.int (i : Int) t9
      rw [Int.zero_add]
  · have st' : h.get? _ = some _ := st
    exact ⟨[(_, _)], ⟨⟨rfl, rfl⟩, trivial⟩, fun p hp => by rw [List.mem_singleton.mp hp]; exact st'⟩
  · have hb' : b = s.heap.objs.size := by simpa using hb
    rw [hb']
    exact ⟨List.mem_cons_self .., next_is_new F⟩
  · intro hI
    exact absurd F.ns.lt ((List.mem_singleton.mp hI) ▸ Nat.lt_irrefl _)
  · exact absurd (Heap.lt_size (N p hp).1) ((List.mem_singleton.mp hI) ▸ Nat.lt_irrefl _)
  · show (s.heap.push _).get? s.heap.objs.size = some _
    rw [Heap.get?_push_size _ rfl]
    simp
theorem my_forR {σ : Type} {x y0 : Str} {px : Pos} {r : Addr} {b : Int} {t u v : Tok} {n : Nat} {m₀ : Str → Option Value}
    (Led : σ → List (Addr × Obj)) (ps : σ → List (Str × Value)) (stored : List Str) (P : Nat → σ → Prop) (c₀ : σ)
    (hh : A.handled = none) (F : Fr h₀ env.locals s.heap m₀) (N : News h₀ env.locals s.heap (Led c₀)) (hr : IsRange s.heap r 0 b 1 t u v) (hn : b = (n : Int)) (hz : n ≤ 1000) (hk : ∀ p ∈ ps c₀, m₀ p.1 = some p.2) (hp : P 0 c₀)
    (turn : ∀ I, (∀ p ∈ Led c₀, p.1 < I) → ∀ i t (c : σ) (u : Str → Option Value) h tk oI, i < n → P i c → oI.cls = .type "range_iterator" →
      Fr h₀ env.locals h (fun y => if y = y0 then u y else kstB (fun z => if stored.contains z then u z else m₀ z) (ps c) y) → News h₀ env.locals h ((I, oI) :: Led c) →
      wpAny (model prog w) A (assign (.Name x px) env (.int (i : Int) t)) (fun _ s₂ => wpAny (model prog w) A (execs body env) (UnrPostW h₀ env.locals { s with heap := h, toks := tk } [(I, oI)] (fun m' n' => SubL [] n' ∧ MfJ Led ps y0 stored m₀ (P (i + 1)) m' n') Q) E s₂) E { s with heap := h, toks := tk })
    (done : ∀ (c : σ) (u : Str → Option Value) h tk, P n c → Fr h₀ env.locals h (fun y => if y = y0 then u y else kstB (fun z => if stored.contains z then u z else m₀ z) (ps c) y) → News h₀ env.locals h (Led c) → Q .next { s with heap := h, toks := tk }) :
    wpAny (model prog w) A (pyIter (.ref r)) (fun it s₂ => TurnsAt prog w A h₀ env (.Name x px) body Q E it s₂) E s := by
  refine iter_rangeTurns hh F N hr hn hz fun I hI => ?_
  refine items_inv (fun i => MfJ Led ps y0 stored m₀ (P i)) ⟨c₀, rfl, hk, fun _ _ _ _ => rfl, hp⟩ ?_ ?_
  · rintro i a v h tk m₁ nx ha hv ⟨c, rfl, h1, h2, hp'⟩ F₁
    rw [List.getElem?_map] at ha
    by_cases hi : i < n
    · rw [List.getElem?_range hi] at ha
      cases ha
      obtain ⟨t9, e⟩ := hv
      subst e
      exact fun oI ho N₁ => turn I hI i t9 c m₁ h tk oI hi hp' ho (kst_frOut h1 h2 F₁) N₁
    · rw [List.getElem?_eq_none (by rw [List.length_range]; lia)] at ha
      cases ha
  · rintro h tk m₁ nx ⟨c, rfl, h1, h2, hp'⟩ F₁ N₁
    rw [List.length_map, List.length_range] at hp'
    exact done c m₁ h tk hp' (kst_frOut h1 h2 F₁) N₁
end
end
section
open PySem.Calls PySem.Spec
theorem mem_out {α : Type} {l R : List α} {x p : α} (h : p ∈ l ++ x :: R) : p ∈ x :: (l ++ R) :=
  (List.mem_append.mp h).elim (fun h => List.mem_cons_of_mem _ (List.mem_append_left _ h)) fun h => (List.mem_cons.mp h).elim (fun e => e ▸ List.mem_cons_self ..) fun h => List.mem_cons_of_mem _ (List.mem_append_right _ h)
theorem mem_in {α : Type} {l R : List α} {x p : α} (h : p ∈ x :: (l ++ R)) : p ∈ l ++ x :: R :=
  (List.mem_cons.mp h).elim (fun e => e ▸ List.mem_append_right _ (List.mem_cons_self ..)) fun h => (List.mem_append.mp h).elim (fun h => List.mem_append_left _ h) fun h => List.mem_append_right _ (List.mem_cons_of_mem _ h)
theorem mem_rot {α : Type} {a b : List α} {p : α} (h : p ∈ a ++ b) : p ∈ b ++ a := (List.mem_append.mp h).elim (fun h => List.mem_append_right _ h) fun h => List.mem_append_left _ h
theorem mem_rot3 {α : Type} {a b R : List α} {p : α} (h : p ∈ a ++ (b ++ R)) : p ∈ b ++ (a ++ R) :=
  (List.mem_append.mp h).elim (fun h => List.mem_append_right _ (List.mem_append_left _ h)) fun h => (List.mem_append.mp h).elim (fun h => List.mem_append_left _ h) fun h => List.mem_append_right _ (List.mem_append_right _ h)
theorem mem_rot4 {α : Type} {a b e R : List α} {p : α} (h : p ∈ a ++ (b ++ R)) : p ∈ b ++ (e ++ (a ++ R)) :=
  (List.mem_append.mp (mem_rot3 h)).elim (fun h => List.mem_append_left _ h) fun h => List.mem_append_right _ (List.mem_append_right _ h)
/-- the law's ledger: its cells, the lambda's table, the rest -/
noncomputable abbrev LedL (L : Addr) (oA oB oC oD oE oF : Obj) (R : List (Addr × Obj)) : List (Addr × Obj) := (L + 1 + 1 + 1 + 1 + 1 + 1, oA) :: (L + 1 + 1 + 1 + 1 + 1, oB) :: (L + 1 + 1 + 1 + 1, oC) :: (L + 1 + 1 + 1, oD) :: (L + 1 + 1, oE) :: (L + 1, oF) :: (99, tabObj #[]) :: R
structure RF (L : Addr) (lMo aN : Addr) (vM wsN : List Value) (R : List (Addr × Obj)) : Prop where
  mMo : (lMo, listOf vM.toArray 0) ∈ R
  mN : (aN, listOf wsN.toArray 0) ∈ R
  more : ∀ j, j < 3 → ∃ la vs ms n, vM[j]? = some (.ref la) ∧ (la, listOf vs.toArray n) ∈ R ∧ IntsAre vs ms ∧ ms.length = 2
  off : ∀ p ∈ R, L + 1 + 1 + 1 + 1 + 1 + 1 < p.1
theorem RF.app {L lMo aN : Addr} {vM wsN : List Value} {R add : List (Addr × Obj)} (h : RF L lMo aN vM wsN R) (ha : ∀ p ∈ add, L + 1 + 1 + 1 + 1 + 1 + 1 < p.1) : RF L lMo aN vM wsN (add ++ R) := by
  obtain ⟨h1, h2, h3, h4⟩ := h
  refine ⟨List.mem_append_right _ h1, List.mem_append_right _ h2, fun j hj => ?_, fun p hp => ?_⟩
  · obtain ⟨la, vs, ms, n, e1, e2, e3, e4⟩ := h3 j hj
    exact ⟨la, vs, ms, n, e1, List.mem_append_right _ e2, e3, e4⟩
  · rcases List.mem_append.mp hp with hp | hp
    · exact ha p hp
    · exact h4 p hp
theorem packR {g h : Heap} {L lMo l1 l2 l3 aN : Addr} {oA oB oC oD oE oF : Obj} {wsN : List Value} {t1 t2 t3 t4 t5 t6 : Tok}
    (N : News g L h [(lMo, listOf #[.ref l1, .ref l2, .ref l3] 0), (l3, listOf #[.int 39 t5, .int 21 t6] 0), (l2, listOf #[.int 8 t3, .int 6 t4] 0), (l1, listOf #[.int 15 t1, .int 7 t2] 0), (aN, listOf wsN.toArray 0),
      (L + 1 + 1 + 1 + 1 + 1 + 1, oA), (L + 1 + 1 + 1 + 1 + 1, oB), (L + 1 + 1 + 1 + 1, oC), (L + 1 + 1 + 1, oD), (L + 1 + 1, oE), (L + 1, oF), (99, tabObj #[])])
    (q1 : L + 1 + 1 + 1 + 1 + 1 + 1 < aN) (q2 : aN < l1) (q3 : l1 < l2) (q4 : l2 < l3) (q5 : l3 < lMo) :
    ∃ R, RF L lMo aN [.ref l1, .ref l2, .ref l3] wsN R ∧ News g L h (LedL L oA oB oC oD oE oF R) := by
  have q6 := Nat.lt_trans q1 q2
  have q7 := Nat.lt_trans q6 q3
  have q8 := Nat.lt_trans q7 q4
  have q9 := Nat.lt_trans q8 q5
  refine ⟨[(lMo, listOf #[.ref l1, .ref l2, .ref l3] 0), (l3, listOf #[.int 39 t5, .int 21 t6] 0), (l2, listOf #[.int 8 t3, .int 6 t4] 0), (l1, listOf #[.int 15 t1, .int 7 t2] 0), (aN, listOf wsN.toArray 0)], ⟨?_, ?_, ?_, ?_⟩, fun p hp => N p ?_⟩
  · exact List.mem_cons_self ..
  · simp
  · intro j hj
    have : j = 0 ∨ j = 1 ∨ j = 2 := by lia
    rcases this with rfl | rfl | rfl
    · exact ⟨l1, [.int 15 t1, .int 7 t2], [15, 7], 0, rfl, by simp, .cons _ _ (.cons _ _ .nil), rfl⟩
    · exact ⟨l2, [.int 8 t3, .int 6 t4], [8, 6], 0, rfl, by simp, .cons _ _ (.cons _ _ .nil), rfl⟩
    · exact ⟨l3, [.int 39 t5, .int 21 t6], [39, 21], 0, rfl, by simp, .cons _ _ (.cons _ _ .nil), rfl⟩
  · intro p hp
    simp only [List.mem_cons, List.not_mem_nil, or_false] at hp
    rcases hp with rfl | rfl | rfl | rfl | rfl
    · exact q9
    · exact q8
    · exact q7
    · exact q6
    · exact q1
  · exact mem_rot (a := [_, _, _, _, _, _, _]) (b := [_, _, _, _, _]) hp
theorem addr_ne (L : Nat) {a b : Nat} (h : a ≠ b) : @Ne Addr (L + a) (L + b) := fun e => h (Nat.add_left_cancel e)
structure MarkS (L : Addr) : Prop where
  t : True
section
variable {L D D2 : Addr} {oA oB oC oD oE oF o o2 : Obj} {R : List (Addr × Obj)}
theorem updB1 (_ : MarkS L) (h1 : D ≠ L + 1 + 1 + 1 + 1 + 1) (h99 : 99 < L) (hR : ∀ p ∈ R, L + 1 + 1 + 1 + 1 + 1 + 1 < p.1) :
    UpdF (L + 1 + 1 + 1 + 1 + 1) oB ((D, o) :: LedL L oA oB oC oD oE oF R) (fun o' => (D, o) :: LedL L oA o' oC oD oE oF R) := by
  have h99' : (99 : Nat) < L := h99
  refine UpdF.tail h1 (UpdF.tail ?_ (UpdF.head ?_))
  · exact Nat.ne_of_gt (Nat.lt_succ_self _)
  · intro p hp
    simp only [List.mem_cons] at hp
    rcases hp with rfl | rfl | rfl | rfl | rfl | h
    · exact addr_ne L (a := 4) (b := 5) (by decide)
    · exact addr_ne L (a := 3) (b := 5) (by decide)
    · exact addr_ne L (a := 2) (b := 5) (by decide)
    · exact addr_ne L (a := 1) (b := 5) (by decide)
    · exact Nat.ne_of_lt (Nat.lt_of_lt_of_le h99 (Nat.le_add_right L 5))
    · exact Nat.ne_of_gt (Nat.lt_of_succ_lt (hR p h))
theorem updC1 (_ : MarkS L) (h1 : D ≠ L + 1 + 1 + 1 + 1) (hR : ∀ p ∈ R, p.1 ≠ L + 1 + 1 + 1 + 1) :
    UpdF (L + 1 + 1 + 1 + 1) oC ((D, o) :: (L + 1 + 1 + 1 + 1 + 1 + 1, oA) :: (L + 1 + 1 + 1 + 1 + 1, oB) :: (L + 1 + 1 + 1 + 1, oC) :: (L + 1 + 1 + 1, oD) :: (L + 1 + 1, oE) :: (L + 1, oF) :: R)
      (fun o' => (D, o) :: (L + 1 + 1 + 1 + 1 + 1 + 1, oA) :: (L + 1 + 1 + 1 + 1 + 1, oB) :: (L + 1 + 1 + 1 + 1, o') :: (L + 1 + 1 + 1, oD) :: (L + 1 + 1, oE) :: (L + 1, oF) :: R) := by
  refine UpdF.tail h1 (UpdF.tail ?_ (UpdF.tail ?_ (UpdF.head ?_)))
  · exact addr_ne L (a := 6) (b := 4) (by decide)
  · exact addr_ne L (a := 5) (b := 4) (by decide)
  · intro p hp
    simp only [List.mem_cons] at hp
    rcases hp with rfl | rfl | rfl | h
    · exact addr_ne L (a := 3) (b := 4) (by decide)
    · exact addr_ne L (a := 2) (b := 4) (by decide)
    · exact addr_ne L (a := 1) (b := 4) (by decide)
    · exact hR p h
theorem updA2 (_ : MarkS L) (h1 : D ≠ L + 1 + 1 + 1 + 1 + 1 + 1) (h2 : D2 ≠ L + 1 + 1 + 1 + 1 + 1 + 1) (hR : ∀ p ∈ R, p.1 ≠ L + 1 + 1 + 1 + 1 + 1 + 1) :
    UpdF (L + 1 + 1 + 1 + 1 + 1 + 1) oA ((D, o) :: (D2, o2) :: (L + 1 + 1 + 1 + 1 + 1 + 1, oA) :: (L + 1 + 1 + 1 + 1 + 1, oB) :: (L + 1 + 1 + 1 + 1, oC) :: (L + 1 + 1 + 1, oD) :: (L + 1 + 1, oE) :: (L + 1, oF) :: R)
      (fun o' => (D, o) :: (D2, o2) :: (L + 1 + 1 + 1 + 1 + 1 + 1, o') :: (L + 1 + 1 + 1 + 1 + 1, oB) :: (L + 1 + 1 + 1 + 1, oC) :: (L + 1 + 1 + 1, oD) :: (L + 1 + 1, oE) :: (L + 1, oF) :: R) := by
  refine UpdF.tail h1 (UpdF.tail h2 (UpdF.head ?_))
  intro p hp
  simp only [List.mem_cons] at hp
  rcases hp with rfl | rfl | rfl | rfl | rfl | h
  · exact addr_ne L (a := 5) (b := 6) (by decide)
  · exact addr_ne L (a := 4) (b := 6) (by decide)
  · exact addr_ne L (a := 3) (b := 6) (by decide)
  · exact addr_ne L (a := 2) (b := 6) (by decide)
  · exact addr_ne L (a := 1) (b := 6) (by decide)
  · exact hR p h
end
theorem told_len9 (ts : List Tk) : (toldOf ts).length ≤ 9 * ts.length + 7 := by
  have h := told_len ts
  unfold toldOf
  rw [List.append_assoc [40, 63, 115, 58], List.length_append, List.length_append]
  simp only [List.length_cons, List.length_nil]
  lia
theorem toks_len {ts : List Tk} {l : List Nat} (h : render ts = l) : ts.length ≤ l.length := h ▸ render_len_ge ts
theorem led_no99 {L D : Addr} {oA oB oC oD oE oF o : Obj} {R : List (Addr × Obj)} (h99 : 99 < L) (hD : D ≠ 99) (hR : ∀ p ∈ R, L + 1 + 1 + 1 + 1 + 1 + 1 < p.1) :
    ∀ p ∈ (D, o) :: (L + 1 + 1 + 1 + 1 + 1 + 1, oA) :: (L + 1 + 1 + 1 + 1 + 1, oB) :: (L + 1 + 1 + 1 + 1, oC) :: (L + 1 + 1 + 1, oD) :: (L + 1 + 1, oE) :: (L + 1, oF) :: R, p.1 ≠ 99 := by
  intro p hp
  simp only [List.mem_cons] at hp
  rcases hp with rfl | rfl | rfl | rfl | rfl | rfl | rfl | h
  · exact hD
  · exact Nat.ne_of_gt (Nat.lt_of_lt_of_le h99 (Nat.le_add_right L 6))
  · exact Nat.ne_of_gt (Nat.lt_of_lt_of_le h99 (Nat.le_add_right L 5))
  · exact Nat.ne_of_gt (Nat.lt_of_lt_of_le h99 (Nat.le_add_right L 4))
  · exact Nat.ne_of_gt (Nat.lt_of_lt_of_le h99 (Nat.le_add_right L 3))
  · exact Nat.ne_of_gt (Nat.lt_of_lt_of_le h99 (Nat.le_add_right L 2))
  · exact Nat.ne_of_gt (Nat.lt_of_lt_of_le h99 (Nat.le_add_right L 1))
  · exact Nat.ne_of_gt (Nat.lt_trans (Nat.lt_of_lt_of_le h99 (Nat.le_add_right L 6)) (hR p h))
theorem led_swap {g h : Heap} {L D : Addr} {oA oB oC oD oE oF o : Obj} {R : List (Addr × Obj)} (N : News g L h ((D, o) :: LedL L oA oB oC oD oE oF R)) :
    News g L h ((99, tabObj #[]) :: ((D, o) :: (L + 1 + 1 + 1 + 1 + 1 + 1, oA) :: (L + 1 + 1 + 1 + 1 + 1, oB) :: (L + 1 + 1 + 1 + 1, oC) :: (L + 1 + 1 + 1, oD) :: (L + 1 + 1, oE) :: (L + 1, oF) :: R)) := fun p hp => N p (mem_in (l := [_, _, _, _, _, _, _]) hp)
theorem led_99 {g h : Heap} {L0 L D : Addr} {oA oB oC oD oE oF o o9 : Obj} {R : List (Addr × Obj)} (N : News g L0 h ((99, o9) :: (D, o) :: (L + 1 + 1 + 1 + 1 + 1 + 1, oA) :: (L + 1 + 1 + 1 + 1 + 1, oB) :: (L + 1 + 1 + 1 + 1, oC) :: (L + 1 + 1 + 1, oD) :: (L + 1 + 1, oE) :: (L + 1, oF) :: R)) :
    News g L0 h ((D, o) :: (L + 1 + 1 + 1 + 1 + 1 + 1, oA) :: (L + 1 + 1 + 1 + 1 + 1, oB) :: (L + 1 + 1 + 1 + 1, oC) :: (L + 1 + 1 + 1, oD) :: (L + 1 + 1, oE) :: (L + 1, oF) :: (99, o9) :: R) := fun p hp => N p (mem_out (l := [_, _, _, _, _, _, _]) hp)
theorem c170T (w : World) (p : Program) (loose : List Str) (mean : ExcName → Option Value) (mg mb : Str → Option Value) (news : List (Addr × Obj)) (x : List Nat) (t : Tok) (toks : List Tk) (hx : x = toldOf toks) (htk : ∀ t ∈ toks, okTk t) (hl : toks.length ≤ 20000) :
  CallOf w p loose mean mg mb 170 news [.str (S x) t] (fun v add news => ∃ lP us n, v = .ref lP ∧ add = [(lP, listOf us.toArray n)] ∧ Strs (piecesOf toks) us ∧ ∀ q ∈ news, q.1 < lP) 2 := by
  obtain ⟨st, ps, l, hrun, hst, hpc⟩ := run_all toks
  have hll := told_len9 toks
  have h := c170 w p loose mean mg mb news x t (cks toks) ⟨st, ps, l⟩ (by rw [hx, told_cks]) (cks_ok htk) (by rw [hx]; lia) hrun hst
  dsimp only at h
  rw [hpc] at h
  exact h
theorem pieces_len (ts : List Tk) : (piecesOf ts).length ≤ ts.length + 1 ∧ ∀ q ∈ piecesOf ts, q.length ≤ ts.length := by
  have h1 : ∀ (ts : List Tk) (acc : List (Option Sg)), (ts.foldl keepTk acc).length ≤ acc.length + ts.length := by
    intro ts
    induction ts with
    | nil => intro acc; simp
    | cons t ts ih =>
      intro acc
      rw [List.foldl_cons, List.length_cons]
      have h2 := ih (keepTk acc t)
      have h3 : (keepTk acc t).length ≤ acc.length + 1 := by
        cases t with
        | star =>
          show (if acc.getLast?.map Option.isNone = some true then acc else acc ++ [none]).length ≤ _
          split <;> simp
        | lit c => simp [keepTk]
        | brk c => simp [keepTk]
      lia
  have h2 : ∀ os : List (Option Sg), (splitS os).1.length ≤ os.length ∧ (splitS os).2.length ≤ os.length ∧ ∀ g ∈ (splitS os).2, g.length ≤ os.length := by
    intro os
    induction os with
    | nil => exact ⟨Nat.le_refl _, Nat.le_refl _, fun g hg => by cases hg⟩
    | cons o os ih =>
      obtain ⟨i1, i2, i3⟩ := ih
      cases o with
      | none =>
        refine ⟨Nat.zero_le _, ?_, fun g hg => ?_⟩
        · show ((splitS os).1 :: (splitS os).2).length ≤ _
          simp; lia
        · rcases List.mem_cons.mp (show g ∈ (splitS os).1 :: (splitS os).2 from hg) with rfl | hg
          · simp; lia
          · have := i3 g hg; simp; lia
      | some x =>
        refine ⟨?_, ?_, fun g hg => ?_⟩
        · show (x :: (splitS os).1).length ≤ _
          simp; lia
        · show (splitS os).2.length ≤ _
          simp; lia
        · have := i3 g hg; simp; lia
  have h3 := h1 ts []
  obtain ⟨i1, i2, i3⟩ := h2 (outS ts)
  have h4 : (outS ts).length ≤ ts.length := by simpa [outS] using h3
  unfold piecesOf grpS
  constructor
  · simp; lia
  · intro q hq
    rcases List.mem_cons.mp hq with rfl | hq
    · simp; lia
    · obtain ⟨g, hg, rfl⟩ := List.mem_map.mp hq
      have := i3 g hg
      simp; lia
theorem c177 (w : World) (p : Program) (loose : List Str) (mean : ExcName → Option Value) (mg mb : Str → Option Value) (news : List (Addr × Obj)) (lP : Addr) (n : Nat) (us : List Value) (x : Str) (t : Tok) (ps : List (List Nat))
   (hL : (lP, listOf us.toArray n) ∈ news) (hne : ps ≠ []) (hst : Strs ps us) (hpl : ∀ q ∈ ps, q.length ≤ 100000) (hn : ps.length ≤ 100000) (hx : x.length ≤ 100000) :
  CallS w p loose mean mg mb 177 news [.ref lP, .str x t] (fun v => v = .bool (takenL ps x.cps.toList)) 1 := by
  cases ps with
  | nil => exact absurd rfl hne
  | cons p0 r =>
    cases r with
    | nil => exact c177a w p loose mean mg mb news lP n us x t p0 hL hst hx
    | cons p1 r => exact c177b w p loose mean mg mb news lP n us x t p0 p1 r hL hst hpl hn hx
structure SLaw where
  oA : Obj
  oC : Obj
noncomputable abbrev LedC (L : Addr) (oA oB oC oD oE oF : Obj) (R : List (Addr × Obj)) : List (Addr × Obj) := (L + 1 + 1 + 1 + 1 + 1 + 1, oA) :: (L + 1 + 1 + 1 + 1 + 1, oB) :: (L + 1 + 1 + 1 + 1, oC) :: (L + 1 + 1 + 1, oD) :: (L + 1 + 1, oE) :: (L + 1, oF) :: R
theorem led_mv {g h : Heap} {L lP D : Addr} {oA oB oC oD oE oF o1 o2 : Obj} {R : List (Addr × Obj)} (N : News g L h ((lP, o1) :: (D, o2) :: (L + 1 + 1 + 1 + 1 + 1 + 1, oA) :: (L + 1 + 1 + 1 + 1 + 1, oB) :: (L + 1 + 1 + 1 + 1, oC) :: (L + 1 + 1 + 1, oD) :: (L + 1 + 1, oE) :: (L + 1, oF) :: R)) :
    News g L h (LedC L oA oB oC oD oE oF ((lP, o1) :: (D, o2) :: R)) := fun p hp => N p (mem_rot3 (a := [_, _, _, _, _, _]) (b := [_, _]) hp)
theorem endLaw {g h' : Heap} {L LL I : Addr} {oI oA oB oC oD oE oF oA0 oC0 : Obj} {R all : List (Addr × Obj)} {m₀ m' : Str → Option Value} {s₁ : Shared} {tk : Nat}
    (F5 : Fr g L h' m') (N5 : News g L h' all) (h1 : (I, oI) ∈ all) (_ : (LL + 1 + 1 + 1 + 1 + 1 + 1, oA) ∈ all) (_ : (LL + 1 + 1 + 1 + 1, oC) ∈ all) (h2 : ∀ p ∈ LedC LL oA oB oC oD oE oF R, p ∈ all) (i3 : ∀ p ∈ LedC LL oA0 oB oC0 oD oE oF R, p.1 < I)
    (hA : ∃ v, oA.data = .cell v) (hC : ∃ v, oC.data = .cell v)
    (hr : ∀ z, z ≠ Str.ofString "wrong" → (∀ p ∈ ([] : List (Str × Value)), z ≠ p.1) → ([] : List Str).contains z = false → m' z = m₀ z) :
    UnrEndW g L s₁ [(I, oI)] (fun m' n' => SubL [] n' ∧ MfJ (σ := SLaw) (fun c => LedC LL c.oA oB c.oC oD oE oF R) (fun _ => []) (Str.ofString "wrong") [] m₀ (fun c => (∃ v, c.oA.data = .cell v) ∧ ∃ v, c.oC.data = .cell v) m' n') { s₁ with heap := h', toks := tk } := by
  refine mf_endW ⟨oA, oC⟩ F5 N5 ?_ h2 ?_ trivial (fun p hp => by cases hp) hr ⟨hA, hC⟩
  · intro p hp
    rcases List.mem_singleton.mp hp with rfl
    exact h1
  · intro p hp q hq
    rcases List.mem_singleton.mp hq with rfl
    refine .inl (Nat.ne_of_lt ?_)
    dsimp only [LedC] at hp
    simp only [List.mem_cons] at hp
    rcases hp with rfl | rfl | rfl | rfl | rfl | rfl | h
    · exact i3 (_, oA0) (by simp)
    · exact i3 (_, oB) (by simp)
    · exact i3 (_, oC0) (by simp)
    · exact i3 (_, oD) (by simp)
    · exact i3 (_, oE) (by simp)
    · exact i3 (_, oF) (by simp)
    · exact i3 p (by simp [h])
theorem end_fields {w : World} {g h' : Heap} {L lMo aN a C D af : Addr} {vM wsN : List Value} {R add ext : List (Addr × Obj)} {oA oB oC oD oE oF oa oCC : Obj} {m : Str → Option Value} {s₁ : Shared} {tk : Nat} {afs : List (Addr × Fld)} {f : Fld} {i : Nat}
    (F : Fr g L h' m) (N : News g L h' (add ++ (ext ++ ((a, oa) :: (C, oCC) :: (D, LCg.lst (afs.map fun q => Value.ref q.1)) :: LedL L oA oB oC oD oE oF R)))) (hR : RF L lMo aN vM wsN R) (hal : afs.length = i) (hF : ∀ q ∈ afs, FldAt w R q.1 q.2)
    (hf1 : FldAt w add af f) (hf2 : ∀ p ∈ add, ∀ q ∈ ext ++ ((a, oa) :: (C, oCC) :: (D, LCg.lst (afs.map fun q => Value.ref q.1)) :: LedL L oA oB oC oD oE oF R), q.1 < p.1) (off : LCg.Off3 a C D (LedL L oA oB oC oD oE oF R)) :
    LCg.CompEnd g L m s₁ a oa C oCC D (LCg.lst (afs.map fun q => Value.ref q.1)) (fun _ => True) (fun y nx => ∃ (R' : List (Addr × Obj)) (afs' : List (Addr × Fld)), nx = LedL L oA oB oC oD oE oF R' ∧ RF L lMo aN vM wsN R' ∧ (afs.map fun q => Value.ref q.1) ++ [y] = afs'.map (fun (q : Addr × Fld) => Value.ref q.1) ∧ afs'.length = i + 1 ∧ ∀ q ∈ afs', FldAt w R' q.1 q.2) (.ref af) { s₁ with heap := h', toks := tk } := by
  have hL6 : ∀ p ∈ add, L + 1 + 1 + 1 + 1 + 1 + 1 < p.1 := fun p hp => hf2 p hp (_, oA) (by simp)
  refine LCg.CompEnd.intro F N (LedL L oA oB oC oD oE oF (add ++ R)) ?_ ?_ trivial ⟨add ++ R, afs ++ [(af, f)], rfl, hR.app hL6, by simp, by simp [hal], ?_⟩
  · intro p hp
    exact mem_rot4 (a := [_, _, _, _, _, _, _, _, _, _]) hp
  · refine LCg.Off3.of fun p hp => ?_
    have o := off.mem
    have hp' : p ∈ [(L + 1 + 1 + 1 + 1 + 1 + 1, oA), (L + 1 + 1 + 1 + 1 + 1, oB), (L + 1 + 1 + 1 + 1, oC), (L + 1 + 1 + 1, oD), (L + 1 + 1, oE), (L + 1, oF), (99, tabObj #[])] ++ (add ++ R) := hp
    rcases List.mem_append.mp (mem_rot3 hp') with h | h
    · exact ⟨Nat.ne_of_gt (hf2 p h (a, oa) (by simp)), Nat.ne_of_gt (hf2 p h (C, oCC) (by simp)), Nat.ne_of_gt (hf2 p h (D, _) (List.mem_append_right _ (List.mem_cons_of_mem _ (List.mem_cons_of_mem _ (List.mem_cons_self ..)))))⟩
    · exact o p h
  · intro q hq
    rcases List.mem_append.mp hq with hq | hq
    · exact (hF q hq).mono fun p hp => List.mem_append_right _ hp
    · rcases List.mem_singleton.mp hq with rfl
      exact hf1.mono fun p hp => List.mem_append_left _ hp
end
section
open PySem.Calls PySem.Spec
local macro_rules | `(tactic| walk_at "my r") => `(tactic| with_unfolding_all rfl)
local macro_rules | `(tactic| walk_at "my ir") => `(tactic| (intro _; with_unfolding_all rfl))
local macro_rules | `(tactic| walk_at "execs cons") => `(tactic| ((first | (with_reducible show wpAny _ _ _ (KswPost _ _ _ _ _ _ _ _ _ _ _ _) _ _) | (with_reducible show wpAny _ _ _ (UnrPostW _ _ _ _ _ _) _ _) | (with_reducible show wpAny _ _ _ (InvPostG _ _ _ _ _ _) _ _) | (with_reducible show wpAny _ _ _ (InvPostN _ _ _ _ _ _ _) _ _)); refine genQE ?_; intro Q' E' hQ'))
local macro_rules | `(tactic| walk_at "eval ListComp") => `(tactic| refine PauseK.o 0 ?_)
local macro_rules | `(tactic| walk_at "CompSrc") => `(tactic| (refine Pause.out ?_))
local macro_rules | `(tactic| walk_at "CompSrcT") => `(tactic| (refine Pause.out ?_))
local macro_rules | `(tactic| walk_at "call ref") => `(tactic| (refine Pause.out ?_))
local macro_rules | `(tactic| walk_at "eval Name") => `(tactic| (k_here; (with_reducible show wpAny _ _ (eval (Expr.Name _ _) (compEnvC _ _ _ _)) _ _ _); k_dflt (refine' lcf_cell ?N ?c ?m ?d ?_ ?a ?b; (case a => rfl); (case b => rfl); (case N => k_asm); (case c => rfl); (case m => first | k_mem | kst_mem); (case d => assumption))))
local macro_rules | `(tactic| walk_at "subscriptTail Name Slice ref ref") => `(tactic| (k_here; k_dflt (refine' step_slice_K (s := ⟨_, _, _, _, _⟩) (by k_asm) (by k_asm) (by kst_mem) (by k_asm) (by walk_at "my o") (by walk_at "my o") (by walk_at "my o") ?_ (by walk_at "my r") (by walk_at "my ir")); walk_at "my eFN"))
local macro_rules | `(tactic| walk_at "subscriptTail Name Name ref int") => `(tactic| refine PauseK.o 1 ?_)
local macro_rules | `(tactic| walk_at "binaryOp Add ref ref") => `(tactic| refine PauseK.o 2 ?_)
local macro_rules | `(tactic| walk_at "exec For Name Call cons nil") => `(tactic| refine PauseK.o 3 ?_)
local macro_rules | `(tactic| walk_at "pyIter ref") => `(tactic| (refine Pause.out ?_))
local macro_rules | `(tactic| walk_at "subscriptTail") => `(tactic| refine PauseK.o 4 ?_)
local macro_rules | `(tactic| walk_at "exec Assign cons ListComp") => `(tactic| (k_here; lct_look; lcg_calm; k_dflt (refine LCt.Assign_ListComp_T (F₀ := by k_asm) (by rfl) (by with_unfolding_all rfl) (by with_unfolding_all rfl) (by decide) (by rfl) (by decide) (by rfl) (by rfl) (by rfl) ?_)))
local macro_rules | `(tactic| walk_at "compareOp Eq ref ref") => `(tactic| refine PauseK.o 5 ?_)
theorem all_snoc {fs : List Fld} {ts : List (List Nat)} {k : Nat} {f : Fld} {t : List Nat} (p : Fld × List Nat → Bool) (h1 : fs[k]? = some f) (h2 : ts[k]? = some t) : ((fs.zip ts).take (k + 1)).all p = (((fs.zip ts).take k).all p && p (f, t)) := by
  have h : (fs.zip ts)[k]? = some (f, t) := by rw [List.getElem?_zip_eq_some]; exact ⟨h1, h2⟩
  rw [List.take_add_one, h, List.all_append]
  simp
theorem many_nat {hp : Heap} {r : Addr} {xs : List Int} {t u v : Tok} (_ : IsRange hp r 0 (2 + (List.take 6 xs).sum.fmod 2) 1 t u v) : ∃ mny : Nat, 2 + (List.take 6 xs).sum.fmod 2 = (mny : Int) ∧ (mny = 2 ∨ mny = 3) ∧ (List.take 6 xs).length ≤ 6 := by
  have h1 := Int.fmod_nonneg_of_pos (List.take 6 xs).sum (by decide : (0 : Int) < 2)
  have h2 := Int.fmod_lt_of_pos (List.take 6 xs).sum (by decide : (0 : Int) < 2)
  exact ⟨(2 + (List.take 6 xs).sum.fmod 2).toNat, by lia, by lia, List.length_take_le _ _⟩
local macro_rules | `(tactic| walk_at "storeName") => `(tactic| (k_here; (rename MarkS _ => lMk'); k_dflt (refine' storeX_C (by k_asm) (by k_asm) (by exact rfl) (by first | exact updB1 lMk' (by assumption) (by assumption) (by assumption) | exact updC1 lMk' (by assumption) (by assumption) | exact updA2 lMk' (by assumption) (by assumption) (by assumption)) (by k_asm) ?_ (by exact rfl) (by exact rfl)); walk_at "my eFN"))
set_option linter.unusedVariables false in
theorem main : PySem.Challenge.rw_ik0163_01.Holds := by
  w_on
  refine hdX (by rfl) (by rfl) (by rfl) ?_
  k_go0
  all_goals try k_fold
  refine genQ ?_
  intro Qm hQm
  (k_steps; repeat' ((first | ((with_reducible refine PauseK.mk (n := 0) ?_); with_reducible (k_here; lcg_calm; k_dflt (refine LCg.ListComp_U (F₀ := by k_asm) (by with_unfolding_all rfl) (by decide) (by rfl) (by decide) (by rfl) ?_))) | ((with_reducible refine PauseK.mk (n := 1) ?_); with_reducible (k_here; (rename News _ _ _ _ => lN'); k_dflt (refine' item_K lN' ?k1 ?k0 ?k2 ?k3 ?_ ?k4; (case k1 => first | k_mem | kst_mem); (case k0 => lia); (case k2 => assumption); (case k3 => lia); (case k4 => with_unfolding_all rfl)); (try dsimp only))) | ((with_reducible refine PauseK.mk (n := 2) ?_); with_reducible (k_here; k_dflt (refine' cat_K (by k_asm) (by k_asm) (by k_mem) (by kst_mem) (by k_asm) (by k_asm) (by first | assumption | lia) ?_); ((rename Fr _ _ _ _ => lF'); (rename News _ _ _ _ => lN'); clear lF' lN'; intros; (try dsimp only)))) | ((with_reducible refine PauseK.mk (n := 3) ?_); with_reducible (k_here; (rename Fr _ _ _ _ => lF'); (with_unfolding_all refine' For_turns lF' ?_; k_whole))) | ((with_reducible refine PauseK.mk (n := 4) ?_); with_reducible (k_here; (with_reducible show wpAny _ _ (subscriptTail (Expr.Subscript _ _ _) _ (Value.ref _) (Value.int _ _)) _ _ _); k_dflt (refine' tup_K (by k_asm) (by first | assumption | kst_mem) (by decide) (by decide) (by exact rfl) (by exact rfl) ?_ (by with_unfolding_all rfl)); (try dsimp only))) | ((with_reducible refine PauseK.mk (n := 5) ?_); with_reducible (k_here; k_dflt (refine' eq_ints_known (by k_asm) (by first | k_mem | kst_mem) (by k_asm) (by k_mem) IntsAre.nil (by units_room) (by k_asm) ?_); (try dsimp only)))); k_steps))
  rename_i hh1 tkk wA wB wC wD wE wF lfA lfB lfC lfD lfE rt X0 XG TG KG l0 aN wsN h1 hIN hCN hLN lN h2 oN dN h3 tk3 t3 h4 oM dM tk4 l1A h5 q5 l2A h6 q6 l3A h7 q7 lMo h8 q8 h9 oMo FX NX dMo h10 tk10 t10 u10 v10 hRng F1 N1 hkeep
  refine Pause.mk ?_
  rename Shared => s1
  rename World => w
  obtain ⟨R0, hR0, N2⟩ := packR N1 lN.1 q5.1 q6.1 q7.1 q8.1
  generalize s1.heap.objs.size = LL at hR0 N2 F1 l0 ⊢
  obtain ⟨mny, hmny, h23, h6⟩ := many_nat hRng
  have hm3 : mny ≤ 3 := h23.elim (fun e => e ▸ (by decide : 2 ≤ 3)) fun e => e ▸ Nat.le_refl 3
  have hsm := small_one (a := 0) (b := (mny : Int)) (by decide) (by decide) (Int.le_trans (by decide : -(2 ^ 62) ≤ 0) (Int.natCast_nonneg _)) (Int.lt_of_le_of_lt (Int.ofNat_le.mpr hm3) (by decide))
  rw [← hmny] at hsm
  refine LCg.CompSrc.range (n := mny) rfl F1 N2 hRng hsm (by rw [hmny, rangeSize_nat]; lia) (by rw [sizeLine_eq]; exact Nat.le_trans hm3 (by decide)) ?_
  intro g9
  refine comp_invL (fun i ys nx => ∃ R afs, nx = LedL LL wA wB wC oMo oM oN R ∧ RF LL lMo aN [.ref l1A, .ref l2A, .ref l3A] wsN R ∧ ys = afs.map (fun (q : Addr × Fld) => Value.ref q.1) ∧ afs.length = i ∧ ∀ q ∈ afs, FldAt w R q.1 q.2) ⟨R0, [], rfl, hR0, rfl, rfl, fun q hq => by cases hq⟩ ?_ ?_
  · rintro i v ys nx a oa C oC D m₂ h tk E' hi ⟨tv, rfl⟩ ⟨R, afs, rfl, hR, rfl, hal, hF⟩ hC hx F7 N7 off ne
    obtain ⟨la, vL, msL, nL, e1, e2, e3, e4⟩ := hR.more i (by lia)
    have m1 := hR.mMo
    have m2 := hR.mN
    have e1' : ([.ref l1A, .ref l2A, .ref l3A] : List Value)[((0 : Int) + (i : Int)).toNat]? = some (.ref la) := by
      rw [Int.zero_add, Int.toNat_natCast]; exact e1
    have i0 : (0 : Int) ≤ 0 + (i : Int) := by lia
    have hk2 : (2 : Int) ≤ (mny : Int) := by lia
    rw [← hmny] at hk2
    refine genQE ?_
    intro Qf Ef hQf
    (k_steps; repeat' ((first | ((with_reducible refine PauseK.mk (n := 0) ?_); with_reducible (k_here; lcg_calm; k_dflt (refine LCg.ListComp_U (F₀ := by k_asm) (by with_unfolding_all rfl) (by decide) (by rfl) (by decide) (by rfl) ?_))) | ((with_reducible refine PauseK.mk (n := 1) ?_); with_reducible (k_here; (rename News _ _ _ _ => lN'); k_dflt (refine' item_K lN' ?k1 ?k0 ?k2 ?k3 ?_ ?k4; (case k1 => first | k_mem | kst_mem); (case k0 => lia); (case k2 => assumption); (case k3 => lia); (case k4 => with_unfolding_all rfl)); (try dsimp only))) | ((with_reducible refine PauseK.mk (n := 2) ?_); with_reducible (k_here; k_dflt (refine' cat_K (by k_asm) (by k_asm) (by k_mem) (by kst_mem) (by k_asm) (by k_asm) (by first | assumption | lia) ?_); ((rename Fr _ _ _ _ => lF'); (rename News _ _ _ _ => lN'); clear lF' lN'; intros; (try dsimp only)))) | ((with_reducible refine PauseK.mk (n := 3) ?_); with_reducible (k_here; (rename Fr _ _ _ _ => lF'); (with_unfolding_all refine' For_turns lF' ?_; k_whole))) | ((with_reducible refine PauseK.mk (n := 4) ?_); with_reducible (k_here; (with_reducible show wpAny _ _ (subscriptTail (Expr.Subscript _ _ _) _ (Value.ref _) (Value.int _ _)) _ _ _); k_dflt (refine' tup_K (by k_asm) (by first | assumption | kst_mem) (by decide) (by decide) (by exact rfl) (by exact rfl) ?_ (by with_unfolding_all rfl)); (try dsimp only))) | ((with_reducible refine PauseK.mk (n := 5) ?_); with_reducible (k_here; k_dflt (refine' eq_ints_known (by k_asm) (by first | k_mem | kst_mem) (by k_asm) (by k_mem) IntsAre.nil (by units_room) (by k_asm) ?_); (try dsimp only)))); k_steps))
    rename Fr _ _ _ _ => F8
    rename News _ _ _ _ => N8
    rename IntsAre _ (_ ++ _) => hI8
    refine Pause.mk ?_
    with_unfolding_all refine' c139 _ _ _ _ _ _ _ _ _ _ _ (List.mem_cons_self ..) hI8 ?kl _ _ _ _ _ _ _ _ _ _ _ _ _ _ _ _ _ ?uB F8 ?uX N8 ?uT ?uk ?ud ?uu ?_
    case kl => rw [List.length_append]; lia
    case uB => k_asm
    case uX => k_asm
    case uT => k_asm
    case uk => first | exact rfl | assumption
    case ud => ktr_room
    case uu => ktr_units
    rintro v9 add h9' tk9 ⟨af, f, rfl, hf1, hf2⟩ F9 N9
    (k_steps; repeat' ((first | ((with_reducible refine PauseK.mk (n := 0) ?_); with_reducible (k_here; lcg_calm; k_dflt (refine LCg.ListComp_U (F₀ := by k_asm) (by with_unfolding_all rfl) (by decide) (by rfl) (by decide) (by rfl) ?_))) | ((with_reducible refine PauseK.mk (n := 1) ?_); with_reducible (k_here; (rename News _ _ _ _ => lN'); k_dflt (refine' item_K lN' ?k1 ?k0 ?k2 ?k3 ?_ ?k4; (case k1 => first | k_mem | kst_mem); (case k0 => lia); (case k2 => assumption); (case k3 => lia); (case k4 => with_unfolding_all rfl)); (try dsimp only))) | ((with_reducible refine PauseK.mk (n := 2) ?_); with_reducible (k_here; k_dflt (refine' cat_K (by k_asm) (by k_asm) (by k_mem) (by kst_mem) (by k_asm) (by k_asm) (by first | assumption | lia) ?_); ((rename Fr _ _ _ _ => lF'); (rename News _ _ _ _ => lN'); clear lF' lN'; intros; (try dsimp only)))) | ((with_reducible refine PauseK.mk (n := 3) ?_); with_reducible (k_here; (rename Fr _ _ _ _ => lF'); (with_unfolding_all refine' For_turns lF' ?_; k_whole))) | ((with_reducible refine PauseK.mk (n := 4) ?_); with_reducible (k_here; (with_reducible show wpAny _ _ (subscriptTail (Expr.Subscript _ _ _) _ (Value.ref _) (Value.int _ _)) _ _ _); k_dflt (refine' tup_K (by k_asm) (by first | assumption | kst_mem) (by decide) (by decide) (by exact rfl) (by exact rfl) ?_ (by with_unfolding_all rfl)); (try dsimp only))) | ((with_reducible refine PauseK.mk (n := 5) ?_); with_reducible (k_here; k_dflt (refine' eq_ints_known (by k_asm) (by first | k_mem | kst_mem) (by k_asm) (by k_mem) IntsAre.nil (by units_room) (by k_asm) ?_); (try dsimp only)))); k_steps))
    exact end_fields (ext := [_, _]) F9 N9 hR hal hF hf1 hf2 off
  · rintro ys nx ⟨R, afs, rfl, hR, rfl, hal, hF⟩
    intro D hD tkD FD ND offD
    have hD5 : D ≠ LL + 1 + 1 + 1 + 1 + 1 := Ne.symm offD.2.1
    have hR6 := hR.off
    have hMk : MarkS LL := ⟨trivial⟩
    have hBn : wB.data = .cell none := lfB
    (k_steps; repeat' ((first | ((with_reducible refine PauseK.mk (n := 0) ?_); with_reducible (k_here; lcg_calm; k_dflt (refine LCg.ListComp_U (F₀ := by k_asm) (by with_unfolding_all rfl) (by decide) (by rfl) (by decide) (by rfl) ?_))) | ((with_reducible refine PauseK.mk (n := 1) ?_); with_reducible (k_here; (rename News _ _ _ _ => lN'); k_dflt (refine' item_K lN' ?k1 ?k0 ?k2 ?k3 ?_ ?k4; (case k1 => first | k_mem | kst_mem); (case k0 => lia); (case k2 => assumption); (case k3 => lia); (case k4 => with_unfolding_all rfl)); (try dsimp only))) | ((with_reducible refine PauseK.mk (n := 2) ?_); with_reducible (k_here; k_dflt (refine' cat_K (by k_asm) (by k_asm) (by k_mem) (by kst_mem) (by k_asm) (by k_asm) (by first | assumption | lia) ?_); ((rename Fr _ _ _ _ => lF'); (rename News _ _ _ _ => lN'); clear lF' lN'; intros; (try dsimp only)))) | ((with_reducible refine PauseK.mk (n := 3) ?_); with_reducible (k_here; (rename Fr _ _ _ _ => lF'); (with_unfolding_all refine' For_turns lF' ?_; k_whole))) | ((with_reducible refine PauseK.mk (n := 4) ?_); with_reducible (k_here; (with_reducible show wpAny _ _ (subscriptTail (Expr.Subscript _ _ _) _ (Value.ref _) (Value.int _ _)) _ _ _); k_dflt (refine' tup_K (by k_asm) (by first | assumption | kst_mem) (by decide) (by decide) (by exact rfl) (by exact rfl) ?_ (by with_unfolding_all rfl)); (try dsimp only))) | ((with_reducible refine PauseK.mk (n := 5) ?_); with_reducible (k_here; k_dflt (refine' eq_ints_known (by k_asm) (by first | k_mem | kst_mem) (by k_asm) (by k_mem) IntsAre.nil (by units_room) (by k_asm) ?_); (try dsimp only)))); k_steps))
    rename Obj => oB2
    have h3 : afs.length ≤ 3 := by lia
    have hok : ∀ f ∈ afs.map (·.2), okFld f := by
      intro f hf
      obtain ⟨q, hq, rfl⟩ := List.mem_map.mp hf
      exact (hF q hq).1
    have htk := toks_all (afs.map (·.2)) hok
    have htl8 := toks_len htk.2
    generalize hT9 : toksAll (afs.map (·.2)) = T9 at htk htl8
    generalize hJ9 : joinAll (afs.map (·.2)) = J9 at htk htl8
    rename Fr _ _ _ _ => F3
    rename News _ _ _ _ => N3
    rename _ = Data.cell (some (Value.ref D)) => dB
    refine Pause.mk ?_
    with_unfolding_all refine' c120 _ _ _ _ _ _ _ _ _ _ afs h3 (List.mem_cons_self ..) (fun q hq => (hF q hq).mono fun p hp => by simp [hp]) _ _ _ _ _ _ _ _ _ _ _ _ _ _ _ _ _ ?uB F3 ?uX N3 ?uT ?uk ?ud ?uu ?_
    case uB => k_asm
    case uX => k_asm
    case uT => k_asm
    case uk => first | exact rfl | assumption
    case ud => ktr_room
    case uu => ktr_units
    rintro v4 h4 tk4 ⟨y4, t4, rfl, hy4, hyl4⟩ F4 N4
    rw [hJ9] at hy4
    subst hy4
    have hjl : J9.length ≤ 20000 := by rw [S_len] at hyl4; exact hyl4
    clear F3 N3
    (k_steps; repeat' ((first | ((with_reducible refine PauseK.mk (n := 0) ?_); with_reducible (k_here; lcg_calm; k_dflt (refine LCg.ListComp_U (F₀ := by k_asm) (by with_unfolding_all rfl) (by decide) (by rfl) (by decide) (by rfl) ?_))) | ((with_reducible refine PauseK.mk (n := 1) ?_); with_reducible (k_here; (rename News _ _ _ _ => lN'); k_dflt (refine' item_K lN' ?k1 ?k0 ?k2 ?k3 ?_ ?k4; (case k1 => first | k_mem | kst_mem); (case k0 => lia); (case k2 => assumption); (case k3 => lia); (case k4 => with_unfolding_all rfl)); (try dsimp only))) | ((with_reducible refine PauseK.mk (n := 2) ?_); with_reducible (k_here; k_dflt (refine' cat_K (by k_asm) (by k_asm) (by k_mem) (by kst_mem) (by k_asm) (by k_asm) (by first | assumption | lia) ?_); ((rename Fr _ _ _ _ => lF'); (rename News _ _ _ _ => lN'); clear lF' lN'; intros; (try dsimp only)))) | ((with_reducible refine PauseK.mk (n := 3) ?_); with_reducible (k_here; (rename Fr _ _ _ _ => lF'); (with_unfolding_all refine' For_turns lF' ?_; k_whole))) | ((with_reducible refine PauseK.mk (n := 4) ?_); with_reducible (k_here; (with_reducible show wpAny _ _ (subscriptTail (Expr.Subscript _ _ _) _ (Value.ref _) (Value.int _ _)) _ _ _); k_dflt (refine' tup_K (by k_asm) (by first | assumption | kst_mem) (by decide) (by decide) (by exact rfl) (by exact rfl) ?_ (by with_unfolding_all rfl)); (try dsimp only))) | ((with_reducible refine PauseK.mk (n := 5) ?_); with_reducible (k_here; k_dflt (refine' eq_ints_known (by k_asm) (by first | k_mem | kst_mem) (by k_asm) (by k_mem) IntsAre.nil (by units_room) (by k_asm) ?_); (try dsimp only)))); k_steps))
    rename Fr _ _ _ _ => F3
    rename News _ _ _ _ => N3
    have hD99 : D ≠ 99 := Ne.symm offD.2.2.2.2.2.2.1
    refine Pause.mk ?_
    with_unfolding_all refine' c85 _ _ _ _ _ _ _ _ _ T9 (led_no99 l0 hD99 hR6) htk.2.symm htk.1 hjl _ _ _ _ _ _ _ _ _ _ _ _ _ _ _ _ _ ?uB F3 ?uX (led_swap N3) ?uT codeHd ?uk ?ud ?uu ?_
    case uB => k_asm
    case uX => k_asm
    case uT => k_asm
    case uk => first | exact rfl | assumption
    case ud => ktr_room
    case uu => ktr_units
    rintro v5 h5' tk5 ⟨y5, t5, ps5, rfl, hy5, N5⟩ F5
    replace N5 := led_99 N5
    generalize hx9 : toldOf T9 = x9 at hy5
    subst hy5
    clear F3 N3
    (k_steps; repeat' ((first | ((with_reducible refine PauseK.mk (n := 0) ?_); with_reducible (k_here; lcg_calm; k_dflt (refine LCg.ListComp_U (F₀ := by k_asm) (by with_unfolding_all rfl) (by decide) (by rfl) (by decide) (by rfl) ?_))) | ((with_reducible refine PauseK.mk (n := 1) ?_); with_reducible (k_here; (rename News _ _ _ _ => lN'); k_dflt (refine' item_K lN' ?k1 ?k0 ?k2 ?k3 ?_ ?k4; (case k1 => first | k_mem | kst_mem); (case k0 => lia); (case k2 => assumption); (case k3 => lia); (case k4 => with_unfolding_all rfl)); (try dsimp only))) | ((with_reducible refine PauseK.mk (n := 2) ?_); with_reducible (k_here; k_dflt (refine' cat_K (by k_asm) (by k_asm) (by k_mem) (by kst_mem) (by k_asm) (by k_asm) (by first | assumption | lia) ?_); ((rename Fr _ _ _ _ => lF'); (rename News _ _ _ _ => lN'); clear lF' lN'; intros; (try dsimp only)))) | ((with_reducible refine PauseK.mk (n := 3) ?_); with_reducible (k_here; (rename Fr _ _ _ _ => lF'); (with_unfolding_all refine' For_turns lF' ?_; k_whole))) | ((with_reducible refine PauseK.mk (n := 4) ?_); with_reducible (k_here; (with_reducible show wpAny _ _ (subscriptTail (Expr.Subscript _ _ _) _ (Value.ref _) (Value.int _ _)) _ _ _); k_dflt (refine' tup_K (by k_asm) (by first | assumption | kst_mem) (by decide) (by decide) (by exact rfl) (by exact rfl) ?_ (by with_unfolding_all rfl)); (try dsimp only))) | ((with_reducible refine PauseK.mk (n := 5) ?_); with_reducible (k_here; k_dflt (refine' eq_ints_known (by k_asm) (by first | k_mem | kst_mem) (by k_asm) (by k_mem) IntsAre.nil (by units_room) (by k_asm) ?_); (try dsimp only)))); k_steps))
    rename Fr _ _ _ _ => F3
    rename News _ _ _ _ => N3
    refine Pause.mk ?_
    with_unfolding_all refine' c170T _ _ _ _ _ _ _ x9 _ T9 hx9.symm htk.1 (by lia) _ _ _ _ _ _ _ _ _ _ _ _ _ _ _ _ _ ?uB F3 ?uX N3 ?uT ?uk ?ud ?uu ?_
    case uB => k_asm
    case uX => k_asm
    case uT => k_asm
    case uk => first | exact rfl | assumption
    case ud => ktr_room
    case uu => ktr_units
    rintro v6 add6 h6' tk6 ⟨lP, usP, nP, rfl, rfl, hStP, hqP⟩ F6 N6
    clear F3 N3
    simp only [List.cons_append, List.nil_append] at N6
    (k_steps; repeat' ((first | ((with_reducible refine PauseK.mk (n := 0) ?_); with_reducible (k_here; lcg_calm; k_dflt (refine LCg.ListComp_U (F₀ := by k_asm) (by with_unfolding_all rfl) (by decide) (by rfl) (by decide) (by rfl) ?_))) | ((with_reducible refine PauseK.mk (n := 1) ?_); with_reducible (k_here; (rename News _ _ _ _ => lN'); k_dflt (refine' item_K lN' ?k1 ?k0 ?k2 ?k3 ?_ ?k4; (case k1 => first | k_mem | kst_mem); (case k0 => lia); (case k2 => assumption); (case k3 => lia); (case k4 => with_unfolding_all rfl)); (try dsimp only))) | ((with_reducible refine PauseK.mk (n := 2) ?_); with_reducible (k_here; k_dflt (refine' cat_K (by k_asm) (by k_asm) (by k_mem) (by kst_mem) (by k_asm) (by k_asm) (by first | assumption | lia) ?_); ((rename Fr _ _ _ _ => lF'); (rename News _ _ _ _ => lN'); clear lF' lN'; intros; (try dsimp only)))) | ((with_reducible refine PauseK.mk (n := 3) ?_); with_reducible (k_here; (rename Fr _ _ _ _ => lF'); (with_unfolding_all refine' For_turns lF' ?_; k_whole))) | ((with_reducible refine PauseK.mk (n := 4) ?_); with_reducible (k_here; (with_reducible show wpAny _ _ (subscriptTail (Expr.Subscript _ _ _) _ (Value.ref _) (Value.int _ _)) _ _ _); k_dflt (refine' tup_K (by k_asm) (by first | assumption | kst_mem) (by decide) (by decide) (by exact rfl) (by exact rfl) ?_ (by with_unfolding_all rfl)); (try dsimp only))) | ((with_reducible refine PauseK.mk (n := 5) ?_); with_reducible (k_here; k_dflt (refine' eq_ints_known (by k_asm) (by first | k_mem | kst_mem) (by k_asm) (by k_mem) IntsAre.nil (by units_room) (by k_asm) ?_); (try dsimp only)))); k_steps))
    rename IsRange _ _ _ _ _ _ _ _ => hR2
    rename Fr _ _ _ _ => F3
    rename News _ _ _ _ => N3
    have hlPD : LL + 1 + 1 + 1 + 1 + 1 + 1 < lP := hqP (_, wA) (by simp)
    have hR7 : ∀ p ∈ (lP, listOf usP.toArray nP) :: (D, listOf (List.map (fun (q : Addr × Fld) => Value.ref q.1) afs).toArray (List.map (fun (q : Addr × Fld) => Value.ref q.1) afs).length) :: (99, tabObj ps5) :: R, p.1 ≠ LL + 1 + 1 + 1 + 1 := by
      intro p hp
      rcases List.mem_cons.mp hp with rfl | hp
      · exact Nat.ne_of_gt (Nat.lt_of_succ_lt (Nat.lt_of_succ_lt hlPD))
      rcases List.mem_cons.mp hp with rfl | hp
      · exact Ne.symm offD.2.2.1
      rcases List.mem_cons.mp hp with rfl | hp
      · exact Nat.ne_of_lt (Nat.lt_of_lt_of_le l0 (Nat.le_add_right LL 4))
      · exact Nat.ne_of_gt (Nat.lt_of_succ_lt (Nat.lt_of_succ_lt (hR6 p hp)))
    have hR8 : ∀ p ∈ (lP, listOf usP.toArray nP) :: (D, listOf (List.map (fun (q : Addr × Fld) => Value.ref q.1) afs).toArray (List.map (fun (q : Addr × Fld) => Value.ref q.1) afs).length) :: (99, tabObj ps5) :: R, p.1 ≠ LL + 1 + 1 + 1 + 1 + 1 + 1 := by
      intro p hp
      rcases List.mem_cons.mp hp with rfl | hp
      · exact Nat.ne_of_gt hlPD
      rcases List.mem_cons.mp hp with rfl | hp
      · exact Ne.symm offD.1
      rcases List.mem_cons.mp hp with rfl | hp
      · exact Nat.ne_of_lt (Nat.lt_of_lt_of_le l0 (Nat.le_add_right LL 6))
      · exact Nat.ne_of_gt (hR6 p hp)
    refine Pause.mk ?_
    with_unfolding_all refine' my_forR (σ := SLaw) (y0 := Str.ofString "wrong") (n := mny + 1) (fun c => LedC LL c.oA oB2 c.oC oMo oM oN ((lP, listOf usP.toArray nP) :: (D, listOf (List.map (fun (q : Addr × Fld) => Value.ref q.1) afs).toArray (List.map (fun (q : Addr × Fld) => Value.ref q.1) afs).length) :: (99, tabObj ps5) :: R)) (fun _ => []) [] (fun _ c => (∃ v, c.oA.data = .cell v) ∧ ∃ v, c.oC.data = .cell v) ⟨wA, wC⟩ ?kh F3 (led_mv N3) hR2 ?kn ?kz ?kk ⟨⟨_, lfA⟩, ⟨_, lfC⟩⟩ ?turn ?done
    case kh => exact rfl
    case kn => lia
    case kz => lia
    case kk => intro p hp; cases hp
    case turn =>
      rintro I hI i tj ⟨oA9, oC9⟩ u h tk oI hi ⟨⟨vA, hA9⟩, ⟨vC, hC9⟩⟩ hcI F2 N2
      dsimp only at hA9 hC9 F2 N2
      have hI6 : LL + 1 + 1 + 1 + 1 + 1 + 1 < I := hI (_, wA) (by simp)
      have hI4 : I ≠ LL + 1 + 1 + 1 + 1 := Nat.ne_of_gt (Nat.lt_of_succ_lt (Nat.lt_of_succ_lt hI6))
      have hI7 : I ≠ LL + 1 + 1 + 1 + 1 + 1 + 1 := Nat.ne_of_gt hI6
      (k_steps; repeat' ((first | ((with_reducible refine PauseK.mk (n := 0) ?_); with_reducible (k_here; lcg_calm; k_dflt (refine LCg.ListComp_U (F₀ := by k_asm) (by with_unfolding_all rfl) (by decide) (by rfl) (by decide) (by rfl) ?_))) | ((with_reducible refine PauseK.mk (n := 1) ?_); with_reducible (k_here; (rename News _ _ _ _ => lN'); k_dflt (refine' item_K lN' ?k1 ?k0 ?k2 ?k3 ?_ ?k4; (case k1 => first | k_mem | kst_mem); (case k0 => lia); (case k2 => assumption); (case k3 => lia); (case k4 => with_unfolding_all rfl)); (try dsimp only))) | ((with_reducible refine PauseK.mk (n := 2) ?_); with_reducible (k_here; k_dflt (refine' cat_K (by k_asm) (by k_asm) (by k_mem) (by kst_mem) (by k_asm) (by k_asm) (by first | assumption | lia) ?_); ((rename Fr _ _ _ _ => lF'); (rename News _ _ _ _ => lN'); clear lF' lN'; intros; (try dsimp only)))) | ((with_reducible refine PauseK.mk (n := 3) ?_); with_reducible (k_here; (rename Fr _ _ _ _ => lF'); (with_unfolding_all refine' For_turns lF' ?_; k_whole))) | ((with_reducible refine PauseK.mk (n := 4) ?_); with_reducible (k_here; (with_reducible show wpAny _ _ (subscriptTail (Expr.Subscript _ _ _) _ (Value.ref _) (Value.int _ _)) _ _ _); k_dflt (refine' tup_K (by k_asm) (by first | assumption | kst_mem) (by decide) (by decide) (by exact rfl) (by exact rfl) ?_ (by with_unfolding_all rfl)); (try dsimp only))) | ((with_reducible refine PauseK.mk (n := 5) ?_); with_reducible (k_here; k_dflt (refine' eq_ints_known (by k_asm) (by first | k_mem | kst_mem) (by k_asm) (by k_mem) IntsAre.nil (by units_room) (by k_asm) ?_); (try dsimp only)))); k_steps))
      rename IsRange _ _ _ _ _ _ _ _ => hR3
      rename Fr _ _ _ _ => F4
      rename News _ _ _ _ => N4
      refine Pause.mk ?_
      refine LCg.CompSrc.range (n := mny) rfl F4 N4 hR3 hsm (by rw [hmny, rangeSize_nat]; lia) (by rw [sizeLine_eq]; exact Nat.le_trans hm3 (by decide)) ?_
      intro g10
      refine comp_inv (fun k ys => ∃ ts, Strs ts ys ∧ ts.length = k ∧ ∀ t ∈ ts, t.length ≤ 41) ⟨[], .nil, rfl, fun t h => by cases h⟩ ?_ ?_
      · rintro k v ys a oa C oC D3 m₂ h tk E' hk ⟨tv, rfl⟩ ⟨ts, hts, htl, ht41⟩ hC hx F7 N7 off ne
        obtain ⟨⟨aq, fq⟩, hq⟩ : ∃ q, afs[k]? = some q := ⟨_, List.getElem?_eq_getElem (by lia)⟩
        obtain ⟨⟨o1, o2, o3, o4, o5, o6⟩, th, tm, tt, tx, aT, lI, n6, nn, us2, oT, m1, m2, m3, m4, m5, m6⟩ := hF _ (List.mem_of_getElem? hq)
        have hqv : (afs.map fun (q : Addr × Fld) => Value.ref q.1)[((0 : Int) + (k : Int)).toNat]? = some (.ref aq) := by
          rw [Int.zero_add, Int.toNat_natCast, List.getElem?_map, hq]; rfl
        have k0 : (0 : Int) ≤ 0 + (k : Int) := by lia
        dsimp only at o1 o2 o3 o4 o5 o6 m1 m2 m3 m4 m5 m6
        refine genQE ?_
        intro Qf Ef hQf
        (k_steps; repeat' ((first | ((with_reducible refine PauseK.mk (n := 0) ?_); with_reducible (k_here; lcg_calm; k_dflt (refine LCg.ListComp_U (F₀ := by k_asm) (by with_unfolding_all rfl) (by decide) (by rfl) (by decide) (by rfl) ?_))) | ((with_reducible refine PauseK.mk (n := 1) ?_); with_reducible (k_here; (rename News _ _ _ _ => lN'); k_dflt (refine' item_K lN' ?k1 ?k0 ?k2 ?k3 ?_ ?k4; (case k1 => first | k_mem | kst_mem); (case k0 => lia); (case k2 => assumption); (case k3 => lia); (case k4 => with_unfolding_all rfl)); (try dsimp only))) | ((with_reducible refine PauseK.mk (n := 2) ?_); with_reducible (k_here; k_dflt (refine' cat_K (by k_asm) (by k_asm) (by k_mem) (by kst_mem) (by k_asm) (by k_asm) (by first | assumption | lia) ?_); ((rename Fr _ _ _ _ => lF'); (rename News _ _ _ _ => lN'); clear lF' lN'; intros; (try dsimp only)))) | ((with_reducible refine PauseK.mk (n := 3) ?_); with_reducible (k_here; (rename Fr _ _ _ _ => lF'); (with_unfolding_all refine' For_turns lF' ?_; k_whole))) | ((with_reducible refine PauseK.mk (n := 4) ?_); with_reducible (k_here; (with_reducible show wpAny _ _ (subscriptTail (Expr.Subscript _ _ _) _ (Value.ref _) (Value.int _ _)) _ _ _); k_dflt (refine' tup_K (by k_asm) (by first | assumption | kst_mem) (by decide) (by decide) (by exact rfl) (by exact rfl) ?_ (by with_unfolding_all rfl)); (try dsimp only))) | ((with_reducible refine PauseK.mk (n := 5) ?_); with_reducible (k_here; k_dflt (refine' eq_ints_known (by k_asm) (by first | k_mem | kst_mem) (by k_asm) (by k_mem) IntsAre.nil (by units_room) (by k_asm) ?_); (try dsimp only)))); k_steps))
        · rename Fr _ _ _ _ => Fz
          rename News _ _ _ _ => Nz
          refine LCg.CompEnd.intro Fz Nz _ (fun p h => h) off trivial ⟨rfl, ts ++ [_], hts.append (.cons _ _ .nil), by simp [htl], ?_⟩
          intro t9 ht9
          rcases List.mem_append.mp ht9 with h | h
          · exact ht41 t9 h
          · rcases List.mem_singleton.mp h with rfl
            first | exact o5 | exact Nat.le_trans o4 (by decide)
        · rename Fr _ _ _ _ => Fz
          rename News _ _ _ _ => Nz
          refine LCg.CompEnd.intro Fz Nz _ (fun p h => h) off trivial ⟨rfl, ts ++ [_], hts.append (.cons _ _ .nil), by simp [htl], ?_⟩
          intro t9 ht9
          rcases List.mem_append.mp ht9 with h | h
          · exact ht41 t9 h
          · rcases List.mem_singleton.mp h with rfl
            first | exact o5 | exact Nat.le_trans o4 (by decide)
      · rintro ysT ⟨ts, hts, htl, ht41⟩
        intro D3 hD3 tkD3 FD3 ND3 offD3
        have hD36 : D3 ≠ LL + 1 + 1 + 1 + 1 + 1 + 1 := Ne.symm offD3.2.1
        (k_steps; repeat' ((first | ((with_reducible refine PauseK.mk (n := 0) ?_); with_reducible (k_here; lcg_calm; k_dflt (refine LCg.ListComp_U (F₀ := by k_asm) (by with_unfolding_all rfl) (by decide) (by rfl) (by decide) (by rfl) ?_))) | ((with_reducible refine PauseK.mk (n := 1) ?_); with_reducible (k_here; (rename News _ _ _ _ => lN'); k_dflt (refine' item_K lN' ?k1 ?k0 ?k2 ?k3 ?_ ?k4; (case k1 => first | k_mem | kst_mem); (case k0 => lia); (case k2 => assumption); (case k3 => lia); (case k4 => with_unfolding_all rfl)); (try dsimp only))) | ((with_reducible refine PauseK.mk (n := 2) ?_); with_reducible (k_here; k_dflt (refine' cat_K (by k_asm) (by k_asm) (by k_mem) (by kst_mem) (by k_asm) (by k_asm) (by first | assumption | lia) ?_); ((rename Fr _ _ _ _ => lF'); (rename News _ _ _ _ => lN'); clear lF' lN'; intros; (try dsimp only)))) | ((with_reducible refine PauseK.mk (n := 3) ?_); with_reducible (k_here; (rename Fr _ _ _ _ => lF'); (with_unfolding_all refine' For_turns lF' ?_; k_whole))) | ((with_reducible refine PauseK.mk (n := 4) ?_); with_reducible (k_here; (with_reducible show wpAny _ _ (subscriptTail (Expr.Subscript _ _ _) _ (Value.ref _) (Value.int _ _)) _ _ _); k_dflt (refine' tup_K (by k_asm) (by first | assumption | kst_mem) (by decide) (by decide) (by exact rfl) (by exact rfl) ?_ (by with_unfolding_all rfl)); (try dsimp only))) | ((with_reducible refine PauseK.mk (n := 5) ?_); with_reducible (k_here; k_dflt (refine' eq_ints_known (by k_asm) (by first | k_mem | kst_mem) (by k_asm) (by k_mem) IntsAre.nil (by units_room) (by k_asm) ?_); (try dsimp only)))); k_steps))
        rename IsRange _ _ _ _ _ _ _ _ => hR4
        rename Fr _ _ _ _ => F5z
        rename News _ _ _ _ => N5z
        refine Pause.mk ?_
        refine LCt.CompSrcT.range (n := mny) rfl F5z N5z hR4 hsm (by rw [hmny, rangeSize_nat]; lia) (by rw [sizeLine_eq]; exact Nat.le_trans hm3 (by decide)) ?_
        intro g11
        refine comp_invT (fun k ys => ∃ ns, IntsAre ys ns ∧ decide (ns = []) = (((afs.map (·.2)).zip ts).take k).all fun q => fitsL q.1.is q.2) ⟨[], .nil, rfl⟩ ?_ ?_
        · rintro k v ys a oa C oC D4 m₂ h tk E' hk ⟨tv, rfl⟩ ⟨ns, hns, hall⟩ hC hx F7 N7 off ne
          obtain ⟨⟨aq, fq⟩, hq⟩ : ∃ q, afs[k]? = some q := ⟨_, List.getElem?_eq_getElem (by lia)⟩
          obtain ⟨t9, ht9⟩ : ∃ t9, ts[k]? = some t9 := ⟨_, List.getElem?_eq_getElem (by lia)⟩
          obtain ⟨⟨o1, o2, o3, o4, o5, o6⟩, th, tm, tt, tx, aT, lI, n6, nn, us2, oT, m1, m2, m3, m4, m5, m6⟩ := hF _ (List.mem_of_getElem? hq)
          have hqv : (afs.map fun (q : Addr × Fld) => Value.ref q.1)[((0 : Int) + (k : Int)).toNat]? = some (.ref aq) := by
            rw [Int.zero_add, Int.toNat_natCast, List.getElem?_map, hq]; rfl
          have k0 : (0 : Int) ≤ 0 + (k : Int) := by lia
          dsimp only at o1 o2 o3 o4 o5 o6 m1 m2 m3 m4 m5 m6
          obtain ⟨tt9, htv9⟩ : ∃ tt9, ysT[((0 : Int) + (k : Int)).toNat]? = some (.str (S t9) tt9) := by
            rw [Int.zero_add, Int.toNat_natCast]
            have hky : k < ysT.length := by rw [hts.len]; lia
            obtain ⟨r9, t8, e8, e9⟩ := hts.at (List.getElem?_eq_getElem hky)
            rw [ht9] at e8
            cases e8
            exact ⟨t8, by rw [List.getElem?_eq_getElem hky, e9]⟩
          refine genQE ?_
          intro Qf Ef hQf
          (k_steps; repeat' ((first | ((with_reducible refine PauseK.mk (n := 0) ?_); with_reducible (k_here; lcg_calm; k_dflt (refine LCg.ListComp_U (F₀ := by k_asm) (by with_unfolding_all rfl) (by decide) (by rfl) (by decide) (by rfl) ?_))) | ((with_reducible refine PauseK.mk (n := 1) ?_); with_reducible (k_here; (rename News _ _ _ _ => lN'); k_dflt (refine' item_K lN' ?k1 ?k0 ?k2 ?k3 ?_ ?k4; (case k1 => first | k_mem | kst_mem); (case k0 => lia); (case k2 => assumption); (case k3 => lia); (case k4 => with_unfolding_all rfl)); (try dsimp only))) | ((with_reducible refine PauseK.mk (n := 2) ?_); with_reducible (k_here; k_dflt (refine' cat_K (by k_asm) (by k_asm) (by k_mem) (by kst_mem) (by k_asm) (by k_asm) (by first | assumption | lia) ?_); ((rename Fr _ _ _ _ => lF'); (rename News _ _ _ _ => lN'); clear lF' lN'; intros; (try dsimp only)))) | ((with_reducible refine PauseK.mk (n := 3) ?_); with_reducible (k_here; (rename Fr _ _ _ _ => lF'); (with_unfolding_all refine' For_turns lF' ?_; k_whole))) | ((with_reducible refine PauseK.mk (n := 4) ?_); with_reducible (k_here; (with_reducible show wpAny _ _ (subscriptTail (Expr.Subscript _ _ _) _ (Value.ref _) (Value.int _ _)) _ _ _); k_dflt (refine' tup_K (by k_asm) (by first | assumption | kst_mem) (by decide) (by decide) (by exact rfl) (by exact rfl) ?_ (by with_unfolding_all rfl)); (try dsimp only))) | ((with_reducible refine PauseK.mk (n := 5) ?_); with_reducible (k_here; k_dflt (refine' eq_ints_known (by k_asm) (by first | k_mem | kst_mem) (by k_asm) (by k_mem) IntsAre.nil (by units_room) (by k_asm) ?_); (try dsimp only)))); k_steps))
          rename Fr _ _ _ _ => F8
          rename News _ _ _ _ => N8
          refine Pause.mk ?_
          with_unfolding_all refine' c163 _ _ _ _ _ _ _ lI us2 nn fq.is (S t9) _ ?km m3 o2 o3 ?kx _ _ _ _ _ _ _ _ _ _ _ _ _ _ _ _ _ ?uB F8 ?uX N8 ?uT ?uk ?ud ?uu ?_
          case km => kst_mem
          case kx => rw [S_len]; have := ht41 t9 (List.mem_of_getElem? ht9); lia
          case uB => k_asm
          case uX => k_asm
          case uT => k_asm
          case uk => first | exact rfl | assumption
          case ud => ktr_room
          case uu => ktr_units
          intro v9 h9' tk9 hv9 F9 N9
          dsimp only at hv9
          subst hv9
          clear F8 N8
          have hsn := all_snoc (fun q => fitsL q.1.is q.2) (show (afs.map (·.2))[k]? = some fq by rw [List.getElem?_map, hq]; rfl) ht9
          dsimp only at hsn
          cases hbf : fitsL fq.is t9
          · rw [hbf, Bool.and_false] at hsn
            (k_steps; repeat' ((first | ((with_reducible refine PauseK.mk (n := 0) ?_); with_reducible (k_here; lcg_calm; k_dflt (refine LCg.ListComp_U (F₀ := by k_asm) (by with_unfolding_all rfl) (by decide) (by rfl) (by decide) (by rfl) ?_))) | ((with_reducible refine PauseK.mk (n := 1) ?_); with_reducible (k_here; (rename News _ _ _ _ => lN'); k_dflt (refine' item_K lN' ?k1 ?k0 ?k2 ?k3 ?_ ?k4; (case k1 => first | k_mem | kst_mem); (case k0 => lia); (case k2 => assumption); (case k3 => lia); (case k4 => with_unfolding_all rfl)); (try dsimp only))) | ((with_reducible refine PauseK.mk (n := 2) ?_); with_reducible (k_here; k_dflt (refine' cat_K (by k_asm) (by k_asm) (by k_mem) (by kst_mem) (by k_asm) (by k_asm) (by first | assumption | lia) ?_); ((rename Fr _ _ _ _ => lF'); (rename News _ _ _ _ => lN'); clear lF' lN'; intros; (try dsimp only)))) | ((with_reducible refine PauseK.mk (n := 3) ?_); with_reducible (k_here; (rename Fr _ _ _ _ => lF'); (with_unfolding_all refine' For_turns lF' ?_; k_whole))) | ((with_reducible refine PauseK.mk (n := 4) ?_); with_reducible (k_here; (with_reducible show wpAny _ _ (subscriptTail (Expr.Subscript _ _ _) _ (Value.ref _) (Value.int _ _)) _ _ _); k_dflt (refine' tup_K (by k_asm) (by first | assumption | kst_mem) (by decide) (by decide) (by exact rfl) (by exact rfl) ?_ (by with_unfolding_all rfl)); (try dsimp only))) | ((with_reducible refine PauseK.mk (n := 5) ?_); with_reducible (k_here; k_dflt (refine' eq_ints_known (by k_asm) (by first | k_mem | kst_mem) (by k_asm) (by k_mem) IntsAre.nil (by units_room) (by k_asm) ?_); (try dsimp only)))); k_steps))
            rename Fr _ _ _ _ => Fz
            rename News _ _ _ _ => Nz
            refine LCg.CompEnd.intro Fz Nz _ (fun p h => h) off trivial ⟨rfl, ns ++ [_], ints_snoc hns _ _, ?_⟩
            rw [hsn]
            simp
          · rw [hbf, Bool.and_true] at hsn
            (k_steps; repeat' ((first | ((with_reducible refine PauseK.mk (n := 0) ?_); with_reducible (k_here; lcg_calm; k_dflt (refine LCg.ListComp_U (F₀ := by k_asm) (by with_unfolding_all rfl) (by decide) (by rfl) (by decide) (by rfl) ?_))) | ((with_reducible refine PauseK.mk (n := 1) ?_); with_reducible (k_here; (rename News _ _ _ _ => lN'); k_dflt (refine' item_K lN' ?k1 ?k0 ?k2 ?k3 ?_ ?k4; (case k1 => first | k_mem | kst_mem); (case k0 => lia); (case k2 => assumption); (case k3 => lia); (case k4 => with_unfolding_all rfl)); (try dsimp only))) | ((with_reducible refine PauseK.mk (n := 2) ?_); with_reducible (k_here; k_dflt (refine' cat_K (by k_asm) (by k_asm) (by k_mem) (by kst_mem) (by k_asm) (by k_asm) (by first | assumption | lia) ?_); ((rename Fr _ _ _ _ => lF'); (rename News _ _ _ _ => lN'); clear lF' lN'; intros; (try dsimp only)))) | ((with_reducible refine PauseK.mk (n := 3) ?_); with_reducible (k_here; (rename Fr _ _ _ _ => lF'); (with_unfolding_all refine' For_turns lF' ?_; k_whole))) | ((with_reducible refine PauseK.mk (n := 4) ?_); with_reducible (k_here; (with_reducible show wpAny _ _ (subscriptTail (Expr.Subscript _ _ _) _ (Value.ref _) (Value.int _ _)) _ _ _); k_dflt (refine' tup_K (by k_asm) (by first | assumption | kst_mem) (by decide) (by decide) (by exact rfl) (by exact rfl) ?_ (by with_unfolding_all rfl)); (try dsimp only))) | ((with_reducible refine PauseK.mk (n := 5) ?_); with_reducible (k_here; k_dflt (refine' eq_ints_known (by k_asm) (by first | k_mem | kst_mem) (by k_asm) (by k_mem) IntsAre.nil (by units_room) (by k_asm) ?_); (try dsimp only)))); k_steps))
            rename Fr _ _ _ _ => Fz
            rename News _ _ _ _ => Nz
            refine LCg.CompEnd.intro Fz Nz _ (fun p h => h) off trivial ⟨rfl, ns, hns, ?_⟩
            rw [hsn]
            exact hall
        · rintro ysW ⟨ns, hns, hall⟩
          rw [List.take_of_length_le (by rw [List.length_zip, List.length_map]; lia)] at hall
          intro D4 hD4 tkD4 FD4 ND4 offD4
          (k_steps; repeat' ((first | ((with_reducible refine PauseK.mk (n := 0) ?_); with_reducible (k_here; lcg_calm; k_dflt (refine LCg.ListComp_U (F₀ := by k_asm) (by with_unfolding_all rfl) (by decide) (by rfl) (by decide) (by rfl) ?_))) | ((with_reducible refine PauseK.mk (n := 1) ?_); with_reducible (k_here; (rename News _ _ _ _ => lN'); k_dflt (refine' item_K lN' ?k1 ?k0 ?k2 ?k3 ?_ ?k4; (case k1 => first | k_mem | kst_mem); (case k0 => lia); (case k2 => assumption); (case k3 => lia); (case k4 => with_unfolding_all rfl)); (try dsimp only))) | ((with_reducible refine PauseK.mk (n := 2) ?_); with_reducible (k_here; k_dflt (refine' cat_K (by k_asm) (by k_asm) (by k_mem) (by kst_mem) (by k_asm) (by k_asm) (by first | assumption | lia) ?_); ((rename Fr _ _ _ _ => lF'); (rename News _ _ _ _ => lN'); clear lF' lN'; intros; (try dsimp only)))) | ((with_reducible refine PauseK.mk (n := 3) ?_); with_reducible (k_here; (rename Fr _ _ _ _ => lF'); (with_unfolding_all refine' For_turns lF' ?_; k_whole))) | ((with_reducible refine PauseK.mk (n := 4) ?_); with_reducible (k_here; (with_reducible show wpAny _ _ (subscriptTail (Expr.Subscript _ _ _) _ (Value.ref _) (Value.int _ _)) _ _ _); k_dflt (refine' tup_K (by k_asm) (by first | assumption | kst_mem) (by decide) (by decide) (by exact rfl) (by exact rfl) ?_ (by with_unfolding_all rfl)); (try dsimp only))) | ((with_reducible refine PauseK.mk (n := 5) ?_); with_reducible (k_here; k_dflt (refine' eq_ints_known (by k_asm) (by first | k_mem | kst_mem) (by k_asm) (by k_mem) IntsAre.nil (by units_room) (by k_asm) ?_); (try dsimp only)))); k_steps))
          rename Fr _ _ _ _ => F8
          rename News _ _ _ _ => N8
          refine Pause.mk ?_
          with_unfolding_all refine' c158 _ _ _ _ _ _ _ D D3 _ _ afs ysT ts ?k1 ?k2 (fun q hq => (hF q hq).mono fun p hp => by simp [hp]) hts h3 (by lia) ht41 _ _ _ _ _ _ _ _ _ _ _ _ _ _ _ _ _ ?uB F8 ?uX N8 ?uT ?uk ?ud ?uu ?_
          case k1 => k_mem
          case k2 => k_mem
          case uB => k_asm
          case uX => k_asm
          case uT => k_asm
          case uk => first | exact rfl | assumption
          case ud => ktr_room
          case uu => ktr_units
          rintro v8 h8' tk8 ⟨y8, t8, rfl, hy8, hyl8⟩ F9 N9
          clear F8 N8
          (k_steps; repeat' ((first | ((with_reducible refine PauseK.mk (n := 0) ?_); with_reducible (k_here; lcg_calm; k_dflt (refine LCg.ListComp_U (F₀ := by k_asm) (by with_unfolding_all rfl) (by decide) (by rfl) (by decide) (by rfl) ?_))) | ((with_reducible refine PauseK.mk (n := 1) ?_); with_reducible (k_here; (rename News _ _ _ _ => lN'); k_dflt (refine' item_K lN' ?k1 ?k0 ?k2 ?k3 ?_ ?k4; (case k1 => first | k_mem | kst_mem); (case k0 => lia); (case k2 => assumption); (case k3 => lia); (case k4 => with_unfolding_all rfl)); (try dsimp only))) | ((with_reducible refine PauseK.mk (n := 2) ?_); with_reducible (k_here; k_dflt (refine' cat_K (by k_asm) (by k_asm) (by k_mem) (by kst_mem) (by k_asm) (by k_asm) (by first | assumption | lia) ?_); ((rename Fr _ _ _ _ => lF'); (rename News _ _ _ _ => lN'); clear lF' lN'; intros; (try dsimp only)))) | ((with_reducible refine PauseK.mk (n := 3) ?_); with_reducible (k_here; (rename Fr _ _ _ _ => lF'); (with_unfolding_all refine' For_turns lF' ?_; k_whole))) | ((with_reducible refine PauseK.mk (n := 4) ?_); with_reducible (k_here; (with_reducible show wpAny _ _ (subscriptTail (Expr.Subscript _ _ _) _ (Value.ref _) (Value.int _ _)) _ _ _); k_dflt (refine' tup_K (by k_asm) (by first | assumption | kst_mem) (by decide) (by decide) (by exact rfl) (by exact rfl) ?_ (by with_unfolding_all rfl)); (try dsimp only))) | ((with_reducible refine PauseK.mk (n := 5) ?_); with_reducible (k_here; k_dflt (refine' eq_ints_known (by k_asm) (by first | k_mem | kst_mem) (by k_asm) (by k_mem) IntsAre.nil (by units_room) (by k_asm) ?_); (try dsimp only)))); k_steps))
          rename Fr _ _ _ _ => F8
          rename News _ _ _ _ => N8
          have hpl9 := pieces_len T9
          have hplaw : takenL (piecesOf T9) y8.cps.toList = ((afs.map (·.2)).zip ts).all fun q => fitsL q.1.is q.2 := by
            have hz : ((afs.map (·.2)).zip ts).map (·.1) = afs.map (·.2) := by rw [List.map_fst_zip]; rw [List.length_map]; lia
            have hok2 : ∀ q ∈ (afs.map (·.2)).zip ts, okFld q.1 := fun q hq => hok q.1 (by have := (List.of_mem_zip (a := q.1) (b := q.2) hq).1; exact this)
            have h := plain_law ((afs.map (·.2)).zip ts) hok2
            rw [hz, hT9] at h
            rw [hy8, S_cps]
            exact h
          refine Pause.mk ?_
          with_unfolding_all refine' c177 _ _ _ _ _ _ _ lP nP usP y8 _ (piecesOf T9) ?k1 (by unfold piecesOf; simp) hStP (fun q hq => Nat.le_trans (hpl9.2 q hq) (by lia)) (by have := hpl9.1; lia) (by lia) _ _ _ _ _ _ _ _ _ _ _ _ _ _ _ _ _ ?uB F8 ?uX N8 ?uT ?uk ?ud ?uu ?_
          case k1 => first | k_mem | kst_mem
          case uB => k_asm
          case uX => k_asm
          case uT => k_asm
          case uk => first | exact rfl | assumption
          case ud => ktr_room
          case uu => ktr_units
          intro v9 h9' tk9 hv9 F9 N9
          subst hv9
          rw [hplaw]
          clear F8 N8
          generalize (((afs.map (·.2)).zip ts).all fun q => fitsL q.1.is q.2) = bb at hall ⊢
          clear hplaw
          cases bb
          all_goals (
            (k_steps; repeat' ((first | ((with_reducible refine PauseK.mk (n := 0) ?_); with_reducible (k_here; lcg_calm; k_dflt (refine LCg.ListComp_U (F₀ := by k_asm) (by with_unfolding_all rfl) (by decide) (by rfl) (by decide) (by rfl) ?_))) | ((with_reducible refine PauseK.mk (n := 1) ?_); with_reducible (k_here; (rename News _ _ _ _ => lN'); k_dflt (refine' item_K lN' ?k1 ?k0 ?k2 ?k3 ?_ ?k4; (case k1 => first | k_mem | kst_mem); (case k0 => lia); (case k2 => assumption); (case k3 => lia); (case k4 => with_unfolding_all rfl)); (try dsimp only))) | ((with_reducible refine PauseK.mk (n := 2) ?_); with_reducible (k_here; k_dflt (refine' cat_K (by k_asm) (by k_asm) (by k_mem) (by kst_mem) (by k_asm) (by k_asm) (by first | assumption | lia) ?_); ((rename Fr _ _ _ _ => lF'); (rename News _ _ _ _ => lN'); clear lF' lN'; intros; (try dsimp only)))) | ((with_reducible refine PauseK.mk (n := 3) ?_); with_reducible (k_here; (rename Fr _ _ _ _ => lF'); (with_unfolding_all refine' For_turns lF' ?_; k_whole))) | ((with_reducible refine PauseK.mk (n := 4) ?_); with_reducible (k_here; (with_reducible show wpAny _ _ (subscriptTail (Expr.Subscript _ _ _) _ (Value.ref _) (Value.int _ _)) _ _ _); k_dflt (refine' tup_K (by k_asm) (by first | assumption | kst_mem) (by decide) (by decide) (by exact rfl) (by exact rfl) ?_ (by with_unfolding_all rfl)); (try dsimp only))) | ((with_reducible refine PauseK.mk (n := 5) ?_); with_reducible (k_here; k_dflt (refine' eq_ints_known (by k_asm) (by first | k_mem | kst_mem) (by k_asm) (by k_mem) IntsAre.nil (by units_room) (by k_asm) ?_); (try dsimp only)))); k_steps))
            rename Fr _ _ _ _ => Fz
            rename News _ _ _ _ => Nz
            refine endLaw Fz Nz (by k_mem) (by k_mem) (by k_mem) (fun p hp => ?_) hI ⟨_, by assumption⟩ ⟨_, by assumption⟩ (by walk_at "my same")
            simp only [LedC, List.mem_cons] at hp
            rcases hp with h | h | h | h | h | h | h | h | h | h <;> simp [h])
    case done =>
      rintro ⟨oA9, oC9⟩ u h tk ⟨⟨vA, hA9⟩, ⟨vC, hC9⟩⟩ F2 N2
      dsimp only at hA9 hC9 F2 N2
      (k_steps; repeat' ((first | ((with_reducible refine PauseK.mk (n := 0) ?_); with_reducible (k_here; lcg_calm; k_dflt (refine LCg.ListComp_U (F₀ := by k_asm) (by with_unfolding_all rfl) (by decide) (by rfl) (by decide) (by rfl) ?_))) | ((with_reducible refine PauseK.mk (n := 1) ?_); with_reducible (k_here; (rename News _ _ _ _ => lN'); k_dflt (refine' item_K lN' ?k1 ?k0 ?k2 ?k3 ?_ ?k4; (case k1 => first | k_mem | kst_mem); (case k0 => lia); (case k2 => assumption); (case k3 => lia); (case k4 => with_unfolding_all rfl)); (try dsimp only))) | ((with_reducible refine PauseK.mk (n := 2) ?_); with_reducible (k_here; k_dflt (refine' cat_K (by k_asm) (by k_asm) (by k_mem) (by kst_mem) (by k_asm) (by k_asm) (by first | assumption | lia) ?_); ((rename Fr _ _ _ _ => lF'); (rename News _ _ _ _ => lN'); clear lF' lN'; intros; (try dsimp only)))) | ((with_reducible refine PauseK.mk (n := 3) ?_); with_reducible (k_here; (rename Fr _ _ _ _ => lF'); (with_unfolding_all refine' For_turns lF' ?_; k_whole))) | ((with_reducible refine PauseK.mk (n := 4) ?_); with_reducible (k_here; (with_reducible show wpAny _ _ (subscriptTail (Expr.Subscript _ _ _) _ (Value.ref _) (Value.int _ _)) _ _ _); k_dflt (refine' tup_K (by k_asm) (by first | assumption | kst_mem) (by decide) (by decide) (by exact rfl) (by exact rfl) ?_ (by with_unfolding_all rfl)); (try dsimp only))) | ((with_reducible refine PauseK.mk (n := 5) ?_); with_reducible (k_here; k_dflt (refine' eq_ints_known (by k_asm) (by first | k_mem | kst_mem) (by k_asm) (by k_mem) IntsAre.nil (by units_room) (by k_asm) ?_); (try dsimp only)))); k_steps))
end
end
end Mine
theorem PySem.Challenge.cw_ik0163_01_holds : PySem.Challenge.rw_ik0163_01.Holds := by
  exact Mine.main
