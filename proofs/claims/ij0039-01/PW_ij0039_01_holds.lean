import PyProof.Rows.All
import Wide.All
import OpenK.AllK
import Wide.FinOn
import PySem.Challenge.RW_ij0039_01
set_option Elab.async false
set_option maxRecDepth 100000
set_option maxHeartbeats 8000000
set_option compiler.extract_closed false

section
open PySem PySem.W PyProof.Rows
namespace Mine
/-- a statement of the given text, by its place -/
noncomputable def stm (i : Nat) : Stmt := (PySem.Challenge.pw_ij0039_01.main.body)[i]?.getD (.Pass ⟨0, 0, 0, 0⟩)
noncomputable def fA : Stmt → Arguments
  | .FunctionDef _ a .. => a
  | _ => { posonlyargs := [], args := [], vararg := none, kwonlyargs := [], kw_defaults := [], kwarg := none, defaults := [] }
noncomputable def fB : Stmt → List Stmt
  | .FunctionDef _ _ b .. => b
  | _ => []
noncomputable def fS : Stmt → Scope
  | .FunctionDef _ _ _ _ _ _ s .. => s
  | _ => { kind := .function, names := [], isGenerator := false, isCoroutine := false }
/-- what the top leaves behind: the objects that the law comes to -/
noncomputable def heapK (P : Params) : Frag :=
  (nat_lit 3, { cls := PySem.Value.type "dict", data := PySem.Data.dict #[{ hash := PySem.PyData.keyHash P (PySem.Str.ofString "__name__"), key := PySem.Value.str (PySem.Str.ofString "__name__") 165, val := PySem.Value.str (PySem.Str.ofString "law_ij0039_01") 558 }, { hash := PySem.PyData.keyHash P (PySem.Str.ofString "__doc__"), key := PySem.Value.str (PySem.Str.ofString "__doc__") 166, val := PySem.Value.none }, { hash := PySem.PyData.keyHash P (PySem.Str.ofString "__package__"), key := PySem.Value.str (PySem.Str.ofString "__package__") 167, val := PySem.Value.none }, { hash := PySem.PyData.keyHash P (PySem.Str.ofString "__loader__"), key := PySem.Value.str (PySem.Str.ofString "__loader__") 168, val := PySem.Value.builtin "__main__.__loader__#opaque" }, { hash := PySem.PyData.keyHash P (PySem.Str.ofString "__spec__"), key := PySem.Value.str (PySem.Str.ofString "__spec__") 169, val := PySem.Value.none }, { hash := PySem.PyData.keyHash P (PySem.Str.ofString "__annotations__"), key := PySem.Value.str (PySem.Str.ofString "__annotations__") 170, val := PySem.Value.ref 6 }, { hash := PySem.PyData.keyHash P (PySem.Str.ofString "__builtins__"), key := PySem.Value.str (PySem.Str.ofString "__builtins__") 171, val := PySem.Value.ref 4 }, { hash := PySem.PyData.keyHash P (PySem.Str.ofString "__file__"), key := PySem.Value.str (PySem.Str.ofString "__file__") 173, val := PySem.Value.str (PySem.Str.ofString "/claim/cut.py") 172 }, { hash := PySem.PyData.keyHash P (PySem.Str.ofString "__cached__"), key := PySem.Value.str (PySem.Str.ofString "__cached__") 174, val := PySem.Value.none }, { hash := PySem.PyData.keyHash P (PySem.Str.ofString "_sre"), key := PySem.Value.str (PySem.Str.ofString "_sre") 275, val := PySem.Value.ref 12 }, { hash := PySem.PyData.keyHash P (PySem.Str.ofString "dict_replace_saxutils"), key := PySem.Value.str (PySem.Str.ofString "dict_replace_saxutils") 293, val := PySem.Value.ref 38 }, { hash := PySem.PyData.keyHash P (PySem.Str.ofString "escape"), key := PySem.Value.str (PySem.Str.ofString "escape") 301, val := PySem.Value.ref 89 }, { hash := PySem.PyData.keyHash P (PySem.Str.ofString "escape_saxutils"), key := PySem.Value.str (PySem.Str.ofString "escape_saxutils") 302, val := PySem.Value.ref 47 }, { hash := PySem.PyData.keyHash P (PySem.Str.ofString "unescape"), key := PySem.Value.str (PySem.Str.ofString "unescape") 310, val := PySem.Value.ref 56 }, { hash := PySem.PyData.keyHash P (PySem.Str.ofString "quoteattr"), key := PySem.Value.str (PySem.Str.ofString "quoteattr") 318, val := PySem.Value.ref 65 }, { hash := PySem.PyData.keyHash P (PySem.Str.ofString "_twin_re_1"), key := PySem.Value.str (PySem.Str.ofString "_twin_re_1") 358, val := PySem.Value.ref 70 }, { hash := PySem.PyData.keyHash P (PySem.Str.ofString "translate"), key := PySem.Value.str (PySem.Str.ofString "translate") 367, val := PySem.Value.ref 77 }, { hash := PySem.PyData.keyHash P (PySem.Str.ofString "_special_chars_map"), key := PySem.Value.str (PySem.Str.ofString "_special_chars_map") 515, val := PySem.Value.ref 79 }, { hash := PySem.PyData.keyHash P (PySem.Str.ofString "escape_re"), key := PySem.Value.str (PySem.Str.ofString "escape_re") 523, val := PySem.Value.ref 89 }, { hash := PySem.PyData.keyHash P (PySem.Str.ofString "_translate"), key := PySem.Value.str (PySem.Str.ofString "_translate") 544, val := PySem.Value.ref 96 }, { hash := PySem.PyData.keyHash P (PySem.Str.ofString "_join_translated_parts"), key := PySem.Value.str (PySem.Str.ofString "_join_translated_parts") 557, val := PySem.Value.ref 103 }, { hash := PySem.PyData.keyHash P (PySem.Str.ofString "_law_items"), key := PySem.Value.str (PySem.Str.ofString "_law_items") 570, val := PySem.Value.ref 110 }, { hash := PySem.PyData.keyHash P (PySem.Str.ofString "_law_pattern"), key := PySem.Value.str (PySem.Str.ofString "_law_pattern") 580, val := PySem.Value.ref 117 }, { hash := PySem.PyData.keyHash P (PySem.Str.ofString "_law_names"), key := PySem.Value.str (PySem.Str.ofString "_law_names") 588, val := PySem.Value.ref 124 }, { hash := PySem.PyData.keyHash P (PySem.Str.ofString "_law_signs"), key := PySem.Value.str (PySem.Str.ofString "_law_signs") 594, val := PySem.Value.ref 129 }, { hash := PySem.PyData.keyHash P (PySem.Str.ofString "_law_told"), key := PySem.Value.str (PySem.Str.ofString "_law_told") 600, val := PySem.Value.ref 134 }, { hash := PySem.PyData.keyHash P (PySem.Str.ofString "_law_back"), key := PySem.Value.str (PySem.Str.ofString "_law_back") 608, val := PySem.Value.ref 141 }, { hash := PySem.PyData.keyHash P (PySem.Str.ofString "law"), key := PySem.Value.str (PySem.Str.ofString "law") 621, val := PySem.Value.ref 148 }] 28 }) ::
  (nat_lit 37, { cls := PySem.Value.type "code", data := PySem.Data.fields #[PySem.Value.str (PySem.Str.ofString "dict_replace_saxutils") 284, PySem.Value.str (PySem.Str.ofString "dict_replace_saxutils") 285, PySem.Value.str (PySem.Str.ofString "/claim/cut.py") 286, PySem.Value.int 3 0, PySem.Value.int 2 0, PySem.Value.int 0 0, PySem.Value.int 0 0, PySem.Value.int 3 0, PySem.Value.ref 32, PySem.Value.bool Bool.true, PySem.Value.int 276 0, PySem.Value.ref 33, PySem.Value.none, PySem.Value.ref 34, PySem.Value.ref 35, PySem.Value.ref 36, PySem.Value.int 291 0, PySem.Value.int 3 0, PySem.Value.str (PySem.Str.ofString "/claim/cut.py") 292] }) ::
  (nat_lit 38, { cls := PySem.Value.type "function", data := PySem.Data.func { name := PySem.Str.ofString "dict_replace_saxutils", qualname := PySem.Str.ofString "dict_replace_saxutils", params := fA (stm 2), body := .stmts (fB (stm 2)), scope := fS (stm 2), globals := 3, closure := [], defaults := PySem.Value.none, kwdefaults := PySem.Value.none, doc := PySem.Value.none, pyModule := PySem.Value.str (PySem.Str.ofString "cpy313.xml.sax.saxutils") 282, annotations := Option.none, code := PySem.Value.ref 37, closureTuple := PySem.Value.none, builtins := 0 } }) ::
  (nat_lit 39, { cls := PySem.Value.type "dict", data := PySem.Data.dict #[] }) ::
  (nat_lit 40, { cls := PySem.Value.type "tuple", data := PySem.Data.seq #[PySem.Value.ref 39] }) ::
  (nat_lit 46, { cls := PySem.Value.type "code", data := PySem.Data.fields #[PySem.Value.str (PySem.Str.ofString "escape") 294, PySem.Value.str (PySem.Str.ofString "escape") 295, PySem.Value.str (PySem.Str.ofString "/claim/cut.py") 296, PySem.Value.int 7 0, PySem.Value.int 2 0, PySem.Value.int 0 0, PySem.Value.int 0 0, PySem.Value.int 3 0, PySem.Value.ref 41, PySem.Value.bool Bool.true, PySem.Value.int 276 0, PySem.Value.ref 42, PySem.Value.none, PySem.Value.ref 43, PySem.Value.ref 44, PySem.Value.ref 45, PySem.Value.int 299 0, PySem.Value.int 7 0, PySem.Value.str (PySem.Str.ofString "/claim/cut.py") 300] }) ::
  (nat_lit 47, { cls := PySem.Value.type "function", data := PySem.Data.func { name := PySem.Str.ofString "escape", qualname := PySem.Str.ofString "escape", params := fA (stm 3), body := .stmts (fB (stm 3)), scope := fS (stm 3), globals := 3, closure := [], defaults := PySem.Value.ref 40, kwdefaults := PySem.Value.none, doc := PySem.Value.none, pyModule := PySem.Value.str (PySem.Str.ofString "cpy313.xml.sax.saxutils") 282, annotations := Option.none, code := PySem.Value.ref 46, closureTuple := PySem.Value.none, builtins := 0 } }) ::
  (nat_lit 48, { cls := PySem.Value.type "dict", data := PySem.Data.dict #[] }) ::
  (nat_lit 49, { cls := PySem.Value.type "tuple", data := PySem.Data.seq #[PySem.Value.ref 48] }) ::
  (nat_lit 55, { cls := PySem.Value.type "code", data := PySem.Data.fields #[PySem.Value.str (PySem.Str.ofString "unescape") 303, PySem.Value.str (PySem.Str.ofString "unescape") 304, PySem.Value.str (PySem.Str.ofString "/claim/cut.py") 305, PySem.Value.int 15 0, PySem.Value.int 2 0, PySem.Value.int 0 0, PySem.Value.int 0 0, PySem.Value.int 3 0, PySem.Value.ref 50, PySem.Value.bool Bool.true, PySem.Value.int 276 0, PySem.Value.ref 51, PySem.Value.none, PySem.Value.ref 52, PySem.Value.ref 53, PySem.Value.ref 54, PySem.Value.int 308 0, PySem.Value.int 15 0, PySem.Value.str (PySem.Str.ofString "/claim/cut.py") 309] }) ::
  (nat_lit 56, { cls := PySem.Value.type "function", data := PySem.Data.func { name := PySem.Str.ofString "unescape", qualname := PySem.Str.ofString "unescape", params := fA (stm 5), body := .stmts (fB (stm 5)), scope := fS (stm 5), globals := 3, closure := [], defaults := PySem.Value.ref 49, kwdefaults := PySem.Value.none, doc := PySem.Value.none, pyModule := PySem.Value.str (PySem.Str.ofString "cpy313.xml.sax.saxutils") 282, annotations := Option.none, code := PySem.Value.ref 55, closureTuple := PySem.Value.none, builtins := 0 } }) ::
  (nat_lit 57, { cls := PySem.Value.type "dict", data := PySem.Data.dict #[] }) ::
  (nat_lit 58, { cls := PySem.Value.type "tuple", data := PySem.Data.seq #[PySem.Value.ref 57] }) ::
  (nat_lit 64, { cls := PySem.Value.type "code", data := PySem.Data.fields #[PySem.Value.str (PySem.Str.ofString "quoteattr") 311, PySem.Value.str (PySem.Str.ofString "quoteattr") 312, PySem.Value.str (PySem.Str.ofString "/claim/cut.py") 313, PySem.Value.int 21 0, PySem.Value.int 2 0, PySem.Value.int 0 0, PySem.Value.int 0 0, PySem.Value.int 3 0, PySem.Value.ref 59, PySem.Value.bool Bool.true, PySem.Value.int 276 0, PySem.Value.ref 60, PySem.Value.none, PySem.Value.ref 61, PySem.Value.ref 62, PySem.Value.ref 63, PySem.Value.int 316 0, PySem.Value.int 21 0, PySem.Value.str (PySem.Str.ofString "/claim/cut.py") 317] }) ::
  (nat_lit 65, { cls := PySem.Value.type "function", data := PySem.Data.func { name := PySem.Str.ofString "quoteattr", qualname := PySem.Str.ofString "quoteattr", params := fA (stm 6), body := .stmts (fB (stm 6)), scope := fS (stm 6), globals := 3, closure := [], defaults := PySem.Value.ref 58, kwdefaults := PySem.Value.none, doc := PySem.Value.none, pyModule := PySem.Value.str (PySem.Str.ofString "cpy313.xml.sax.saxutils") 282, annotations := Option.none, code := PySem.Value.ref 64, closureTuple := PySem.Value.none, builtins := 0 } }) ::
  (nat_lit 69, { cls := PySem.Value.type "tuple", data := PySem.Data.seq #[PySem.Value.int 14 0, PySem.Value.int 14 0, PySem.Value.int 4 0, PySem.Value.int 1 0, PySem.Value.int 1 0, PySem.Value.int 9 0, PySem.Value.int 0 0, PySem.Value.int 64 0, PySem.Value.int 0 0, PySem.Value.int 1342177280 0, PySem.Value.int 0 0, PySem.Value.int 0 0, PySem.Value.int 0 0, PySem.Value.int 0 0, PySem.Value.int 0 0, PySem.Value.int 17 0, PySem.Value.int 0 0, PySem.Value.int 13 0, PySem.Value.int 11 0, PySem.Value.int 9 0, PySem.Value.int 0 0, PySem.Value.int 64 0, PySem.Value.int 0 0, PySem.Value.int 1342177280 0, PySem.Value.int 0 0, PySem.Value.int 0 0, PySem.Value.int 0 0, PySem.Value.int 0 0, PySem.Value.int 0 0, PySem.Value.int 17 0, PySem.Value.int 1 0, PySem.Value.int 1 0] }) ::
  (nat_lit 70, { cls := PySem.Value.type "re.Pattern", data := PySem.Data.fields #[PySem.Value.str (PySem.Str.ofString "([&~|])") 322, PySem.Value.int 32 357, PySem.Value.int 1 0, PySem.Value.none, PySem.Value.none, PySem.Value.ref 69, PySem.Value.int 0 0] }) ::
  (nat_lit 76, { cls := PySem.Value.type "code", data := PySem.Data.fields #[PySem.Value.str (PySem.Str.ofString "translate") 359, PySem.Value.str (PySem.Str.ofString "translate") 360, PySem.Value.str (PySem.Str.ofString "/claim/cut.py") 361, PySem.Value.int 34 0, PySem.Value.int 1 0, PySem.Value.int 0 0, PySem.Value.int 0 0, PySem.Value.int 3 0, PySem.Value.ref 71, PySem.Value.bool Bool.true, PySem.Value.int 276 0, PySem.Value.ref 72, PySem.Value.none, PySem.Value.ref 73, PySem.Value.ref 74, PySem.Value.ref 75, PySem.Value.int 365 0, PySem.Value.int 34 0, PySem.Value.str (PySem.Str.ofString "/claim/cut.py") 366] }) ::
  (nat_lit 77, { cls := PySem.Value.type "function", data := PySem.Data.func { name := PySem.Str.ofString "translate", qualname := PySem.Str.ofString "translate", params := fA (stm 9), body := .stmts (fB (stm 9)), scope := fS (stm 9), globals := 3, closure := [], defaults := PySem.Value.none, kwdefaults := PySem.Value.none, doc := PySem.Value.none, pyModule := PySem.Value.str (PySem.Str.ofString "cpy313.fnmatch") 319, annotations := Option.none, code := PySem.Value.ref 76, closureTuple := PySem.Value.none, builtins := 0 } }) ::
  (nat_lit 79, { cls := PySem.Value.type "dict", data := PySem.Data.dict #[{ hash := 40, key := PySem.Value.int 40 371, val := PySem.Value.str (PySem.Str.ofString "\\(") 375 }, { hash := 41, key := PySem.Value.int 41 377, val := PySem.Value.str (PySem.Str.ofString "\\)") 381 }, { hash := 91, key := PySem.Value.int 91 383, val := PySem.Value.str (PySem.Str.ofString "\\[") 387 }, { hash := 93, key := PySem.Value.int 93 389, val := PySem.Value.str (PySem.Str.ofString "\\]") 393 }, { hash := 123, key := PySem.Value.int 123 395, val := PySem.Value.str (PySem.Str.ofString "\\{") 399 }, { hash := 125, key := PySem.Value.int 125 401, val := PySem.Value.str (PySem.Str.ofString "\\}") 405 }, { hash := 63, key := PySem.Value.int 63 407, val := PySem.Value.str (PySem.Str.ofString "\\?") 411 }, { hash := 42, key := PySem.Value.int 42 413, val := PySem.Value.str (PySem.Str.ofString "\\*") 417 }, { hash := 43, key := PySem.Value.int 43 419, val := PySem.Value.str (PySem.Str.ofString "\\+") 423 }, { hash := 45, key := PySem.Value.int 45 425, val := PySem.Value.str (PySem.Str.ofString "\\-") 429 }, { hash := 124, key := PySem.Value.int 124 431, val := PySem.Value.str (PySem.Str.ofString "\\|") 435 }, { hash := 94, key := PySem.Value.int 94 437, val := PySem.Value.str (PySem.Str.ofString "\\^") 441 }, { hash := 36, key := PySem.Value.int 36 443, val := PySem.Value.str (PySem.Str.ofString "\\$") 447 }, { hash := 92, key := PySem.Value.int 92 449, val := PySem.Value.str (PySem.Str.ofString "\\\\") 453 }, { hash := 46, key := PySem.Value.int 46 455, val := PySem.Value.str (PySem.Str.ofString "\\.") 459 }, { hash := 38, key := PySem.Value.int 38 461, val := PySem.Value.str (PySem.Str.ofString "\\&") 465 }, { hash := 126, key := PySem.Value.int 126 467, val := PySem.Value.str (PySem.Str.ofString "\\~") 471 }, { hash := 35, key := PySem.Value.int 35 473, val := PySem.Value.str (PySem.Str.ofString "\\#") 477 }, { hash := 32, key := PySem.Value.int 32 479, val := PySem.Value.str (PySem.Str.ofString "\\ ") 483 }, { hash := 9, key := PySem.Value.int 9 485, val := PySem.Value.str (PySem.Str.ofString "\\\t") 489 }, { hash := 10, key := PySem.Value.int 10 491, val := PySem.Value.str (PySem.Str.ofString "\\\n") 495 }, { hash := 13, key := PySem.Value.int 13 497, val := PySem.Value.str (PySem.Str.ofString "\\\x0d") 501 }, { hash := 11, key := PySem.Value.int 11 503, val := PySem.Value.str (PySem.Str.ofString "\\\x0b") 507 }, { hash := 12, key := PySem.Value.int 12 509, val := PySem.Value.str (PySem.Str.ofString "\\\x0c") 513 }] 24 }) ::
  (nat_lit 88, { cls := PySem.Value.type "code", data := PySem.Data.fields #[PySem.Value.str (PySem.Str.ofString "escape") 516, PySem.Value.str (PySem.Str.ofString "escape") 517, PySem.Value.str (PySem.Str.ofString "/claim/cut.py") 518, PySem.Value.int 40 0, PySem.Value.int 1 0, PySem.Value.int 0 0, PySem.Value.int 0 0, PySem.Value.int 3 0, PySem.Value.ref 83, PySem.Value.bool Bool.true, PySem.Value.int 276 0, PySem.Value.ref 84, PySem.Value.none, PySem.Value.ref 85, PySem.Value.ref 86, PySem.Value.ref 87, PySem.Value.int 520 0, PySem.Value.int 40 0, PySem.Value.str (PySem.Str.ofString "/claim/cut.py") 521] }) ::
  (nat_lit 89, { cls := PySem.Value.type "function", data := PySem.Data.func { name := PySem.Str.ofString "escape", qualname := PySem.Str.ofString "escape", params := fA (stm 12), body := .stmts (fB (stm 12)), scope := fS (stm 12), globals := 3, closure := [], defaults := PySem.Value.none, kwdefaults := PySem.Value.none, doc := PySem.Value.none, pyModule := PySem.Value.str (PySem.Str.ofString "re") 368, annotations := Option.none, code := PySem.Value.ref 88, closureTuple := PySem.Value.none, builtins := 0 } }) ::
  (nat_lit 95, { cls := PySem.Value.type "code", data := PySem.Data.fields #[PySem.Value.str (PySem.Str.ofString "_translate") 526, PySem.Value.str (PySem.Str.ofString "_translate") 527, PySem.Value.str (PySem.Str.ofString "/claim/cut.py") 528, PySem.Value.int 48 0, PySem.Value.int 3 0, PySem.Value.int 0 0, PySem.Value.int 0 0, PySem.Value.int 3 0, PySem.Value.ref 90, PySem.Value.bool Bool.true, PySem.Value.int 276 0, PySem.Value.ref 91, PySem.Value.none, PySem.Value.ref 92, PySem.Value.ref 93, PySem.Value.ref 94, PySem.Value.int 542 0, PySem.Value.int 48 0, PySem.Value.str (PySem.Str.ofString "/claim/cut.py") 543] }) ::
  (nat_lit 96, { cls := PySem.Value.type "function", data := PySem.Data.func { name := PySem.Str.ofString "_translate", qualname := PySem.Str.ofString "_translate", params := fA (stm 15), body := .stmts (fB (stm 15)), scope := fS (stm 15), globals := 3, closure := [], defaults := PySem.Value.none, kwdefaults := PySem.Value.none, doc := PySem.Value.none, pyModule := PySem.Value.str (PySem.Str.ofString "cpy313.fnmatch") 524, annotations := Option.none, code := PySem.Value.ref 95, closureTuple := PySem.Value.none, builtins := 0 } }) ::
  (nat_lit 102, { cls := PySem.Value.type "code", data := PySem.Data.fields #[PySem.Value.str (PySem.Str.ofString "_join_translated_parts") 545, PySem.Value.str (PySem.Str.ofString "_join_translated_parts") 546, PySem.Value.str (PySem.Str.ofString "/claim/cut.py") 547, PySem.Value.int 110 0, PySem.Value.int 2 0, PySem.Value.int 0 0, PySem.Value.int 0 0, PySem.Value.int 3 0, PySem.Value.ref 97, PySem.Value.bool Bool.true, PySem.Value.int 276 0, PySem.Value.ref 98, PySem.Value.none, PySem.Value.ref 99, PySem.Value.ref 100, PySem.Value.ref 101, PySem.Value.int 555 0, PySem.Value.int 110 0, PySem.Value.str (PySem.Str.ofString "/claim/cut.py") 556] }) ::
  (nat_lit 103, { cls := PySem.Value.type "function", data := PySem.Data.func { name := PySem.Str.ofString "_join_translated_parts", qualname := PySem.Str.ofString "_join_translated_parts", params := fA (stm 16), body := .stmts (fB (stm 16)), scope := fS (stm 16), globals := 3, closure := [], defaults := PySem.Value.none, kwdefaults := PySem.Value.none, doc := PySem.Value.none, pyModule := PySem.Value.str (PySem.Str.ofString "cpy313.fnmatch") 524, annotations := Option.none, code := PySem.Value.ref 102, closureTuple := PySem.Value.none, builtins := 0 } }) ::
  (nat_lit 109, { cls := PySem.Value.type "code", data := PySem.Data.fields #[PySem.Value.str (PySem.Str.ofString "_law_items") 560, PySem.Value.str (PySem.Str.ofString "_law_items") 561, PySem.Value.str (PySem.Str.ofString "/claim/cut.py") 562, PySem.Value.int 138 0, PySem.Value.int 1 0, PySem.Value.int 0 0, PySem.Value.int 0 0, PySem.Value.int 3 0, PySem.Value.ref 104, PySem.Value.bool Bool.true, PySem.Value.int 276 0, PySem.Value.ref 105, PySem.Value.none, PySem.Value.ref 106, PySem.Value.ref 107, PySem.Value.ref 108, PySem.Value.int 568 0, PySem.Value.int 138 0, PySem.Value.str (PySem.Str.ofString "/claim/cut.py") 569] }) ::
  (nat_lit 110, { cls := PySem.Value.type "function", data := PySem.Data.func { name := PySem.Str.ofString "_law_items", qualname := PySem.Str.ofString "_law_items", params := fA (stm 18), body := .stmts (fB (stm 18)), scope := fS (stm 18), globals := 3, closure := [], defaults := PySem.Value.none, kwdefaults := PySem.Value.none, doc := PySem.Value.none, pyModule := PySem.Value.str (PySem.Str.ofString "law_ij0039_01") 558, annotations := Option.none, code := PySem.Value.ref 109, closureTuple := PySem.Value.none, builtins := 0 } }) ::
  (nat_lit 116, { cls := PySem.Value.type "code", data := PySem.Data.fields #[PySem.Value.str (PySem.Str.ofString "_law_pattern") 571, PySem.Value.str (PySem.Str.ofString "_law_pattern") 572, PySem.Value.str (PySem.Str.ofString "/claim/cut.py") 573, PySem.Value.int 154 0, PySem.Value.int 1 0, PySem.Value.int 0 0, PySem.Value.int 0 0, PySem.Value.int 3 0, PySem.Value.ref 111, PySem.Value.bool Bool.true, PySem.Value.int 276 0, PySem.Value.ref 112, PySem.Value.none, PySem.Value.ref 113, PySem.Value.ref 114, PySem.Value.ref 115, PySem.Value.int 578 0, PySem.Value.int 154 0, PySem.Value.str (PySem.Str.ofString "/claim/cut.py") 579] }) ::
  (nat_lit 117, { cls := PySem.Value.type "function", data := PySem.Data.func { name := PySem.Str.ofString "_law_pattern", qualname := PySem.Str.ofString "_law_pattern", params := fA (stm 19), body := .stmts (fB (stm 19)), scope := fS (stm 19), globals := 3, closure := [], defaults := PySem.Value.none, kwdefaults := PySem.Value.none, doc := PySem.Value.none, pyModule := PySem.Value.str (PySem.Str.ofString "law_ij0039_01") 558, annotations := Option.none, code := PySem.Value.ref 116, closureTuple := PySem.Value.none, builtins := 0 } }) ::
  (nat_lit 123, { cls := PySem.Value.type "code", data := PySem.Data.fields #[PySem.Value.str (PySem.Str.ofString "_law_names") 581, PySem.Value.str (PySem.Str.ofString "_law_names") 582, PySem.Value.str (PySem.Str.ofString "/claim/cut.py") 583, PySem.Value.int 164 0, PySem.Value.int 1 0, PySem.Value.int 0 0, PySem.Value.int 0 0, PySem.Value.int 3 0, PySem.Value.ref 118, PySem.Value.bool Bool.true, PySem.Value.int 276 0, PySem.Value.ref 119, PySem.Value.none, PySem.Value.ref 120, PySem.Value.ref 121, PySem.Value.ref 122, PySem.Value.int 586 0, PySem.Value.int 164 0, PySem.Value.str (PySem.Str.ofString "/claim/cut.py") 587] }) ::
  (nat_lit 124, { cls := PySem.Value.type "function", data := PySem.Data.func { name := PySem.Str.ofString "_law_names", qualname := PySem.Str.ofString "_law_names", params := fA (stm 20), body := .stmts (fB (stm 20)), scope := fS (stm 20), globals := 3, closure := [], defaults := PySem.Value.none, kwdefaults := PySem.Value.none, doc := PySem.Value.none, pyModule := PySem.Value.str (PySem.Str.ofString "law_ij0039_01") 558, annotations := Option.none, code := PySem.Value.ref 123, closureTuple := PySem.Value.none, builtins := 0 } }) ::
  (nat_lit 128, { cls := PySem.Value.type "code", data := PySem.Data.fields #[PySem.Value.str (PySem.Str.ofString "_law_signs") 589, PySem.Value.str (PySem.Str.ofString "_law_signs") 590, PySem.Value.str (PySem.Str.ofString "/claim/cut.py") 591, PySem.Value.int 169 0, PySem.Value.int 3 0, PySem.Value.int 0 0, PySem.Value.int 0 0, PySem.Value.int 3 0, PySem.Value.ref 125, PySem.Value.bool Bool.true, PySem.Value.int 276 0, PySem.Value.ref 126, PySem.Value.none, PySem.Value.none, PySem.Value.none, PySem.Value.ref 127, PySem.Value.int 592 0, PySem.Value.int 169 0, PySem.Value.str (PySem.Str.ofString "/claim/cut.py") 593] }) ::
  (nat_lit 129, { cls := PySem.Value.type "function", data := PySem.Data.func { name := PySem.Str.ofString "_law_signs", qualname := PySem.Str.ofString "_law_signs", params := fA (stm 21), body := .stmts (fB (stm 21)), scope := fS (stm 21), globals := 3, closure := [], defaults := PySem.Value.none, kwdefaults := PySem.Value.none, doc := PySem.Value.none, pyModule := PySem.Value.str (PySem.Str.ofString "law_ij0039_01") 558, annotations := Option.none, code := PySem.Value.ref 128, closureTuple := PySem.Value.none, builtins := 0 } }) ::
  (nat_lit 133, { cls := PySem.Value.type "code", data := PySem.Data.fields #[PySem.Value.str (PySem.Str.ofString "_law_told") 595, PySem.Value.str (PySem.Str.ofString "_law_told") 596, PySem.Value.str (PySem.Str.ofString "/claim/cut.py") 597, PySem.Value.int 172 0, PySem.Value.int 3 0, PySem.Value.int 0 0, PySem.Value.int 0 0, PySem.Value.int 3 0, PySem.Value.ref 130, PySem.Value.bool Bool.true, PySem.Value.int 276 0, PySem.Value.ref 131, PySem.Value.none, PySem.Value.none, PySem.Value.none, PySem.Value.ref 132, PySem.Value.int 598 0, PySem.Value.int 172 0, PySem.Value.str (PySem.Str.ofString "/claim/cut.py") 599] }) ::
  (nat_lit 134, { cls := PySem.Value.type "function", data := PySem.Data.func { name := PySem.Str.ofString "_law_told", qualname := PySem.Str.ofString "_law_told", params := fA (stm 22), body := .stmts (fB (stm 22)), scope := fS (stm 22), globals := 3, closure := [], defaults := PySem.Value.none, kwdefaults := PySem.Value.none, doc := PySem.Value.none, pyModule := PySem.Value.str (PySem.Str.ofString "law_ij0039_01") 558, annotations := Option.none, code := PySem.Value.ref 133, closureTuple := PySem.Value.none, builtins := 0 } }) ::
  (nat_lit 140, { cls := PySem.Value.type "code", data := PySem.Data.fields #[PySem.Value.str (PySem.Str.ofString "_law_back") 601, PySem.Value.str (PySem.Str.ofString "_law_back") 602, PySem.Value.str (PySem.Str.ofString "/claim/cut.py") 603, PySem.Value.int 188 0, PySem.Value.int 0 0, PySem.Value.int 0 0, PySem.Value.int 0 0, PySem.Value.int 3 0, PySem.Value.ref 135, PySem.Value.bool Bool.true, PySem.Value.int 276 0, PySem.Value.ref 136, PySem.Value.none, PySem.Value.ref 137, PySem.Value.ref 138, PySem.Value.ref 139, PySem.Value.int 606 0, PySem.Value.int 188 0, PySem.Value.str (PySem.Str.ofString "/claim/cut.py") 607] }) ::
  (nat_lit 141, { cls := PySem.Value.type "function", data := PySem.Data.func { name := PySem.Str.ofString "_law_back", qualname := PySem.Str.ofString "_law_back", params := fA (stm 23), body := .stmts (fB (stm 23)), scope := fS (stm 23), globals := 3, closure := [], defaults := PySem.Value.none, kwdefaults := PySem.Value.none, doc := PySem.Value.none, pyModule := PySem.Value.str (PySem.Str.ofString "law_ij0039_01") 558, annotations := Option.none, code := PySem.Value.ref 140, closureTuple := PySem.Value.none, builtins := 0 } }) ::
  (nat_lit 147, { cls := PySem.Value.type "code", data := PySem.Data.fields #[PySem.Value.str (PySem.Str.ofString "law") 609, PySem.Value.str (PySem.Str.ofString "law") 610, PySem.Value.str (PySem.Str.ofString "/claim/cut.py") 611, PySem.Value.int 192 0, PySem.Value.int 1 0, PySem.Value.int 0 0, PySem.Value.int 0 0, PySem.Value.int 3 0, PySem.Value.ref 142, PySem.Value.bool Bool.true, PySem.Value.int 276 0, PySem.Value.ref 143, PySem.Value.none, PySem.Value.ref 144, PySem.Value.ref 145, PySem.Value.ref 146, PySem.Value.int 619 0, PySem.Value.int 192 0, PySem.Value.str (PySem.Str.ofString "/claim/cut.py") 620] }) ::
  (nat_lit 148, { cls := PySem.Value.type "function", data := PySem.Data.func { name := PySem.Str.ofString "law", qualname := PySem.Str.ofString "law", params := fA (stm 24), body := .stmts (fB (stm 24)), scope := fS (stm 24), globals := 3, closure := [], defaults := PySem.Value.none, kwdefaults := PySem.Value.none, doc := PySem.Value.none, pyModule := PySem.Value.str (PySem.Str.ofString "law_ij0039_01") 558, annotations := Option.none, code := PySem.Value.ref 147, closureTuple := PySem.Value.none, builtins := 0 } }) :: []
noncomputable def viewK : Program := { PySem.Challenge.pw_ij0039_01 with main := { PySem.Challenge.pw_ij0039_01.main with body := [stm 0, stm 2, stm 4, stm 8, stm 9, stm 11, stm 12, stm 13, stm 15, stm 16, stm 18, stm 19, stm 20, stm 21, stm 22, stm 23, stm 24] } }
noncomputable def kAs : List Addr := [3, 37, 38, 39, 40, 46, 47, 48, 49, 55, 56, 57, 58, 64, 65, 69, 70, 76, 77, 79, 88, 89, 95, 96, 102, 103, 109, 110, 116, 117, 123, 124, 128, 129, 133, 134, 140, 141, 147, 148]
noncomputable abbrev HH : Hook := kmHook heapK kAs (fun _ => by kernel_rfl) [91]
noncomputable abbrev looseK : List Str := [Str.ofString "escape_saxutils", Str.ofString "unescape", Str.ofString "quoteattr", Str.ofString "_twin_re_1", Str.ofString "_special_chars_map", Str.ofString "escape_re"]
noncomputable abbrev xtK (s : Shared) : Bool := xlAt viewK [] s && recOk (RowW.records (OpenRow.toRowW (OpenLaw.row PySem.Challenge.rw_ij0039_01))) s
noncomputable abbrev topK (w : World) : Prop := (openEnds treeTable PySem.Challenge.rw_ij0039_01.row.prog w 3880).map (fun s => (openSeen viewK looseK (importedModules PySem.Challenge.rw_ij0039_01.row.prog.main.body) xtK true s, HH.obs s)) = some (openGood viewK looseK, HH.val w)
noncomputable def endsQ (p : Program) (w : World) (N : Nat) : Option Shared :=
  ((PySem.W.Fast.tw10274390034422433532 PySem.W.Fast.tw14364793385576792824 (opening p) w N (PySem.W.Fast.tw1435165496053646825 (opening p)).1 (PySem.W.Fast.tw1435165496053646825 (opening p)).2).bind (PySem.W.Fast.tw14289696077712309145 p)).bind fun s₀ =>
  match s₀.heap.isNs mainGlobals && s₀.gens.size == 0 with
  | true => (PySem.W.Fast.tw14082659384304107361 PySem.W.Fast.tw14364793385576792824 p w s₀.heap.objs.size (PySem.W.Fast.tw8920871248978507458 s₀.heap mainGlobals "__annotations__") N s₀ (topStub p)).bind fun s₁ => match staticsOk (importedModules p.main.body) s₀.heap s₁.heap && namesBound p s₁.heap && gensDone s₁ && laidKept s₀.heap s₁.heap with
      | true => some s₁
      | false => none
  | false => none
theorem ends_q (p : Program) (w : World) (N : Nat) : openEnds treeTable p w N = endsQ p w N := by
  unfold endsQ
  rw [← PySem.W.Fast.te10274390034422433532, ← PySem.W.Fast.te14364793385576792824, ← PySem.W.Fast.te1435165496053646825, ← PySem.W.Fast.te14289696077712309145, ← PySem.W.Fast.te14082659384304107361, ← PySem.W.Fast.te8920871248978507458]
  rfl
noncomputable abbrev topQ (w : World) : Prop := (endsQ PySem.Challenge.rw_ij0039_01.row.prog w 3880).map (fun s => (PySem.W.Fast.tw4187177175401517315 viewK looseK (PySem.W.Fast.tw5923862056798008813 PySem.Challenge.rw_ij0039_01.row.prog.main.body) xtK true s, HH.obs s)) = some (openGood viewK looseK, HH.val w)
theorem top_q (w : World) : topQ w → topK w := by
  unfold topQ topK
  rw [← PySem.W.Fast.te4187177175401517315, ← PySem.W.Fast.te5923862056798008813, ends_q]
  exact id
theorem topFF : ∀ w : World, topK ((w.withFollow "special-get-raises" false).withFollow "comprehension-iter-twice" false) := fun w => top_q _ (by kernel_rfl)
theorem topFT : ∀ w : World, topK ((w.withFollow "special-get-raises" true).withFollow "comprehension-iter-twice" false) := fun w => top_q _ (by kernel_rfl)
theorem topTF : ∀ w : World, topK ((w.withFollow "special-get-raises" false).withFollow "comprehension-iter-twice" true) := fun w => top_q _ (by kernel_rfl)
theorem topTT : ∀ w : World, topK ((w.withFollow "special-get-raises" true).withFollow "comprehension-iter-twice" true) := fun w => top_q _ (by kernel_rfl)
theorem topAll : LeftO PySem.Challenge.rw_ij0039_01.row.prog viewK looseK xtK HH.obs HH.val 3880 :=
  byRow2 "comprehension-iter-twice" (P := topK) (byRow2 "special-get-raises" (P := fun w => topK (w.withFollow "comprehension-iter-twice" false)) topFF topFT) (byRow2 "special-get-raises" (P := fun w => topK (w.withFollow "comprehension-iter-twice" true)) topTF topTT)
end Mine
end

section
open PySem PySem.W PyProof.Rows PySem.Spec PySem.Calls
namespace Mine
noncomputable abbrev AtD (d u : Nat) : Around := { depth := d, frames := none, guards := none, units := u }

theorem in_weaken {A : Around} {d u : Nat} {Γ : PySem.Ctx} (h : Γ.In A) (h1 : A.handled = none) (h2 : A.depth ≤ d) (h3 : A.units ≤ u) : Γ.In (AtD d u) :=
  ⟨h.1.trans h1, Nat.le_trans h.2.1 h2, (by intro l e; cases e), (by intro l e; cases e), Nat.le_trans h.2.2.2.2 h3⟩
theorem wp_weaken {α : Type} {M : Model} {A : Around} {t : Sem α} {Q : α → Shared → Prop} {E : Value → Shared → Prop} {s : Shared} {d u : Nat}
    (h : wpAny M (AtD d u) t Q E s) (h1 : A.handled = none) (h2 : A.depth ≤ d) (h3 : A.units ≤ u) : wpAny M A t Q E s :=
  fun Γ p hΓ => h Γ p (in_weaken hΓ h1 h2 h3)

noncomputable abbrev Keeps (h h' : Heap) : Prop := ∀ b o, h.get? b = some o → h'.get? b = some o

theorem call_c {prog : Program} {w : World} {A : Around} {E : Value → Shared → Prop} {s : Shared} {Q : Value → Shared → Prop} {K : Frag}
    {p : Program} {loose : List Str} {mean : ExcName → Option Value} {mg mb : Str → Option Value} {g : Heap}
    {name qual : Str} {params : Arguments} {body₀ body : List Stmt} {scope₀ scope : Scope} {dV kV doc pm cdv ct oc : Value} {an od : Option Addr} {osl : Array (Option Value)} {f : Addr} {args : List Value} {binds : List (Str × Value)}
    (mu : List (Addr × Obj)) (hg : g = hideAll s.heap (mu.map (·.1))) (hm : ∀ q ∈ mu, s.heap.get? q.1 = some q.2)
    (X : K.In g) (T : Top p loose mean mg mb g)
    (ho : K.lookup f = some ⟨oc, od, .func (fnOf name qual params body₀ scope₀ dV kV doc pm an cdv ct), osl⟩) (hcd : codeIn K cdv qual = true) (hroom : A.depth < recursionLimit)
    (hbind : BindsTo s (fnOf name qual params body₀ scope₀ dV kV doc pm an cdv ct) ⟨args, []⟩ binds) (hB : body₀ = body) (hSc : scope₀ = scope) (hloc : ∀ y ∈ binds, scope.names.lookup y.1 = some .local)
    (h : ∀ L' h₁ tk, s.toks ≤ tk → Fr g L' h₁ (fun y => binds.reverse.lookup y) → News g L' h₁ mu → K.In g → Top p loose mean mg mb g →
      wpAny (model prog w) (A.deeper (envOf qual scope L' f cdv)) (execs body (envOf qual scope L' f cdv))
        (fun fl s' => Q (match fl with | .ret v => v | _ => .none) s') (fun _ _ => False) { s with heap := h₁, toks := tk })
    (hco : scope.isCoroutine = false := by rfl) (hgen : scope.isGenerator = false := by rfl) (hk : scope.kind = .function := by rfl)
    (hcell : ∀ x ∈ scope.names, x.2 ≠ .cell := by decide) : wpAny (model prog w) A (call (.ref f) args) Q E s := by
  subst hg hB hSc
  have hk₀ : Keeps (hideAll s.heap (mu.map (·.1))) s.heap := fun b o e => of_hideAll _ e
  have Xs := X.keeps hk₀
  have Ts := T.keeps hk₀
  refine wpAny_call (codeAny_call_def (fd := fnOf name qual params body₀ scope₀ dV kV doc pm an cdv ct) (body := body₀) (binds := binds) hroom (Xs _ _ ho) rfl Ts.nolimit (codeRec_of Xs hcd) rfl hbind hcell hloc (fun h₁ hns hk₁ => ?_) hco hgen hk)
  refine wpAny_mono (h s.heap.objs.size h₁ _ (Nat.le_add_right _ _) ⟨hns, fun b o e => hk₁ b o (of_hideAll _ e), Nat.le_of_eq (hideAll_size _ _)⟩
    (fun q hq => ⟨hk₁ _ _ (hm q hq), Nat.ne_of_lt (Heap.lt_size (hm q hq)), hideAll_none _ (List.mem_map_of_mem hq)⟩) X T) (fun fl s' hl => hl) fun _ _ y => y.elim
end Mine
end

section
open PySem PySem.W PyProof.Rows PySem.Spec PySem.Calls
namespace Mine

theorem fr_keeps {h₀ h h' : Heap} {L : Addr} {m : Str → Option Value} (F : Fr h₀ L h m) (k : Keeps h h') : Fr h₀ L h' m :=
  ⟨F.ns.keeps k, fun b o e => k b o (F.keep b o e), F.above⟩
theorem news_keeps {h₀ h h' : Heap} {L : Addr} {news : List (Addr × Obj)} (N : News h₀ L h news) (k : Keeps h h') : News h₀ L h' news :=
  fun p hp => ⟨k _ _ (N p hp).1, (N p hp).2⟩
theorem news_add {h₀ h h' : Heap} {L D : Addr} {o : Obj} {m : Str → Option Value} {news : List (Addr × Obj)} (F : Fr h₀ L h m) (N : News h₀ L h news) (k : Keeps h h')
    (hD : h'.get? D = some o) (hf : h.get? D = none) : News h₀ L h' ((D, o) :: news) := by
  intro p hp
  rcases List.mem_cons.mp hp with rfl | hp
  · obtain ⟨oL, _, _, e, _⟩ := F.ns
    refine ⟨hD, (fun q => by rw [show D = L from q] at hf; rw [hf] at e; exact (nomatch e)), ?_⟩
    cases q : h₀.get? D with
    | none => rfl
    | some o' => have := F.keep _ _ q; rw [hf] at this; cases this
  · exact news_keeps N k p hp

noncomputable abbrev dObj (es : List DictEntry) (ep : Nat) : Obj := { cls := .type "dict", data := .dict es.toArray ep }
noncomputable abbrev ent (w : World) (k : Str) (t : Tok) (v : Str) (t' : Tok) : DictEntry := ⟨hashStr w k, .str k t, .str v t'⟩
inductive Ents (w : World) : List DictEntry → List (Str × Str) → Prop
  | nil : Ents w [] []
  | cons {k v : Str} {t t' : Tok} {es : List DictEntry} {kvs : List (Str × Str)} (h1 : t ≠ 0) (h2 : t' ≠ 0) (h3 : t ≠ t') (r : Ents w es kvs) : Ents w (ent w k t v t' :: es) ((k, v) :: kvs)
variable {prog : Program} {w : World} {A : Around} {E : Value → Shared → Prop} {s : Shared}
theorem Ents.append {a b : List DictEntry} {x y : List (Str × Str)} (h : Ents w a x) (g : Ents w b y) : Ents w (a ++ b) (x ++ y) := by
  induction h with
  | nil => exact g
  | cons h1 h2 h3 _ ih => exact .cons h1 h2 h3 ih
theorem Ents.length {a : List DictEntry} {x : List (Str × Str)} (h : Ents w a x) : a.length = x.length := by
  induction h with
  | nil => rfl
  | cons h1 h2 h3 _ ih => simp [ih]
theorem Ents.mem {a : List DictEntry} {x : List (Str × Str)} (h : Ents w a x) : ∀ e ∈ a, ∃ k v t t', e = ent w k t v t' ∧ (k, v) ∈ x ∧ t ≠ 0 ∧ t' ≠ 0 ∧ t ≠ t' := by
  induction h with
  | nil => intro e he; cases he
  | cons h1 h2 h3 _ ih =>
    intro e he
    rcases List.mem_cons.mp he with rfl | he
    · exact ⟨_, _, _, _, rfl, .head _, h1, h2, h3⟩
    · obtain ⟨k, v, t, t', e1, e2, r⟩ := ih e he
      exact ⟨k, v, t, t', e1, .tail _ e2, r⟩
theorem Ents.get {a : List DictEntry} {x : List (Str × Str)} (h : Ents w a x) : ∀ (i : Nat) (k v : Str), x[i]? = some (k, v) → ∃ t t', a[i]? = some (ent w k t v t') ∧ t ≠ 0 ∧ t' ≠ 0 ∧ t ≠ t' := by
  induction h with
  | nil => intro i k v e; simp at e
  | cons h1 h2 h3 _ ih =>
    intro i k v e
    cases i with
    | zero => simp only [List.getElem?_cons_zero, Option.some.injEq, Prod.mk.injEq] at e; obtain ⟨rfl, rfl⟩ := e; exact ⟨_, _, rfl, h1, h2, h3⟩
    | succ i => simp only [List.getElem?_cons_succ] at e ⊢; exact ih i k v e
theorem Ents.keysOf {a : List DictEntry} {x : List (Str × Str)} (h : Ents w a x) : KeysOf (strKind prog w) a.toArray := by
  intro e he
  obtain ⟨k, v, t, t', rfl, _⟩ := h.mem e (by simpa using he)
  exact ⟨k, (strKind_is prog w k t), rfl⟩
theorem isStr_ne {k k' : Str} {t : Tok} (h : k ≠ k') : Value.isStrOf k (.str k' t) = false := by
  unfold Value.isStrOf
  simpa using Ne.symm h
theorem Ents.notFound {a : List DictEntry} {x : List (Str × Str)} (h : Ents w a x) {k : Str} (hk : k ∉ x.map (·.1)) : (a.toArray.findIdx? fun e => (strKind prog w).is k e.key) = none := by
  rw [Array.findIdx?_eq_none_iff]
  intro e he
  obtain ⟨k', v, t, t', rfl, hm, _⟩ := h.mem e (by simpa using he)
  have := isStr_ne (t := t) (k := k) (k' := k') fun q => hk (List.mem_map.mpr ⟨(k', v), hm, q.symm⟩)
  simpa [PySem.strKind] using this

theorem setH_new {d : Addr} {es : List DictEntry} {ep : Nat} {kvs : List (Str × Str)} {k v : Str} {t t' : Tok} {Q : Unit → Shared → Prop}
    (ho : s.heap.get? d = some (dObj es ep)) (he : Ents w es kvs) (hk : k ∉ kvs.map (·.1)) (hl : kvs.length ≤ 1000)
    (hQ : ∀ h', h'.get? d = some (dObj (es ++ [ent w k t v t']) (ep + 1)) → Heap.SameBut d s.heap h' → Q () { s with heap := h' }) :
    wpAny (model prog w) A (dictSetHashed d (.str k t) (hashStr w k) (.str v t')) Q E s := by
  have hes : es.toArray.size ≤ sizeLine := by rw [List.size_toArray, he.length, sizeLine_eq]; omega
  unfold dictSetHashed
  try with_reducible refine wpAny_holding ?_
  refine wpAny_bind (wpAny_dictFind_of (knd := strKind prog w) (k := k) (strKind_is prog w k t) ho rfl he.keysOf ?_)
  rw [he.notFound hk]
  refine wpAny_bind (wpAny_rule (wpAny_updateDictKeys (hz := hes) ho rfl (hQ _ ?_ (Heap.SameBut.update ..))))
  rw [Heap.get?_update_self _ ho (Obj.isFreed_of_dict (Obj.data_mapDictKeys rfl _))]
  simp [Obj.mapDictKeys]
theorem put_new {d : Addr} {es : List DictEntry} {ep : Nat} {kvs : List (Str × Str)} {k v : Str} {t t' : Tok} {Q : Unit → Shared → Prop}
    (ho : s.heap.get? d = some (dObj es ep)) (he : Ents w es kvs) (hk : k ∉ kvs.map (·.1)) (hl : kvs.length ≤ 1000)
    (hQ : ∀ h', h'.get? d = some (dObj (es ++ [ent w k t v t']) (ep + 1)) → Heap.SameBut d s.heap h' → Q () { s with heap := h' }) :
    wpAny (model prog w) A (dictPut d (hashStr w k) (.str k t) (.str v t')) Q E s := by
  have hes : es.toArray.size ≤ sizeLine := by rw [List.size_toArray, he.length, sizeLine_eq]; omega
  unfold dictPut
  refine wpAny_bind (wpAny_dictFind_of (knd := strKind prog w) (k := k) (strKind_is prog w k t) ho rfl he.keysOf ?_)
  rw [he.notFound hk]
  refine wpAny_updateDictKeys (hz := hes) ho rfl (hQ _ ?_ (Heap.SameBut.update ..))
  rw [Heap.get?_update_self _ ho (Obj.isFreed_of_dict (Obj.data_mapDictKeys rfl _))]
  simp [Obj.mapDictKeys]
theorem set_new {d : Addr} {es : List DictEntry} {ep : Nat} {kvs : List (Str × Str)} {k v : Str} {t t' : Tok} {Q : Unit → Shared → Prop}
    (ho : s.heap.get? d = some (dObj es ep)) (he : Ents w es kvs) (hk : k ∉ kvs.map (·.1)) (hl : kvs.length ≤ 1000)
    (hQ : ∀ h', h'.get? d = some (dObj (es ++ [ent w k t v t']) (ep + 1)) → Heap.SameBut d s.heap h' → Q () { s with heap := h', toks := s.toks + 1 }) :
    wpAny (model prog w) A (dictSet d (.str k t) (.str v t')) Q E s := by
  unfold dictSet
  try with_reducible refine wpAny_holding ?_
  exact wpAny_bind ((strKind prog w).pyHash (k := k) (strKind_is prog w k t) (setH_new (s := { s with toks := s.toks + 1 }) ho he hk hl hQ))

theorem storeAll_k {d : Addr} {new : List DictEntry} {nkv : List (Str × Str)} (hn : Ents w new nkv) : ∀ (es : List DictEntry) (kvs : List (Str × Str)) (ep : Nat) (s : Shared) (Q : PUnit → Shared → Prop),
    s.heap.get? d = some (dObj es ep) → Ents w es kvs → ((kvs ++ nkv).map (·.1)).Nodup → (kvs ++ nkv).length ≤ 1000 →
    (∀ h' tk ep', h'.get? d = some (dObj (es ++ new) ep') → Heap.SameBut d s.heap h' → s.toks ≤ tk → Q PUnit.unit { s with heap := h', toks := tk }) →
    wpAny (model prog w) A (forIn (new.map fun e => (e.key, e.val)) PUnit.unit fun (x : Value × Value) (_ : PUnit) => (do dictSet d x.1 x.2; pure (ForInStep.yield PUnit.unit) : Sem (ForInStep PUnit))) Q E s := by
  induction hn with
  | nil =>
    intro es kvs ep s Q ho he hd hl hQ
    rw [List.map_nil, List.forIn_nil]
    exact wpAny_pure (hQ s.heap s.toks ep (by simpa using ho) (Heap.SameBut.refl _ _) (Nat.le_refl _))
  | @cons k v t t' es₂ kvs₂ h1 h2 h3 _ ih =>
    intro es kvs ep s Q ho he hd hl hQ
    rw [List.map_cons, List.forIn_cons]
    have hk : k ∉ kvs.map (·.1) := by
      intro hm
      rw [List.map_append, List.map_cons, List.nodup_append] at hd
      exact hd.2.2 k hm k (.head _) rfl
    refine wpAny_bind (wpAny_bind (set_new ho he hk (by simp at hl; omega) fun h₁ e₁ s₁ => wpAny_pure ?_))
    refine ih (es ++ [ent w k t v t']) (kvs ++ [(k, v)]) (ep + 1) _ _ e₁ (he.append (.cons h1 h2 h3 .nil)) (by simpa using hd) (by simpa using hl) fun h' tk ep' e₂ s₂ ht => ?_
    have := hQ h' tk ep' (by simpa using e₂) (s₁.trans s₂) (Nat.le_of_succ_le ht)
    simpa using this

noncomputable def constOf : Expr → Option Str
  | .Constant (.str k) _ _ => some k
  | _ => none
noncomputable def constPairs : List (Option Expr) → List Expr → Option (List (Str × Str))
  | [], [] => some []
  | some k :: ks, v :: vs => match constOf k, constOf v, constPairs ks vs with
    | some a, some b, some r => some ((a, b) :: r)
    | _, _, _ => none
  | _, _ => none
noncomputable def cTrees (env : Env) (pos : Pos) : List (Option Expr) → List Expr → List (Sem Value × Sem Value)
  | some k :: ks, v :: vs => (eval k env, do let x ← eval v env; standAt pos; pure x) :: cTrees env pos ks vs
  | _, _ => []
theorem constOf_eq {e : Expr} {k : Str} (h : constOf e = some k) : ∃ n p, e = .Constant (.str k) n p := by
  unfold constOf at h
  split at h
  · cases h; exact ⟨_, _, rfl⟩
  · cases h
theorem constPairs_cons {ks : List (Option Expr)} {vs : List Expr} {x : Str × Str} {r : List (Str × Str)} (h : constPairs ks vs = some (x :: r)) :
    ∃ n p n' p' ks' vs', ks = some (.Constant (.str x.1) n p) :: ks' ∧ vs = .Constant (.str x.2) n' p' :: vs' ∧ constPairs ks' vs' = some r := by
  unfold constPairs at h
  split at h
  · cases h
  · rename_i k ks' v vs'
    cases h1 : constOf k with
    | none => simp [h1] at h
    | some a => cases h2 : constOf v with
      | none => simp [h1, h2] at h
      | some b => cases h3 : constPairs ks' vs' with
        | none => simp [h1, h2, h3] at h
        | some r' =>
          simp only [h1, h2, h3, Option.some.injEq, List.cons.injEq] at h
          obtain ⟨rfl, rfl⟩ := h
          obtain ⟨n, p, rfl⟩ := constOf_eq h1
          obtain ⟨n', p', rfl⟩ := constOf_eq h2
          exact ⟨n, p, n', p', ks', vs', rfl, rfl, h3⟩
  · cases h
theorem constPairs_nil {ks : List (Option Expr)} {vs : List Expr} (h : constPairs ks vs = some []) : ks = [] ∧ vs = [] := by
  unfold constPairs at h
  split at h
  · exact ⟨rfl, rfl⟩
  · split at h <;> cases h
  · cases h
theorem cTrees_zip {env : Env} {pos : Pos} : ∀ {ks : List (Option Expr)} {vs : List Expr} {r : List (Str × Str)}, constPairs ks vs = some r →
    (evalEachOpt ks env).zip ((evalEach vs env).map fun v => do let x ← v; standAt pos; pure x) = (cTrees env pos ks vs).map fun p => (some p.1, p.2)
  | ks, vs, [], h => by obtain ⟨rfl, rfl⟩ := constPairs_nil h; rfl
  | ks, vs, x :: r, h => by
    obtain ⟨n, p, n', p', ks', vs', rfl, rfl, h3⟩ := constPairs_cons h
    have := cTrees_zip (env := env) (pos := pos) h3
    exact congrArg (List.cons (some (eval (Expr.Constant (Const.str x.1) n p) env), (do let x ← eval (Expr.Constant (Const.str x.2) n' p') env; standAt pos; pure x))) this
theorem cTrees_length {env : Env} {pos : Pos} : ∀ {ks : List (Option Expr)} {vs : List Expr} {r : List (Str × Str)}, constPairs ks vs = some r → (cTrees env pos ks vs).length = r.length
  | ks, vs, [], h => by obtain ⟨rfl, rfl⟩ := constPairs_nil h; rfl
  | ks, vs, x :: r, h => by
    obtain ⟨n, p, n', p', ks', vs', rfl, rfl, h3⟩ := constPairs_cons h
    show (cTrees env pos ks' vs').length + 1 = _
    rw [cTrees_length h3]; rfl
theorem evalPairs_const {env : Env} {pos : Pos} : ∀ {kvs : List (Str × Str)} {ks : List (Option Expr)} {vs : List Expr} {s : Shared} {Q : List (Value × Value) → Shared → Prop}, constPairs ks vs = some kvs → 1 ≤ s.toks →
    (∀ es tk, Ents w es kvs → s.toks ≤ tk → Q (es.map fun e => (e.key, e.val)) { s with toks := tk }) → wpAny (model prog w) A (evalPairs (cTrees env pos ks vs)) Q E s
  | [], ks, vs, s, Q, h, ht, hQ => by
    obtain ⟨rfl, rfl⟩ := constPairs_nil h
    exact evalPairs_nil (hQ [] s.toks .nil (Nat.le_refl _))
  | x :: r, ks, vs, s, Q, h, ht, hQ => by
    obtain ⟨n, p, n', p', ks', vs', rfl, rfl, h3⟩ := constPairs_cons h
    show wpAny _ _ (evalPairs ((_, _) :: cTrees env pos ks' vs')) _ _ _
    refine evalPairs_cons (wpAny_Constant_str (wpAny_bind (wpAny_Constant_str (wpAny_bind (wpAny_standAt (wpAny_pure ?_))))))
    refine evalPairs_const (s := { s with toks := s.toks + 1 + 1 }) h3 (Nat.le_succ_of_le (Nat.le_succ_of_le ht)) fun es tk he hk => ?_
    have hk' : s.toks + 1 + 1 ≤ tk := hk
    exact hQ (ent w x.1 s.toks x.2 (s.toks + 1) :: es) tk (.cons (Nat.ne_of_gt ht) (Nat.ne_of_gt (Nat.lt_succ_of_lt ht)) (Nat.ne_of_lt (Nat.lt_succ_self _)) he) (by omega)
theorem get_new {h h' : Heap} {o : Obj} (hs : Heap.SameBut h.objs.size (h.push o) h') : Keeps h h' := fun b _ e =>
  (hs.2 b (Nat.ne_of_lt (Heap.lt_size e))).trans (Heap.get?_push_of_some _ e)
theorem get_end (h : Heap) : h.get? h.objs.size = none := Heap.get?_none_of_le (Nat.le_refl _)

theorem subDict_k {env : Env} {pos : Pos} {kvs : List (Str × Str)} {ks : List (Option Expr)} {vs : List Expr} {Q : Addr → Shared → Prop} (hc : constPairs ks vs = some kvs) (ht : 1 ≤ s.toks) (hl : kvs.length ≤ 15) (hd : (kvs.map (·.1)).Nodup)
    (hQ : ∀ es ep h' tk, Ents w es kvs → h'.get? s.heap.objs.size = some (dObj es ep) → Keeps s.heap h' → s.toks ≤ tk → Q s.heap.objs.size { s with heap := h', toks := tk }) :
    wpAny (model prog w) A (subDict (cTrees env pos ks vs)) Q E s := by
  unfold subDict
  refine wpAny_bind (wpAny_alloc ?_)
  refine wpAny_bind (wpAny_holding ?_)
  rw [if_pos (by rw [cTrees_length hc]; exact hl)]
  refine wpAny_bind (evalPairs_const (w := w) hc ht fun es tk he hk => ?_)
  refine wpAny_holding ?_
  refine wpAny_bind (storeAll_k he [] [] 0 _ _ (Heap.get?_push_size _ rfl) .nil (by simpa using hd) (by simp; omega) fun h' tk' ep' e1 hs ht' => ?_)
  exact wpAny_pure (wpAny_pure (hQ es ep' h' tk' he (by simpa using e1) (get_new hs) (Nat.le_trans hk ht')))

theorem sameBut_keeps {h h' : Heap} {d : Addr} (hs : Heap.SameBut d h h') {b : Addr} {o : Obj} (hb : b ≠ d) (e : h.get? b = some o) : h'.get? b = some o := (hs.2 b hb).trans e
theorem lookNone {es : List DictEntry} {kvs : List (Str × Str)} (h : Ents w es kvs) {Q : PUnit → Shared → Prop} {s : Shared} (hQ : Q PUnit.unit s) (f : DictEntry → PUnit → Sem (ForInStep PUnit))
    (hf : ∀ k t v t', f (ent w k t v t') PUnit.unit = pure (ForInStep.yield PUnit.unit)) : wpAny (model prog w) A (forIn es PUnit.unit f) Q E s := by
  induction h with
  | nil => rw [List.forIn_nil]; exact wpAny_pure hQ
  | cons h1 h2 h3 _ ih => rw [List.forIn_cons, hf]; exact wpAny_bind (wpAny_pure ih)
theorem sub_dict_dict : isSubtype (.type "dict") (.type "dict") = pure true := by rw [isSubtype_type]; kernel_rfl

theorem merge_k {d a : Addr} {es₀ es : List DictEntry} {kvs₀ kvs : List (Str × Str)} {ep₀ ep : Nat} {Q : Unit → Shared → Prop} (hda : d ≠ a) (hS : (a == sysModules) = false)
    (hd : s.heap.get? d = some (dObj es₀ ep₀)) (ha : s.heap.get? a = some (dObj es ep)) (he₀ : Ents w es₀ kvs₀) (he : Ents w es kvs) (hn : ((kvs₀ ++ kvs).map (·.1)).Nodup) (hl : (kvs₀ ++ kvs).length ≤ 1000)
    (hQ : ∀ h' ep', h'.get? d = some (dObj (es₀ ++ es) ep') → Heap.SameBut d s.heap h' → Q () { s with heap := h' }) :
    wpAny (model prog w) A (mergeMapping d (.ref a) false) Q E s := by
  have hT : s.TypeIs (.ref a) "dict" := ⟨_, ha, rfl⟩
  unfold mergeMapping
  refine wpAny_bind (wpAny_isInstance (b := true) hT sub_dict_dict ?_)
  simp only [if_true]
  refine wpAny_bind (wpAny_specialOf hT F.slot_dict_iter.lookup ?_)
  refine wpAny_bind (wpAny_pure ?_)
  have hb : ((some (Value.builtin "dict.__iter__") : Option Value) == some (Value.builtin "dict.__iter__")) = true := by decide
  rw [hb]
  dsimp only
  rw [if_neg (by rw [hS]; exact Bool.false_ne_true)]
  refine wpAny_bind (wpAny_dictEntries hd rfl ?_)
  have rest : wpAny (model prog w) A (do
      let __do_lift ← dictEntries a
      have size : Nat := __do_lift.size
      let epoch ← dictEpoch a
      forIn (List.range size) PUnit.unit fun i (_ : PUnit) => (do
          let __do_lift ← dictEntries a
          match __do_lift[i]? with
            | some e => do
              holding [e.key, e.val] (dictPut d e.hash e.key e.val)
              let __do_lift ← dictEpoch a
              if (__do_lift != epoch) = true then do
                  (unsupported "dict.changed-during-merge" : Sem PUnit)
                  pure (ForInStep.yield PUnit.unit)
                else pure (ForInStep.yield PUnit.unit)
            | _ => do
              (unsupported "dict.changed-during-merge" : Sem PUnit)
              pure (ForInStep.yield PUnit.unit) : Sem (ForInStep PUnit))
      pure ()) Q E s := by
    refine wpAny_bind (wpAny_dictEntries ha rfl ?_)
    refine wpAny_bind (wpAny_dictEpoch ha rfl ?_)
    have loop : ∀ (done : List DictEntry) (dkv : List (Str × Str)) (todo : List DictEntry) (tkv : List (Str × Str)) (s' : Shared) (epd : Nat), es = done ++ todo → Ents w done dkv → Ents w todo tkv → kvs = dkv ++ tkv →
        s'.heap.get? d = some (dObj (es₀ ++ done) epd) → s'.heap.get? a = some (dObj es ep) →
        (∀ h' ep', h'.get? d = some (dObj (es₀ ++ es) ep') → Heap.SameBut d s'.heap h' → Q () { s' with heap := h' }) →
        wpAny (model prog w) A (forIn (List.range' done.length todo.length) PUnit.unit fun i (_ : PUnit) => (do
            let __do_lift ← dictEntries a
            match __do_lift[i]? with
              | some e => do
                holding [e.key, e.val] (dictPut d e.hash e.key e.val)
                let __do_lift ← dictEpoch a
                if (__do_lift != ep) = true then do
                    (unsupported "dict.changed-during-merge" : Sem PUnit)
                    pure (ForInStep.yield PUnit.unit)
                  else pure (ForInStep.yield PUnit.unit)
              | _ => do
                (unsupported "dict.changed-during-merge" : Sem PUnit)
                pure (ForInStep.yield PUnit.unit) : Sem (ForInStep PUnit))) (fun _ s'' => Q () s'') E s' := by
      intro done dkv todo
      induction todo generalizing done dkv with
      | nil =>
        intro tkv s' epd e1 hdn htd ek h1 h2 hq
        rw [List.append_nil] at e1
        subst e1
        rw [List.length_nil, List.range'_zero, List.forIn_nil]
        exact wpAny_pure (hq s'.heap epd h1 (Heap.SameBut.refl _ _))
      | cons e todo ih =>
        intro tkv s' epd e1 hdn htd ek h1 h2 hq
        cases htd with
        | @cons k v t t' _ tkv' g1 g2 g3 htd' =>
        rw [List.length_cons, List.range'_succ, List.forIn_cons]
        refine wpAny_bind (wpAny_bind (wpAny_dictEntries h2 rfl ?_))
        have hi : es.toArray[done.length]? = some (ent w k t v t') := by rw [List.getElem?_toArray, e1]; simp
        rw [hi]
        dsimp only
        have hk : k ∉ (kvs₀ ++ dkv).map (·.1) := by
          intro hm
          rw [ek, ← List.append_assoc, List.map_append, List.map_cons, List.nodup_append] at hn
          exact hn.2.2 k hm k (.head _) rfl
        refine wpAny_bind (wpAny_holding (put_new h1 (he₀.append hdn) hk (by rw [ek] at hl; simp at hl ⊢; omega) fun h₁ e₁ s₁ => ?_))
        have h2' : h₁.get? a = some (dObj es ep) := sameBut_keeps s₁ (Ne.symm hda) h2
        refine wpAny_bind (wpAny_dictEpoch h2' rfl ?_)
        rw [if_neg (by simp)]
        refine wpAny_pure ?_
        have := ih (done ++ [ent w k t v t']) (dkv ++ [(k, v)]) tkv' { s' with heap := h₁ } (epd + 1) (by rw [e1]; simp) (hdn.append (.cons g1 g2 g3 .nil)) htd' (by rw [ek]; simp)
          (by rw [← List.append_assoc]; exact e₁) h2' (fun h' ep' a b => hq h' ep' a (s₁.trans b))
        have e2 : (done ++ [ent w k t v t']).length = done.length + 1 := by simp
        rw [e2] at this
        exact this
    have := loop [] [] es kvs s ep₀ rfl .nil he rfl (by simpa using hd) ha hQ
    rw [List.range_eq_range', List.size_toArray]
    exact wpAny_bind (wpAny_mono this (fun _ _ h => wpAny_pure h) fun _ _ h => h)
  simp only [Bool.false_eq_true, if_false]
  refine wpAny_ite ?_
  split
  · refine wpAny_bind (wpAny_dictEntries ha rfl ?_)
    rw [List.forIn_toArray]
    exact wpAny_bind (lookNone he rest _ fun _ _ _ _ => rfl)
  · exact rest

theorem gatherM {m : Option Addr} (f : (Option (Sem Value) × Sem Value) → (Option Addr × List (Sem Value × Sem Value)) → Sem (ForInStep (Option Addr × List (Sem Value × Sem Value))))
    (hf : ∀ (p : Sem Value × Sem Value) (run : List (Sem Value × Sem Value)), run.length + 1 < 17 → f (some p.1, p.2) (m, run) = pure (.yield (m, run ++ [p]))) :
    ∀ (items run : List (Sem Value × Sem Value)), run.length + items.length < 17 → forIn (items.map fun p => (some p.1, p.2)) (m, run) f = pure (m, run ++ items)
  | [], run, _ => by simp
  | p :: rest, run, h => by
    rw [List.map_cons, List.forIn_cons, hf p run (by simp at h; omega), pure_bind]
    have := gatherM f hf rest (run ++ [p]) (by simp at h ⊢; omega)
    simpa using this

theorem keeps_trans {a b c : Heap} (x : Keeps a b) (y : Keeps b c) : Keeps a c := fun p o e => y p o (x p o e)
theorem keeps_new {h h₁ h' : Heap} {d : Addr} (x : Keeps h h₁) (hd : h.get? d = none) (hs : Heap.SameBut d h₁ h') : Keeps h h' := fun b o e =>
  sameBut_keeps hs (fun q => by rw [q, hd] at e; cases e) (x b o e)

theorem star1 {env : Env} {pos : Pos} {ks : List (Option Expr)} {v0 : Expr} {vs : List Expr} {kvs kvs₀ : List (Str × Str)} {Q : Value → Shared → Prop} {a : Addr} {es₀ : List DictEntry} {ep₀ : Nat}
    (hc : constPairs ks vs = some kvs) (h0 : kvs ≠ []) (hl : kvs.length ≤ 15) (hn : ((kvs₀ ++ kvs).map (·.1)).Nodup) (hl2 : (kvs₀ ++ kvs).length ≤ 1000)
    (hS : (a == sysModules) = false) (low : 1 < s.heap.objs.size) (ht : 1 ≤ s.toks) (ha : s.heap.get? a = some (dObj es₀ ep₀)) (he₀ : Ents w es₀ kvs₀)
    (hv : ∀ (Q' : Value → Shared → Prop) (s' : Shared), Keeps s.heap s'.heap → Q' (.ref a) s' → wpAny (model prog w) A (eval v0 env) Q' E s')
    (hQ : ∀ D es ep h' tk, Ents w es (kvs₀ ++ kvs) → h'.get? D = some (dObj es ep) → s.heap.get? D = none → s.heap.objs.size ≤ D → Keeps s.heap h' → s.toks ≤ tk → Q (.ref D) { s with heap := h', toks := tk }) :
    wpAny (model prog w) A (eval (.Dict (none :: ks) (v0 :: vs) pos) env) Q E s := by
  rw [arm_eval_Dict]
  refine wpAny_bind (wpAny_standAt ?_)
  have hz := cTrees_zip (env := env) (pos := pos) hc
  show wpAny (model prog w) A (dictDisplay ((none, do let x ← eval v0 env; standAt pos; pure x) :: (evalEachOpt ks env).zip ((evalEach vs env).map fun v => do let x ← v; standAt pos; pure x))) Q E s
  rw [hz]
  have hlen : (cTrees env pos ks vs).length = kvs.length := cTrees_length hc
  generalize hp : cTrees env pos ks vs = pairs at hlen hz ⊢
  unfold dictDisplay
  dsimp only
  refine wpAny_bind ?_
  rw [List.forIn_cons]
  refine wpAny_bind ?_
  simp only [List.isEmpty_nil, if_true]
  refine wpAny_bind (wpAny_pure ?_)
  dsimp only
  refine wpAny_bind (wpAny_alloc ?_)
  refine wpAny_bind (wpAny_holding (wpAny_bind (hv _ _ (fun b o e => Heap.get?_push_of_some _ e) (wpAny_bind (wpAny_standAt (wpAny_pure ?_))))))
  refine wpAny_bind (wpAny_onRaise (wpAny_tryCatch (wpAny_onRaise (wpAny_holding (merge_k (kvs₀ := []) (es₀ := []) (ep₀ := 0) (Nat.ne_of_gt (Heap.lt_size ha)) hS (Heap.get?_push_size _ rfl) (Heap.get?_push_of_some _ ha) .nil he₀ ?_ ?_ fun h₁ ep₁ e₁ s₁ => ?_)))))
  · rw [List.map_append, List.nodup_append] at hn; simpa using hn.1
  · simp at hl2 ⊢; omega
  refine wpAny_pure ?_
  dsimp only
  rw [gatherM _ (fun p run h => by
    have hne : ((run ++ [(p.1, p.2)]).length == 17) = false := by simp; omega
    simp only [hne, Bool.false_eq_true, if_false]) pairs [] (by simp; omega)]
  refine wpAny_pure ?_
  dsimp only
  have hpe : ([] ++ pairs).isEmpty = false := by cases pairs with
    | nil => cases kvs with
      | nil => exact absurd rfl h0
      | cons _ _ => cases hlen
    | cons _ _ => rfl
  rw [hpe]
  simp only [Bool.false_eq_true, if_false, List.nil_append]
  refine wpAny_bind (wpAny_bind (wpAny_holding ?_))
  rw [← hp]
  have k₁ : Keeps s.heap h₁ := get_new s₁
  refine subDict_k (s := { s with heap := h₁ }) hc ht hl (by rw [List.map_append, List.nodup_append] at hn; exact hn.2.1) fun es ep h₂ tk he e₂ k₂ ht₂ => ?_
  have hlt : s.heap.objs.size < h₁.objs.size := Heap.lt_size e₁
  refine wpAny_bind (wpAny_onRaise (wpAny_holding (merge_k (kvs₀ := kvs₀) (Nat.ne_of_lt hlt) ?_ (k₂ _ _ e₁) e₂ he₀ he hn hl2 fun h₃ ep₃ e₃ s₃ => ?_)))
  · exact beq_eq_false_iff_ne.mpr (show h₁.objs.size ≠ 1 from Nat.ne_of_gt (Nat.lt_trans low hlt))
  refine wpAny_pure ?_
  refine wpAny_pure ?_
  exact hQ s.heap.objs.size _ ep₃ h₃ tk (he₀.append he) e₃ (get_end _) (Nat.le_refl _) (keeps_new (keeps_trans k₁ k₂) (get_end _) s₃) ht₂

theorem star2 {env : Env} {pos : Pos} {ks : List (Option Expr)} {v0 v1 : Expr} {vs : List Expr} {kvs kvs₀ kvs₁ : List (Str × Str)} {Q : Value → Shared → Prop} {a b : Addr} {es₀ es₁ : List DictEntry} {ep₀ epb : Nat}
    (hc : constPairs ks vs = some kvs) (h0 : kvs ≠ []) (hl : kvs.length ≤ 15) (hn : ((kvs₀ ++ kvs₁ ++ kvs).map (·.1)).Nodup) (hl2 : (kvs₀ ++ kvs₁ ++ kvs).length ≤ 1000)
    (hS : (a == sysModules) = false) (hS' : (b == sysModules) = false) (low : 1 < s.heap.objs.size) (ht : 1 ≤ s.toks) (ha : s.heap.get? a = some (dObj es₀ ep₀)) (he₀ : Ents w es₀ kvs₀)
    (hb : s.heap.get? b = some (dObj es₁ epb)) (he₁ : Ents w es₁ kvs₁)
    (hv : ∀ (Q' : Value → Shared → Prop) (s' : Shared), Keeps s.heap s'.heap → Q' (.ref a) s' → wpAny (model prog w) A (eval v0 env) Q' E s')
    (hv1 : ∀ (Q' : Value → Shared → Prop) (s' : Shared), Keeps s.heap s'.heap → Q' (.ref b) s' → wpAny (model prog w) A (eval v1 env) Q' E s')
    (hQ : ∀ D es ep h' tk, Ents w es (kvs₀ ++ kvs₁ ++ kvs) → h'.get? D = some (dObj es ep) → s.heap.get? D = none → s.heap.objs.size ≤ D → Keeps s.heap h' → s.toks ≤ tk → Q (.ref D) { s with heap := h', toks := tk }) :
    wpAny (model prog w) A (eval (.Dict (none :: none :: ks) (v0 :: v1 :: vs) pos) env) Q E s := by
  rw [arm_eval_Dict]
  refine wpAny_bind (wpAny_standAt ?_)
  have hz := cTrees_zip (env := env) (pos := pos) hc
  show wpAny (model prog w) A (dictDisplay ((none, do let x ← eval v0 env; standAt pos; pure x) :: (none, do let x ← eval v1 env; standAt pos; pure x) :: (evalEachOpt ks env).zip ((evalEach vs env).map fun v => do let x ← v; standAt pos; pure x))) Q E s
  rw [hz]
  have hlen : (cTrees env pos ks vs).length = kvs.length := cTrees_length hc
  generalize hp : cTrees env pos ks vs = pairs at hlen hz ⊢
  unfold dictDisplay
  dsimp only
  refine wpAny_bind ?_
  rw [List.forIn_cons]
  refine wpAny_bind ?_
  simp only [List.isEmpty_nil, if_true]
  refine wpAny_bind (wpAny_pure ?_)
  dsimp only
  refine wpAny_bind (wpAny_alloc ?_)
  refine wpAny_bind (wpAny_holding (wpAny_bind (hv _ _ (fun b o e => Heap.get?_push_of_some _ e) (wpAny_bind (wpAny_standAt (wpAny_pure ?_))))))
  refine wpAny_bind (wpAny_onRaise (wpAny_tryCatch (wpAny_onRaise (wpAny_holding (merge_k (kvs₀ := []) (es₀ := []) (ep₀ := 0) (Nat.ne_of_gt (Heap.lt_size ha)) hS (Heap.get?_push_size _ rfl) (Heap.get?_push_of_some _ ha) .nil he₀ ?_ ?_ fun h₁ ep₁ e₁ s₁ => ?_)))))
  · rw [List.append_assoc, List.map_append, List.nodup_append] at hn; simpa using hn.1
  · simp at hl2 ⊢; omega
  refine wpAny_pure ?_
  dsimp only
  have k₁ : Keeps s.heap h₁ := get_new s₁
  have hlt : s.heap.objs.size < h₁.objs.size := Heap.lt_size e₁
  rw [List.forIn_cons]
  refine wpAny_bind ?_
  simp only [List.isEmpty_nil, if_true]
  refine wpAny_bind (wpAny_pure ?_)
  dsimp only
  refine wpAny_bind (wpAny_pure ?_)
  refine wpAny_bind (wpAny_holding (wpAny_bind (hv1 _ _ k₁ (wpAny_bind (wpAny_standAt (wpAny_pure ?_))))))
  refine wpAny_bind (wpAny_onRaise (wpAny_tryCatch (wpAny_onRaise (wpAny_holding (merge_k (kvs₀ := kvs₀) (Nat.ne_of_gt (Heap.lt_size hb)) hS' e₁ (k₁ _ _ hb) he₀ he₁ ?_ ?_ fun h₂ ep₂ e₂ s₂ => ?_)))))
  · rw [List.map_append, List.nodup_append] at hn; exact hn.1
  · simp at hl2 ⊢; omega
  refine wpAny_pure ?_
  dsimp only
  rw [gatherM _ (fun p run h => by
    have hne : ((run ++ [(p.1, p.2)]).length == 17) = false := by simp; omega
    simp only [hne, Bool.false_eq_true, if_false]) pairs [] (by simp; omega)]
  refine wpAny_pure ?_
  dsimp only
  have hpe : ([] ++ pairs).isEmpty = false := by cases pairs with
    | nil => cases kvs with
      | nil => exact absurd rfl h0
      | cons _ _ => cases hlen
    | cons _ _ => rfl
  rw [hpe]
  simp only [Bool.false_eq_true, if_false, List.nil_append]
  refine wpAny_bind (wpAny_bind (wpAny_holding ?_))
  rw [← hp]
  have k₂ : Keeps s.heap h₂ := keeps_new k₁ (get_end _) s₂
  have hlt₂ : s.heap.objs.size < h₂.objs.size := Heap.lt_size e₂
  refine subDict_k (s := { s with heap := h₂ }) hc ht hl (by rw [List.map_append, List.nodup_append] at hn; exact hn.2.1) fun es ep h₃ tk he e₃ k₃ ht₃ => ?_
  refine wpAny_bind (wpAny_onRaise (wpAny_holding (merge_k (kvs₀ := kvs₀ ++ kvs₁) (Nat.ne_of_lt hlt₂) ?_ (k₃ _ _ e₂) e₃ (he₀.append he₁) he hn hl2 fun h₄ ep₄ e₄ s₄ => ?_)))
  · exact beq_eq_false_iff_ne.mpr (show h₂.objs.size ≠ 1 from Nat.ne_of_gt (Nat.lt_trans low hlt₂))
  refine wpAny_pure ?_
  refine wpAny_pure ?_
  exact hQ s.heap.objs.size _ ep₄ h₄ tk ((he₀.append he₁).append he) e₄ (get_end _) (Nat.le_refl _) (keeps_new (keeps_trans k₂ k₃) (get_end _) s₄) ht₃

theorem star0 {env : Env} {pos : Pos} {ks : List (Option Expr)} {vs : List Expr} {kvs : List (Str × Str)} {Q : Value → Shared → Prop}
    (hc : constPairs ks vs = some kvs) (h0 : kvs ≠ []) (hl : kvs.length ≤ 15) (hn : (kvs.map (·.1)).Nodup) (ht : 1 ≤ s.toks)
    (hQ : ∀ D es ep h' tk, Ents w es kvs → h'.get? D = some (dObj es ep) → s.heap.get? D = none → s.heap.objs.size ≤ D → Keeps s.heap h' → s.toks ≤ tk → Q (.ref D) { s with heap := h', toks := tk }) :
    wpAny (model prog w) A (eval (.Dict ks vs pos) env) Q E s := by
  have hz := cTrees_zip (env := env) (pos := pos) hc
  have hlen : (cTrees env pos ks vs).length = kvs.length := cTrees_length hc
  have hne : cTrees env pos ks vs ≠ [] := fun q => h0 (List.eq_nil_of_length_eq_zero (by rw [← hlen, q]; rfl))
  rw [arm_eval_Dict, hz, dictDisplay_pairs _ hne (by omega)]
  refine wpAny_bind (wpAny_standAt (wpAny_bind (subDict_k hc ht hl hn fun es ep h' tk he e k t => wpAny_pure ?_)))
  exact hQ _ es ep h' tk he e (get_end _) (Nat.le_refl _) k t
end Mine
end

section
open PySem PySem.W PyProof.Rows PySem.Spec PySem.Calls
namespace Mine
variable {prog : Program} {w : World} {A : Around} {E : Value → Shared → Prop} {s : Shared}
open Builtin Builtin.Str in
theorem replace_k {x y z : Str} {t u v : Tok} {Q : Value → Shared → Prop} (hu : u ≠ 0) (hv : v ≠ 0) (huv : u ≠ v) (hyz : (y == z) = false) (hb : x.length + (x.length + 1) * z.length ≤ 16777216)
    (hq : ∀ t' k, s.toks ≤ k → Q (.str (Txt.replace x y z) t') { s with toks := k }) : wpAny (model prog w) A (call (.builtin "str.replace") [.str x t, .str y u, .str z v]) Q E s := by
  have hl : tooLong (x.length + (occurrences x y 0 x.length (x.length + 1)).length * z.length) = false := by
    have h1 := StrLaws.occ_length_le x y 0 x.length (x.length + 1)
    have h2 : (occurrences x y 0 x.length (x.length + 1)).length * z.length ≤ (x.length + 1) * z.length := Nat.mul_le_mul_right _ h1
    unfold tooLong sizeLine
    exact decide_eq_false (by omega)
  refine call_gives F.slot_str_replace (typeIs_str _ _ _) F.entry_str_replace (F.args_str_replace_3 _ _ _)
    (gives_str_replace x y z t u v fun _ => ⟨by simp [hu, hv], by simp [huv], hyz, hl⟩) ?_
  unfold Txt.replace at hq
  cases hc : ((occurrences x y 0 x.length (x.length + 1)).isEmpty || (y.length == 0 && z.length == 0))
  · rw [hc] at hq
    simp only [Bool.false_eq_true, if_false] at hq ⊢
    exact ⟨fits_replaced y hb, hq _ _ (Nat.le_succ _)⟩
  · rw [hc] at hq
    simp only [if_true] at hq ⊢
    exact hq t s.toks (Nat.le_refl _)

theorem itemsNext {it d i ep : Nat} {es : List DictEntry} {e : DictEntry} {ok ov : Value} {Q : Option Value → Shared → Prop} (hit : IsItemIter s.heap it d i es.length ep ok ov)
    (hod : s.heap.get? d = some (dObj es ep)) (hx : es[i]? = some e)
    (hQ : ∀ h', IsItemIterOut h' it d (i + 1) es.length ep e.key e.val s.heap.objs.size →
      h'.get? s.heap.objs.size = some { cls := .type "tuple", data := .seq #[e.key, e.val] } → h'.objs.size = s.heap.objs.size + 1 →
      (∀ b o, b ≠ it → s.heap.get? b = some o → h'.get? b = some o) → Q (some (.ref s.heap.objs.size)) { s with heap := h' }) :
    wpAny (model prog w) A (pyNext (.ref it)) Q E s := by
  obtain ⟨hp, g, dr, tk, os⟩ := s
  have hT : Shared.TypeIs ⟨hp, g, dr, tk, os⟩ (.ref it) "dict_itemiterator" := ⟨_, hit, rfl⟩
  unfold pyNext
  refine wpAny_bind (wpAny_attempt (wpAny_callSpecial?_slot (name := Str.ofString "__next__") hT F.slot_dict_itemiterator_next
    (wpAny_call_entry F.slot_dict_itemiterator_next hT F.entry_dict_itemiterator_next ?_ (F.args_dict_itemiterator_next_1 _))))
  refine wpAny_bind (wpAny_pure ?_)
  refine wpAny_bind ?_
  refine wpAny_bind ?_
  first | refine wpAny_bind (wpAny_typeNameOfWhole_itemiter hT (wpAny_pure ?_)) | refine wpAny_bind (wpAny_typeNameOf_itemiter hT (wpAny_pure ?_))
  refine wpAny_bind (wpAny_fieldsOf hit rfl ?_)
  have hown : Builtin.Dict_items.ownsTuple "dict_itemiterator" = true := by decide
  simp only [hown, if_true]
  show wpAny _ _ (if (Value.ref d == Value.none) = true then _ else _) _ _ _
  rw [if_neg (show ¬ ((Value.ref d == Value.none) = true) from Bool.false_ne_true)]
  refine wpAny_bind (wpAny_pure ?_)
  refine wpAny_bind (wpAny_dictEntries hod rfl ?_)
  have hsz : es.toArray.size = es.length := by simp
  rw [if_neg (by rw [hsz]; simp)]
  refine wpAny_bind (wpAny_pure ?_)
  refine wpAny_bind (wpAny_dictEpoch hod rfl ?_)
  rw [if_neg (by simp)]
  refine wpAny_pure ?_
  have hx' : es.toArray[i]? = some e := by simpa using hx
  simp only [show ¬ ((i : Int) < 0) from by omega, if_false, Int.toNat_natCast, hx']
  refine wpAny_bind ?_
  first | refine wpAny_bind (wpAny_typeNameOfWhole_itemiter hT (wpAny_pure ?_)) | refine wpAny_bind (wpAny_typeNameOf_itemiter hT (wpAny_pure ?_))
  refine wpAny_bind (wpAny_isOneOf_itemiter hT ?_)
  show wpAny _ _ (setField (.ref it) 3 (rawInt ((i : Int) + 1)) >>= _) _ _ ⟨hp, g, dr, tk, os⟩
  refine wpAny_bind (wpAny_setField_rec hit (by simp) fun h₁ he₁ hs₁ => ?_)
  replace hs₁ : Heap.SameBut it hp h₁ := hs₁
  replace he₁ : IsItemIter h₁ it d (i + 1) es.length ep ok ov := by
    have e : ((i + 1 : Nat) : Int) = (i : Int) + 1 := by omega
    unfold IsItemIter; rw [e]; simpa [rawInt] using he₁
  have hT₁ : Shared.TypeIs ⟨h₁, g, dr, tk, os⟩ (.ref it) "dict_itemiterator" := ⟨_, he₁, rfl⟩
  refine wpAny_bind (wpAny_holding ?_)
  refine wpAny_bind (wpAny_isOneOf_itemiter hT₁ ?_)
  refine wpAny_bind (wpAny_isOneOf_itemiter hT₁ ?_)
  show wpAny _ _ (Builtin.Dict_items.pairFromOwner (.ref it) 6 e.key e.val) _ _ ⟨h₁, g, dr, tk, os⟩
  unfold Builtin.Dict_items.pairFromOwner
  refine wpAny_bind (wpAny_newTuple ?_)
  have he₂ : IsItemIter (h₁.push { cls := .type "tuple", data := .seq #[e.key, e.val] }) it d (i + 1) es.length ep ok ov := Heap.get?_push_of_some _ he₁
  generalize hh₂ : h₁.push { cls := .type "tuple", data := .seq #[e.key, e.val] } = h₂ at he₂
  have hz₁ : h₁.objs.size = hp.objs.size := hs₁.1
  have hil : it < hp.objs.size := Heap.lt_size hit
  have ht₂ : h₂.get? hp.objs.size = some { cls := .type "tuple", data := .seq #[e.key, e.val] } := by rw [← hh₂, ← hz₁]; exact Heap.get?_push_size _ rfl
  have hz₂ : h₂.objs.size = hp.objs.size + 1 := by rw [← hh₂, Heap.size_push, hz₁]
  have hk₂ : ∀ b o, b ≠ it → hp.get? b = some o → h₂.get? b = some o := fun b o hb e => by rw [← hh₂]; exact Heap.get?_push_of_some _ (hs₁.extBut b o hb e)
  show wpAny _ _ (Builtin.Dict_items.ownedTupleIsFree (.ref it) >>= _) _ _ ⟨h₂, g, dr, tk, os⟩
  rw [hz₁]
  clear hh₂ he₁ hs₁ hT₁ hz₁ h₁
  refine wpAny_bind ?_
  unfold Builtin.Dict_items.ownedTupleIsFree
  refine wpAny_bind (wpAny_field he₂ rfl (x := .none) rfl (wpAny_pure ?_))
  simp only [if_true]
  refine wpAny_bind (wpAny_field he₂ rfl (x := ok) rfl ?_)
  refine wpAny_bind (wpAny_field he₂ rfl (x := ov) rfl ?_)
  refine wpAny_bind (wpAny_setField_rec he₂ (by simp) fun h₃ he₃ hs₃ => ?_)
  replace hs₃ : Heap.SameBut it h₂ h₃ := hs₃
  replace he₃ : IsItemIter h₃ it d (i + 1) es.length ep e.key ov := he₃
  refine wpAny_bind (wpAny_setField_rec he₃ (by simp) fun h₄ he₄ hs₄ => ?_)
  replace hs₄ : Heap.SameBut it h₃ h₄ := hs₄
  replace he₄ : IsItemIter h₄ it d (i + 1) es.length ep e.key e.val := he₄
  refine wpAny_bind (wpAny_setField_rec he₄ (by simp) fun h₅ he₅ hs₅ => ?_)
  replace hs₅ : Heap.SameBut it h₄ h₅ := hs₅
  replace he₅ : IsItemIterOut h₅ it d (i + 1) es.length ep e.key e.val hp.objs.size := he₅
  refine wpAny_bind (wpAny_setField_rec he₅ (by simp) fun h₆ he₆ hs₆ => ?_)
  replace hs₆ : Heap.SameBut it h₅ h₆ := hs₆
  replace he₆ : IsItemIterOut h₆ it d (i + 1) es.length ep e.key e.val hp.objs.size := he₆
  refine wpAny_bind (wpAny_letGo (wpAny_pure (wpAny_pure ⟨_, rfl, wpAny_pure (hQ h₆ he₆ ?_ ?_ ?_)⟩)))
  · exact hs₆.extBut _ _ (Nat.ne_of_gt hil) (hs₅.extBut _ _ (Nat.ne_of_gt hil) (hs₄.extBut _ _ (Nat.ne_of_gt hil) (hs₃.extBut _ _ (Nat.ne_of_gt hil) ht₂)))
  · show h₆.objs.size = hp.objs.size + 1
    rw [hs₆.1, hs₅.1, hs₄.1, hs₃.1, hz₂]
  · exact fun b o hb e => hs₆.extBut b o hb (hs₅.extBut b o hb (hs₄.extBut b o hb (hs₃.extBut b o hb (hk₂ b o hb e))))

theorem ents_dictAt {h : Heap} {d : Addr} {es : List DictEntry} {ep : Nat} {kvs : List (Str × Str)} (he : Ents w es kvs) (ho : h.get? d = some (dObj es ep)) (hn : (kvs.map (·.1)).Nodup) :
    ∃ kv2 : List (Str × Value), kv2.length = es.length ∧ h.DictAt (strKind prog w) d kv2 ep := by
  refine ⟨es.map fun e => (match e.key with | .str k _ => k | _ => Str.empty, e.val), by simp, _, es.toArray, ho, ⟨rfl, rfl, rfl⟩, rfl, he.keysOf, ?_, ?_⟩
  · clear ho hn
    induction he with
    | nil => exact .nil
    | cons h1 h2 h3 _ ih => exact .cons (strKind_is prog w _ _) rfl ih
  · have : (es.map fun e => ((match e.key with | .str k _ => k | _ => Str.empty : Str), e.val)).map (·.1) = kvs.map (·.1) := by
      clear ho hn
      induction he with
      | nil => rfl
      | cons h1 h2 h3 _ ih => simpa using ih
    rw [this]; exact hn

noncomputable def TurnEnd (s : Shared) (h₀ : Heap) (L : Addr) (nw : List (Addr × Obj)) (Jn : (Str → Option Value) → Prop) (f : Flow) (s₂ : Shared) : Prop :=
  f = .next ∧ ∃ h₂ tk₂ m₂, s₂ = { s with heap := h₂, toks := tk₂ } ∧ 1 ≤ tk₂ ∧ Fr h₀ L h₂ m₂ ∧ News h₀ L h₂ nw ∧ Jn m₂
theorem TurnEnd.intro {s : Shared} {h₀ h₂ : Heap} {L : Addr} {nw : List (Addr × Obj)} {Jn : (Str → Option Value) → Prop} {tk₂ : Nat} {m₂ : Str → Option Value} (ht : 1 ≤ tk₂) (F : Fr h₀ L h₂ m₂) (N : News h₀ L h₂ nw) (hJ : Jn m₂) :
    TurnEnd s h₀ L nw Jn .next { s with heap := h₂, toks := tk₂ } := ⟨rfl, h₂, tk₂, m₂, rfl, ht, F, N, hJ⟩

theorem For_items {env : Env} {xk xv : Str} {pk pv pt pos apos cpos : Pos} {x1 : Nat} {o : Expr} {body : List Stmt} {d : Addr} {es : List DictEntry} {kvs : List (Str × Str)} {ep : Nat} {m : Str → Option Value} {h₀ : Heap}
    {news : List (Addr × Obj)} {Q : Flow → Shared → Prop}
    (hh : A.handled = none) (hxk : env.kindOf xk = some .local) (hxv : env.kindOf xv = some .local)
    (hp : (env.scope.kind == .class || (env.scope.kind == .module && env.locals != env.globals)) = false)
    (F : Fr h₀ env.locals s.heap m) (N : News h₀ env.locals s.heap news) (hod : h₀.get? d = some (dObj es ep)) (he : Ents w es kvs) (hn : (kvs.map (·.1)).Nodup) (hdS : (d == sysModules) = false) (ht : 1 ≤ s.toks)
    (hbase : attributeBase o "items" env (eval o env) = eval o env) (hline : (apos.endLine == cpos.line) = true)
    (ho : ∀ Q', Q' (.ref d) s → wpAny (model prog w) A (eval o env) Q' E s)
    (J : Nat → (Str → Option Value) → Prop) (h0 : J 0 m)
    (step : ∀ i k v t t' m₁ h₁ tk₁ nw, kvs[i]? = some (k, v) → t ≠ 0 → t' ≠ 0 → t ≠ t' → J i m₁ → 1 ≤ tk₁ →
      Fr h₀ env.locals h₁ (fun y => if y = xv then some (.str v t') else if y = xk then some (.str k t) else m₁ y) → News h₀ env.locals h₁ nw →
      wpAny (model prog w) A (execs body env) (TurnEnd s h₀ env.locals nw (J (i + 1))) E { s with heap := h₁, toks := tk₁ })
    (hQ : ∀ h' tk m', 1 ≤ tk → Fr h₀ env.locals h' m' → News h₀ env.locals h' news → J kvs.length m' → Q .next { s with heap := h', toks := tk })
    (hs : ∀ x, foldedSetIterable (.Call (.Attribute o "items" apos) [] [] cpos) env x = pure x := by intro _; rfl)
    (hE : PassesOwn (model prog w) A env E := by passes_own) :
    wpAny (model prog w) A (exec (.For (.Tuple [.Name xk pk, .Name xv pv] x1 pt) (.Call (.Attribute o "items" apos) [] [] cpos) body [] pos) env) Q E s := by
  obtain ⟨kv2, hlen, hm⟩ := ents_dictAt (prog := prog) he (F.keep _ _ hod) hn
  refine wpAny_For (wpAny_Call_items hdS hm.dictOf hbase hline ho ?_) hs
  obtain ⟨oL, _, _, hoL, _⟩ := id F.ns
  refine wpAny_pyIter_items (knd := strKind prog w) (d := d) (kvs := kv2) (ep := ep) ⟨_, Heap.get?_push_size _ rfl, rfl, rfl⟩ (hm.push _) ?_
  rw [hlen]
  generalize hit : (s.heap.push { cls := .type "dict_items", data := .fields #[.ref d] }).objs.size = it
  have hitz : it = s.heap.objs.size + 1 := by rw [← hit, Heap.size_push]
  have hLlt : env.locals < s.heap.objs.size := Heap.lt_size hoL
  have hiL : it ≠ env.locals := by rw [hitz]; exact Nat.ne_of_gt (Nat.lt_succ_of_lt hLlt)
  have hz : ∀ b, b ≥ s.heap.objs.size → h₀.get? b = none := fun b hb => Heap.get?_none_of_le (Nat.le_trans F.above (Nat.le_trans (Nat.le_of_lt hLlt) hb))
  have hi0 : h₀.get? it = none := hz _ (by rw [hitz]; exact Nat.le_succ _)
  have hNi : ∀ p ∈ news, p.1 ≠ it := fun p hp q => by have := Heap.lt_size (N p hp).1; rw [q, hitz] at this; exact Nat.not_succ_lt_self this
  refine codeAny_forLoop_any (R := fun r s' => match r with | .ok f => Q f s' | .error e => cameBackBy (model prog w) A env E e s')
    (fun n s' => ∃ h' tk m' i ok ov, s' = { s with heap := h', toks := tk } ∧ 1 ≤ tk ∧ IsItemIter h' it d i es.length ep ok ov ∧ Fr h₀ env.locals h' m' ∧ News h₀ env.locals h' news ∧ J i m' ∧ i ≤ kvs.length ∧
      n = kvs.length + 1 - i) ?_ (kvs.length + 1)
    ⟨_, s.toks, m, 0, .none, .none, rfl, ht, by rw [← hit]; exact Heap.get?_push_size _ rfl, (F.push _).push _, news_keeps (news_keeps N fun b o e => Heap.get?_push_of_some _ e) fun b o e => Heap.get?_push_of_some _ e, h0, Nat.zero_le _, rfl⟩
  rintro n s' ⟨H, tk, m', i, ok, ov, rfl, htk, hit', F', N', hJ, hi, rfl⟩
  obtain ⟨oL', _, _, hoL', _⟩ := id F'.ns
  have hL' : env.locals < H.objs.size := Heap.lt_size hoL'
  have hiH : it < H.objs.size := Heap.lt_size hit'
  cases hv : kvs[i]? with
  | none =>
    have hsz : i = kvs.length := Nat.le_antisymm hi (by simpa using hv)
    have hm' : H.DictAt (strKind prog w) d kv2 ep := by
      obtain ⟨o', es', ho', r⟩ := hm
      rw [F.keep _ _ hod] at ho'
      cases ho'
      exact ⟨_, es', F'.keep _ _ hod, r⟩
    refine wpAny_pyNext_items_end (s := { s with heap := H, toks := tk }) hh (hlen ▸ hit') hm' (by simp [hlen, he.length, hsz]) fun h₁ he₁ => wpAny_execs_nil ?_
    have kx : ∀ b o, b ≠ it → H.get? b = some o → h₁.get? b = some o := fun b o hb e => he₁ b o hb e
    refine hQ h₁ tk m' htk ⟨F'.ns.extBut he₁ (Ne.symm hiL), fun b o e => kx b o (fun q => by rw [q, hi0] at e; cases e) (F'.keep b o e), F'.above⟩ (fun p hp => ⟨kx _ _ (hNi p hp) (N' p hp).1, (N' p hp).2⟩) (hsz ▸ hJ)
  | some kv =>
    obtain ⟨k, v⟩ := kv
    have hlt : i < kvs.length := (List.getElem?_eq_some_iff.mp hv).1
    obtain ⟨t, t', hent, g1, g2, g3⟩ := he.get i k v hv
    refine itemsNext (s := { s with heap := H, toks := tk }) hit' (F'.keep _ _ hod) hent fun h₁ heo ht₁ hz₁ hk₁ => ?_
    refine wpAny_letOwnedTupleGo_items (s := { s with heap := h₁, toks := tk }) heo fun h₂ he₂ hs₂ => ?_
    replace hs₂ : Heap.SameBut it h₁ h₂ := hs₂
    have ht₂ : h₂.IsTuple H.objs.size #[.str k t, .str v t'] := ⟨_, (hs₂.2 _ (Nat.ne_of_gt hiH)).trans ht₁, rfl, _, rfl⟩
    have hz₂ : h₂.objs.size = H.objs.size + 1 := hs₂.1.trans hz₁
    have k₂ : ∀ b o, b ≠ it → H.get? b = some o → h₂.get? b = some o := fun b o hb e => hs₂.extBut b o hb (hk₁ b o hb e)
    have F₂ : Fr h₀ env.locals h₂ m' := ⟨F'.ns.at' fun o e => k₂ _ o (Ne.symm hiL) e, fun b o e => k₂ b o (fun q => by rw [q, hi0] at e; cases e) (F'.keep b o e), F'.above⟩
    have N₂ : News h₀ env.locals h₂ news := fun p hp => ⟨k₂ _ _ (hNi p hp) (N' p hp).1, (N' p hp).2⟩
    refine wpAny_assign_Tuple (s := { s with heap := h₂, toks := tk }) hh ht₂ rfl rfl fun h₃ hx₃ => ?_
    replace hx₃ : Heap.ExtBut h₂.objs.size h₂ h₃ := hx₃
    have k₃ : Keeps h₂ h₃ := fun b o e => hx₃ b o (Nat.ne_of_lt (Heap.lt_size e)) e
    have F₃ := fr_keeps F₂ k₃
    show wpAny _ _ (do holding [.str v t'] (assign (.Name xk pk) env (.str k t)); do holding [] (assign (.Name xv pv) env (.str v t')); pure ()) _ _ _
    refine wpAny_bind (wpAny_holding (wpAny_assign_Name (wpAny_storeName_local hxk F₃.ns (fun h₄ hn₄ hs₄ => ?_) hp)))
    replace hs₄ : Heap.SameBut env.locals h₃ h₄ := hs₄
    have F₄ := F₃.set hn₄ hs₄
    refine wpAny_bind (wpAny_holding (wpAny_assign_Name (wpAny_storeName_local hxv F₄.ns (fun h₅ hn₅ hs₅ => wpAny_pure ?_) hp)))
    replace hs₅ : Heap.SameBut env.locals h₄ h₅ := hs₅
    have F₅ := F₄.set hn₅ hs₅
    have it₅ : IsItemIter h₅ it d (i + 1) es.length ep (.str k t) (.str v t') := hs₅.extBut _ _ hiL (hs₄.extBut _ _ hiL (k₃ _ _ he₂))
    have N₅ : News h₀ env.locals h₅ ((it, _) :: news) := fun p hp => by
      rcases List.mem_cons.mp hp with rfl | hp
      · exact ⟨it₅, hiL, hi0⟩
      · exact (((news_keeps N₂ k₃).set hs₄).set hs₅) p hp
    refine wpAny_mono (wpAny_passesOwn hE (step i k v t t' m' h₅ _ _ hv g1 g2 g3 hJ (by omega) F₅ N₅)) (fun f s₃ h₆ => ?_) fun _ _ x => x
    obtain ⟨rfl, h₆, tk₆, m₂, rfl, ht₆, F₆, N₆, hJ₆⟩ := h₆
    exact ⟨kvs.length + 1 - (i + 1), by omega, h₆, tk₆, m₂, i + 1, _, _, rfl, ht₆, (N₆ _ (.head _)).1, F₆, fun p hp => N₆ p (.tail _ hp), hJ₆, hlt, rfl⟩
end Mine
end

section
open PySem PySem.W PyProof.Rows PySem.Spec PySem.Calls
namespace Mine
noncomputable def fitR (x z : Str) : Prop := x.length + (x.length + 1) * z.length ≤ 16777216
noncomputable def dRep : List (Str × Str) → Str → Str
  | [], x => x
  | kv :: r, x => dRep r (Txt.replace x kv.1 kv.2)
noncomputable def dFit : List (Str × Str) → Str → Prop
  | [], _ => True
  | kv :: r, x => fitR x kv.2 ∧ dFit r (Txt.replace x kv.1 kv.2)
theorem dRep_take : ∀ (kvs : List (Str × Str)) (x : Str) (i : Nat) (k v : Str), kvs[i]? = some (k, v) → dFit kvs x →
    dRep (kvs.take (i + 1)) x = Txt.replace (dRep (kvs.take i) x) k v ∧ fitR (dRep (kvs.take i) x) v
  | [], x, i, k, v, h, _ => by simp at h
  | kv :: r, x, 0, k, v, h, f => by simp at h; subst h; exact ⟨rfl, f.1⟩
  | kv :: r, x, i + 1, k, v, h, f => by simp only [List.getElem?_cons_succ] at h; simpa [dRep] using dRep_take r _ i k v h f.2

theorem gen_toks {α : Type} {M : Model} {A : Around} {t : Sem α} {Q : α → Shared → Prop} {E : Value → Shared → Prop} {h : Heap} {g : Array GenState} {d : Drawn} {o : OsState} {k : Nat} (hk : 1 ≤ k)
    (H : ∀ tk, 1 ≤ tk → wpAny M A t Q E ⟨h, g, d, tk, o⟩) : wpAny M A t Q E ⟨h, g, d, k, o⟩ := H k hk

local macro_rules | `(tactic| walk_at "execs cons") => `(tactic| (k_here; (fail_if_success (fail_if_success k_gentoks)); refine gen_toks (by (try dsimp only); omega) ?_; intro tk htk))
local macro_rules | `(tactic| walk_at "execs nil") => `(tactic| (k_here; (fail_if_success (fail_if_success k_gentoks)); refine gen_toks (by (try dsimp only); omega) ?_; intro tk htk))

theorem beq_of_ne' {a b : Str} (h : a ≠ b) : (a == b) = false := by simpa using h
local macro_rules | `(tactic| walk_at "call builtin:str.replace") => `(tactic| (k_here; refine replace_k ?_ ?_ ?_ ?_ ?_ ?_; rotate_left 5; intro t' k' hk'; (try dsimp only at hk'); rotate_right 5; (first | assumption | ((show @Ne Nat _ _); (try dsimp only); omega)); (first | assumption | ((show @Ne Nat _ _); (try dsimp only); omega)); (first | assumption | ((show @Ne Nat _ _); (try dsimp only); omega)); (first | assumption | decide +kernel); assumption))

theorem drep_c {w : World} {E : Value → Shared → Prop} {s : Shared} {Q : Value → Shared → Prop}
    {p : Program} {loose : List Str} {mean : ExcName → Option Value} {mg mb : Str → Option Value}
    (X : (Mine.heapK w.params).In s.heap) (T : Top p loose mean mg mb s.heap) (htk : 1 ≤ s.toks) {x : Str} {t : Tok} {d : Addr} {es : List DictEntry} {ep : Nat} {kvs : List (Str × Str)}
    (hod : s.heap.get? d = some (dObj es ep)) (he : Ents w es kvs) (hn : (kvs.map (·.1)).Nodup) (hne : ∀ kv ∈ kvs, kv.1 ≠ kv.2) (hfit : dFit kvs x) (hdS : (d == sysModules) = false)
    (ret : ∀ t' h' tk', Keeps s.heap h' → 1 ≤ tk' → Q (.str (dRep kvs x) t') { s with heap := h', toks := tk' }) :
    wpAny (model PySem.Challenge.rw_ij0039_01.row.prog w) (AtD 900 8900) (call (.ref 38) [.str x t, .ref d]) Q E s := by
  revert X; k_fill; intro X
  refine' call_c (binds := [(Str.ofString "s", .str x t), (Str.ofString "d", .ref d)]) [] ?hg ?hm ?hX ?hT ?ho ?hcd ?hroom ?hbind ?hB ?hSc ?hloc ?_ ?c1 ?c2 ?c3 ?c4
  (case hg => exact rfl)
  (case hm => intro q hq; cases hq)
  (case hX => exact X)
  (case hT => exact T)
  (case ho => k_is)
  (case hcd => k_is)
  (case hroom => decide)
  (case hbind => first | exact BindsTo.of_eq rfl | exact binds_K X rfl (by k_is) rfl rfl rfl)
  (case hB => conv => lhs; whnf)
  (case hSc => conv => lhs; whnf)
  (case hloc => exact locs rfl)
  (case c1 => exact rfl)
  (case c2 => exact rfl)
  (case c3 => exact rfl)
  (case c4 => decide)
  intro L' h₁ tk htk₀ F N X' T'
  replace htk : 1 ≤ tk := Nat.le_trans htk htk₀
  k_steps
  refine For_items (d := d) (es := es) (kvs := kvs) (ep := ep) rfl rfl rfl rfl F N hod he hn hdS (by first | assumption | omega | (dsimp only; omega)) (by with_unfolding_all rfl) (by decide)
    (fun Q' hq => ?ho) (fun i m => ∃ t' kk vv, m = fun y => if y = Str.ofString "s" then some (.str (dRep (kvs.take i) x) t') else if y = Str.ofString "value" then vv else if y = Str.ofString "key" then kk else if y = Str.ofString "d" then some (.ref d) else none) ⟨t, none, none, ?h0⟩ ?step ?hQ
  (case ho => refine ld F rfl hq)
  (case h0 =>
    funext y
    show List.lookup y [(Str.ofString "d", Value.ref d), (Str.ofString "s", Value.str x t)] = _
    simp only [List.lookup_cons, List.lookup_nil]
    by_cases h1 : y = Str.ofString "s"
    · subst h1; rfl
    by_cases h2 : y = Str.ofString "d"
    · subst h2; rfl
    rw [beq_of_ne' h2, beq_of_ne' h1]; simp [h1, h2])
  (case step =>
    rintro i k v t₁ t₂ m₁ h₂ tk₂ nw hi g1 g2 g3 ⟨ts, kk, vv, rfl⟩ htk₂ F₂ N₂
    obtain ⟨hr, hf⟩ := dRep_take kvs x i k v hi hfit
    unfold fitR at hf
    have hne' : (k == v) = false := by simpa using hne _ (List.mem_of_getElem? hi)
    clear F N
    k_steps
    refine' TurnEnd.intro (by first | assumption | omega) (by assumption) (by assumption) ⟨_, some (.str k t₁), some (.str v t₂), _⟩
    rotate_left 1
    rw [hr]
    funext y
    by_cases h1 : y = Str.ofString "s"
    · subst h1; exact rfl
    by_cases h2 : y = Str.ofString "value"
    · simp only [if_neg h1, if_pos h2]
    by_cases h3 : y = Str.ofString "key"
    · simp only [if_neg h1, if_neg h2, if_pos h3]
    simp only [if_neg h1, if_neg h2, if_neg h3])
  (case hQ =>
    rintro h' tk m' htk' F' N' ⟨ts, kk, vv, rfl⟩
    rw [List.take_length] at F'
    clear F N
    k_steps
    exact ret _ _ _ (fun b o e => F'.keep b o e) htk')
end Mine
end

section
open PySem PySem.W PyProof.Rows PySem.Spec PySem.Calls
namespace Mine
local macro_rules | `(tactic| walk_at "execs cons") => `(tactic| (k_here; (fail_if_success (fail_if_success k_gentoks)); refine gen_toks (by (try dsimp only); omega) ?_; intro tk htk))
local macro_rules | `(tactic| walk_at "execs nil") => `(tactic| (k_here; (fail_if_success (fail_if_success k_gentoks)); refine gen_toks (by (try dsimp only); omega) ?_; intro tk htk))
local macro_rules | `(tactic| walk_at "call builtin:str.replace") => `(tactic| (k_here; refine replace_k ?_ ?_ ?_ ?_ ?_ ?_; rotate_left 5; intro t' k' hk'; (try dsimp only at hk'); rotate_right 5; (first | assumption | ((show @Ne Nat _ _); (try dsimp only); omega)); (first | assumption | ((show @Ne Nat _ _); (try dsimp only); omega)); (first | assumption | ((show @Ne Nat _ _); (try dsimp only); omega)); (first | assumption | decide +kernel); assumption))

theorem truthy_k {prog : Program} {w : World} {A : Around} {E : Value → Shared → Prop} {s : Shared} {d : Addr} {es : List DictEntry} {ep : Nat} {kvs : List (Str × Str)} {Q : Bool → Shared → Prop} (hdS : (d == sysModules) = false)
    (ho : s.heap.get? d = some (dObj es ep)) (he : Ents w es kvs) (hn : (kvs.map (·.1)).Nodup) (hl : kvs.length ≤ 1000)
    (h : Q (!kvs.isEmpty) { s with toks := s.toks + 1 + 1 }) : wpAny (model prog w) A (truthy (.ref d)) Q E s := by
  obtain ⟨kv2, hlen, hm⟩ := ents_dictAt (prog := prog) he ho hn
  have hl2 : kv2.length = kvs.length := by rw [hlen, he.length]
  refine wpAny_truthy_dict hdS hm.dictOf (by omega) ?_
  have : kv2.isEmpty = kvs.isEmpty := by
    rw [Bool.eq_iff_iff, List.isEmpty_iff_length_eq_zero, List.isEmpty_iff_length_eq_zero, hl2]
  rw [this]; exact h
local macro_rules | `(tactic| walk_at "truthy ref") => `(tactic| (k_here; refine truthy_k ?_ (Fr.keep (by assumption) _ _ (by assumption)) (by assumption) (by assumption) (by assumption) ?_; (first | assumption | decide)))

theorem drep_in {w : World} {A : Around} {E : Value → Shared → Prop} {s : Shared} {Q : Value → Shared → Prop}
    {p : Program} {loose : List Str} {mean : ExcName → Option Value} {mg mb : Str → Option Value} {h₀ : Heap} {L : Addr} {m : Str → Option Value} {news : List (Addr × Obj)}
    (F : Fr h₀ L s.heap m) (N : News h₀ L s.heap news) (X : (Mine.heapK w.params).In h₀) (T : Top p loose mean mg mb h₀) (htk : 1 ≤ s.toks) {x : Str} {t : Tok} {d : Addr} {es : List DictEntry} {ep : Nat} {kvs : List (Str × Str)}
    (hod : h₀.get? d = some (dObj es ep)) (he : Ents w es kvs) (hn : (kvs.map (·.1)).Nodup) (hne : ∀ kv ∈ kvs, kv.1 ≠ kv.2) (hfit : dFit kvs x) (hdS : (d == sysModules) = false)
    (h1 : A.handled = none) (h2 : A.depth ≤ 900) (h3 : A.units ≤ 8900)
    (ret : ∀ t' h' tk', Fr h₀ L h' m → News h₀ L h' news → 1 ≤ tk' → Q (.str (dRep kvs x) t') { s with heap := h', toks := tk' }) :
    wpAny (model PySem.Challenge.rw_ij0039_01.row.prog w) A (call (.ref 38) [.str x t, .ref d]) Q E s :=
  wp_weaken (drep_c (X.keeps F.keep) (T.keeps F.keep) htk (F.keep _ _ hod) he hn hne hfit hdS fun t' h' tk' k hk => ret t' h' tk' (fr_keeps F k) (news_keeps N k) hk) h1 h2 h3

noncomputable abbrev esc3 : List (Str × Str) := [(Str.ofString "&", Str.ofString "&amp;"), (Str.ofString ">", Str.ofString "&gt;"), (Str.ofString "<", Str.ofString "&lt;")]

theorem esc_c {w : World} {E : Value → Shared → Prop} {s : Shared} {Q : Value → Shared → Prop}
    {p : Program} {loose : List Str} {mean : ExcName → Option Value} {mg mb : Str → Option Value}
    (X : (Mine.heapK w.params).In s.heap) (T : Top p loose mean mg mb s.heap) (htk : 1 ≤ s.toks) {x : Str} {t : Tok} {d : Addr} {es : List DictEntry} {ep : Nat} {kvs : List (Str × Str)}
    (hod : s.heap.get? d = some (dObj es ep)) (he : Ents w es kvs) (hn : (kvs.map (·.1)).Nodup) (hne : ∀ kv ∈ kvs, kv.1 ≠ kv.2) (h0 : kvs.isEmpty = false) (hl : kvs.length ≤ 1000) (hfit : dFit (esc3 ++ kvs) x) (hdS : (d == sysModules) = false)
    (ret : ∀ t' h' tk', Keeps s.heap h' → 1 ≤ tk' → Q (.str (dRep (esc3 ++ kvs) x) t') { s with heap := h', toks := tk' }) :
    wpAny (model PySem.Challenge.rw_ij0039_01.row.prog w) (AtD 800 8000) (call (.ref 47) [.str x t, .ref d]) Q E s := by
  obtain ⟨f1, f2, f3, f4⟩ := hfit
  unfold fitR at f1 f2 f3
  revert X; k_fill; intro X
  refine' call_c (binds := [(Str.ofString "data", .str x t), (Str.ofString "entities", .ref d)]) [] ?hg ?hm ?hX ?hT ?ho ?hcd ?hroom ?hbind ?hB ?hSc ?hloc ?_ ?c1 ?c2 ?c3 ?c4
  (case hg => exact rfl)
  (case hm => intro q hq; cases hq)
  (case hX => exact X)
  (case hT => exact T)
  (case ho => k_is)
  (case hcd => k_is)
  (case hroom => decide)
  (case hbind => first | exact BindsTo.of_eq rfl | exact binds_K X rfl (by k_is) rfl rfl rfl)
  (case hB => conv => lhs; whnf)
  (case hSc => conv => lhs; whnf)
  (case hloc => exact locs rfl)
  (case c1 => exact rfl)
  (case c2 => exact rfl)
  (case c3 => exact rfl)
  (case c4 => decide)
  intro L' h₁ tk htk₀ F N X' T'
  replace htk : 1 ≤ tk := Nat.le_trans htk htk₀
  replace hod : (hideAll s.heap (List.map (fun x : Addr × Obj => x.fst) [])).get? d = some (dObj es ep) := hod
  have hb : (!kvs.isEmpty) = true := by rw [h0]; rfl
  k_steps
  refine drep_in (by assumption) (by assumption) X' T' (by assumption) hod he hn hne f4 hdS rfl (Nat.le_of_ble_eq_true rfl) (Nat.le_of_ble_eq_true rfl) fun t' h' tk' F' N' htk' => ?_
  k_steps
  exact ret _ _ _ (fun b o e => Fr.keep (by assumption) b o e) (by first | assumption | omega)

theorem dRep_append : ∀ (a b : List (Str × Str)) (x : Str), dRep (a ++ b) x = dRep b (dRep a x)
  | [], _, _ => rfl
  | _ :: r, b, _ => dRep_append r b _
theorem dFit_append : ∀ (a b : List (Str × Str)) (x : Str), dFit (a ++ b) x → dFit a x ∧ dFit b (dRep a x)
  | [], _, _, h => ⟨trivial, h⟩
  | _ :: r, b, _, h => let z := dFit_append r b _ h.2; ⟨⟨h.1, z.1⟩, z.2⟩
noncomputable abbrev une2 : List (Str × Str) := [(Str.ofString "&lt;", Str.ofString "<"), (Str.ofString "&gt;", Str.ofString ">")]
noncomputable abbrev une1 : List (Str × Str) := [(Str.ofString "&amp;", Str.ofString "&")]
theorem une_c {w : World} {E : Value → Shared → Prop} {s : Shared} {Q : Value → Shared → Prop}
    {p : Program} {loose : List Str} {mean : ExcName → Option Value} {mg mb : Str → Option Value}
    (X : (Mine.heapK w.params).In s.heap) (T : Top p loose mean mg mb s.heap) (htk : 1 ≤ s.toks) {x : Str} {t : Tok} {d : Addr} {es : List DictEntry} {ep : Nat} {kvs : List (Str × Str)}
    (hod : s.heap.get? d = some (dObj es ep)) (he : Ents w es kvs) (hn : (kvs.map (·.1)).Nodup) (hne : ∀ kv ∈ kvs, kv.1 ≠ kv.2) (h0 : kvs.isEmpty = false) (hl : kvs.length ≤ 1000) (hfit : dFit (une2 ++ kvs ++ une1) x) (hdS : (d == sysModules) = false)
    (ret : ∀ t' h' tk', Keeps s.heap h' → 1 ≤ tk' → Q (.str (dRep (une2 ++ kvs ++ une1) x) t') { s with heap := h', toks := tk' }) :
    wpAny (model PySem.Challenge.rw_ij0039_01.row.prog w) (AtD 800 8000) (call (.ref 56) [.str x t, .ref d]) Q E s := by
  obtain ⟨⟨f1, f2, f4⟩, f5⟩ := dFit_append _ _ _ hfit
  rw [dRep_append] at ret
  generalize hy : dRep (une2 ++ kvs) x = y at f5 ret
  obtain ⟨f5, _⟩ := f5
  unfold fitR at f1 f2 f5
  revert X; k_fill; intro X
  refine' call_c (binds := [(Str.ofString "data", .str x t), (Str.ofString "entities", .ref d)]) [] ?hg ?hm ?hX ?hT ?ho ?hcd ?hroom ?hbind ?hB ?hSc ?hloc ?_ ?c1 ?c2 ?c3 ?c4
  (case hg => exact rfl)
  (case hm => intro q hq; cases hq)
  (case hX => exact X)
  (case hT => exact T)
  (case ho => k_is)
  (case hcd => k_is)
  (case hroom => decide)
  (case hbind => first | exact BindsTo.of_eq rfl | exact binds_K X rfl (by k_is) rfl rfl rfl)
  (case hB => conv => lhs; whnf)
  (case hSc => conv => lhs; whnf)
  (case hloc => exact locs rfl)
  (case c1 => exact rfl)
  (case c2 => exact rfl)
  (case c3 => exact rfl)
  (case c4 => decide)
  intro L' h₁ tk htk₀ F N X' T'
  replace htk : 1 ≤ tk := Nat.le_trans htk htk₀
  replace hod : (hideAll s.heap (List.map (fun x : Addr × Obj => x.fst) [])).get? d = some (dObj es ep) := hod
  have hb : (!kvs.isEmpty) = true := by rw [h0]; rfl
  k_steps
  refine drep_in (by assumption) (by assumption) X' T' (by assumption) hod he hn hne f4 hdS rfl (Nat.le_of_ble_eq_true rfl) (Nat.le_of_ble_eq_true rfl) fun t' h' tk' F' N' htk' => ?_
  rw [show dRep kvs _ = y from hy]
  k_steps
  exact ret _ _ _ (fun b o e => Fr.keep (by assumption) b o e) (by first | assumption | omega)
end Mine
end

section
open PySem PySem.W PyProof.Rows PySem.Spec PySem.Calls
namespace Mine
local macro_rules | `(tactic| walk_at "execs cons") => `(tactic| (k_here; (fail_if_success (fail_if_success k_gentoks)); refine gen_toks (by (try dsimp only); omega) ?_; intro tk htk))
local macro_rules | `(tactic| walk_at "execs nil") => `(tactic| (k_here; (fail_if_success (fail_if_success k_gentoks)); refine gen_toks (by (try dsimp only); omega) ?_; intro tk htk))
local macro_rules | `(tactic| walk_at "call builtin:str.replace") => `(tactic| (k_here; refine replace_k ?_ ?_ ?_ ?_ ?_ ?_; rotate_left 5; intro t' k' hk'; (try dsimp only at hk'); rotate_right 5; (first | assumption | ((show @Ne Nat _ _); (try dsimp only); omega)); (first | assumption | ((show @Ne Nat _ _); (try dsimp only); omega)); (first | assumption | ((show @Ne Nat _ _); (try dsimp only); omega)); (first | assumption | decide +kernel); assumption))

theorem esc_in {w : World} {A : Around} {E : Value → Shared → Prop} {s : Shared} {Q : Value → Shared → Prop}
    {p : Program} {loose : List Str} {mean : ExcName → Option Value} {mg mb : Str → Option Value} {h₀ : Heap} {L : Addr} {m : Str → Option Value} {news : List (Addr × Obj)}
    (F : Fr h₀ L s.heap m) (N : News h₀ L s.heap news) (X : (Mine.heapK w.params).In h₀) (T : Top p loose mean mg mb h₀) (htk : 1 ≤ s.toks) {x : Str} {t : Tok} {d : Addr} {es : List DictEntry} {ep : Nat} {kvs : List (Str × Str)}
    (hod : (d, dObj es ep) ∈ news) (he : Ents w es kvs) (hn : (kvs.map (·.1)).Nodup) (hne : ∀ kv ∈ kvs, kv.1 ≠ kv.2) (h0 : kvs.isEmpty = false) (hl : kvs.length ≤ 1000) (hfit : dFit (esc3 ++ kvs) x) (hdS : (d == sysModules) = false)
    (h1 : A.handled = none) (h2 : A.depth ≤ 800) (h3 : A.units ≤ 8000)
    (ret : ∀ t' h' tk', Fr h₀ L h' m → News h₀ L h' news → 1 ≤ tk' → Q (.str (dRep (esc3 ++ kvs) x) t') { s with heap := h', toks := tk' }) :
    wpAny (model PySem.Challenge.rw_ij0039_01.row.prog w) A (call (.ref 47) [.str x t, .ref d]) Q E s :=
  wp_weaken (esc_c (X.keeps F.keep) (T.keeps F.keep) htk (N _ hod).1 he hn hne h0 hl hfit hdS fun t' h' tk' k hk => ret t' h' tk' (fr_keeps F k) (news_keeps N k) hk) h1 h2 h3

noncomputable abbrev ws3 : List (Str × Str) := [(Str.ofString "\n", Str.ofString "&#10;"), (Str.ofString "\r", Str.ofString "&#13;"), (Str.ofString "\t", Str.ofString "&#9;")]

noncomputable def noC (x c : Str) : Bool := (Builtin.Str.occurrences x c 0 x.length 1).isEmpty
noncomputable def qaS (y : Str) : Str :=
  if noC y (Str.ofString "\"") = true then Str.ofString "\"" ++ y ++ Str.ofString "\""
  else if noC y (Str.ofString "'") = true then Str.ofString "'" ++ y ++ Str.ofString "'"
  else Str.ofString "\"" ++ Txt.replace y (Str.ofString "\"") (Str.ofString "&quot;") ++ Str.ofString "\""

theorem qa_c {w : World} {E : Value → Shared → Prop} {s : Shared} {Q : Value → Shared → Prop}
    {p : Program} {loose : List Str} {mean : ExcName → Option Value} {mg mb : Str → Option Value}
    (X : (Mine.heapK w.params).In s.heap) (T : Top p loose mean mg mb s.heap) (htk : 1 ≤ s.toks) {x : Str} {t : Tok} {y : Str}
    (hfit : dFit (esc3 ++ ws3) x) (hy : dRep (esc3 ++ ws3) x = y) (hlen : y.length ≤ 10000) (hfq : y.length + (y.length + 1) * (Str.ofString "&quot;").length ≤ 16777216) (hlq : (Txt.replace y (Str.ofString "\"") (Str.ofString "&quot;")).length ≤ 100000)
    (ret : ∀ t' h' tk', Keeps s.heap h' → 1 ≤ tk' → Q (.str (qaS y) t') { s with heap := h', toks := tk' }) :
    wpAny (model PySem.Challenge.rw_ij0039_01.row.prog w) (AtD 700 7000) (call (.ref 65) [.str x t]) Q E s := by
  revert X; k_fill; intro X
  refine' call_c (binds := [(Str.ofString "data", .str x t), (Str.ofString "entities", .ref 57)]) [] ?hg ?hm ?hX ?hT ?ho ?hcd ?hroom ?hbind ?hB ?hSc ?hloc ?_ ?c1 ?c2 ?c3 ?c4
  (case hg => exact rfl)
  (case hm => intro q hq; cases hq)
  (case hX => exact X)
  (case hT => exact T)
  (case ho => k_is)
  (case hcd => k_is)
  (case hroom => decide)
  (case hbind => first | exact BindsTo.of_eq rfl | exact binds_K X rfl (by k_is) rfl rfl rfl)
  (case hB => conv => lhs; whnf)
  (case hSc => conv => lhs; whnf)
  (case hloc => exact locs rfl)
  (case c1 => exact rfl)
  (case c2 => exact rfl)
  (case c3 => exact rfl)
  (case c4 => decide)
  intro L' h₁ tk htk₀ F N X' T'
  replace htk : 1 ≤ tk := Nat.le_trans htk htk₀
  have e57 : h₁.get? 57 = some (dObj [] 0) := F.keep _ _ (X' 57 _ (by k_is))
  have low : 1 < h₁.objs.size := Nat.lt_trans (by decide) (Heap.lt_size e57)
  k_steps
  refine star1 (kvs := ws3) (kvs₀ := []) (a := 57) (es₀ := []) (ep₀ := 0) rfl (by decide) (by decide) (by decide +kernel) (by decide) (by decide) low (by first | assumption | omega) e57 .nil
    (fun Q' s' k hq => ld (fr_keeps F k) rfl hq) fun D es ep h' tk' he hD hD0 hDz k htk' => ?_
  dsimp only at hD0 hDz k htk'
  have F' := fr_keeps F k
  have N' := news_add F N k hD hD0
  have hDS : (D == sysModules) = false := beq_eq_false_iff_ne.mpr (show D ≠ 1 from Nat.ne_of_gt (Nat.lt_of_lt_of_le low hDz))
  clear F N
  k_steps
  refine esc_in (by assumption) (by assumption) X' T' (by first | assumption | omega | (dsimp only; omega)) (.head _) he (by decide +kernel) (by decide +kernel) rfl (by decide) hfit hDS rfl (Nat.le_of_ble_eq_true rfl) (Nat.le_of_ble_eq_true rfl) fun t' h' tk' F' N' htk' => ?_
  rw [show dRep (esc3 ++ ([] ++ ws3)) x = y from hy]
  unfold qaS noC at ret
  k_steps
  · rw [if_pos (by assumption)] at ret
    exact ret _ _ _ (fun b o e => Fr.keep (by assumption) b o e) (by first | assumption | omega)
  · rw [if_neg (by rw [Bool.not_eq_true]; assumption), if_pos (by assumption)] at ret
    exact ret _ _ _ (fun b o e => Fr.keep (by assumption) b o e) (by first | assumption | omega)
  · rw [if_neg (by rw [Bool.not_eq_true]; assumption), if_neg (by rw [Bool.not_eq_true]; assumption)] at ret
    exact ret _ _ _ (fun b o e => Fr.keep (by assumption) b o e) (by first | assumption | omega)
end Mine
end

section
open PySem PySem.W PyProof.Rows PySem.Spec PySem.Calls
namespace Mine
local macro_rules | `(tactic| walk_at "execs cons") => `(tactic| (k_here; (fail_if_success (fail_if_success k_gentoks)); refine gen_toks (by (try dsimp only); omega) ?_; intro tk htk))
local macro_rules | `(tactic| walk_at "execs nil") => `(tactic| (k_here; (fail_if_success (fail_if_success k_gentoks)); refine gen_toks (by (try dsimp only); omega) ?_; intro tk htk))

theorem setItem_new {prog : Program} {w : World} {A : Around} {E : Value → Shared → Prop} {s : Shared} {d : Addr} {es : List DictEntry} {ep : Nat} {kvs : List (Str × Str)} {k v : Str} {t t' : Tok} {Q : Unit → Shared → Prop}
    (ho : s.heap.get? d = some (dObj es ep)) (he : Ents w es kvs) (hk : k ∉ kvs.map (·.1)) (hl : kvs.length ≤ 1000)
    (hQ : ∀ h', h'.get? d = some (dObj (es ++ [ent w k t v t']) (ep + 1)) → Heap.SameBut d s.heap h' → Q () { s with heap := h', toks := s.toks + 1 }) :
    wpAny (model prog w) A (setItem (.ref d) (.str k t) (.str v t')) Q E s := by
  have hT : s.TypeIs (.ref d) "dict" := ⟨_, ho, rfl⟩
  unfold setItem
  try with_reducible refine wpAny_holding ?_
  refine wpAny_bind (wpAny_sequenceKey hT (by decide) ?_)
  refine wpAny_bind (wpAny_callSpecial?_slot (name := Str.ofString "__setitem__") hT slot_dict_setitem
    (wpAny_call_entry slot_dict_setitem hT entry_dict_setitem ?_ (args_dict_setitem _ _ _)))
  show wpAny _ _ (Builtin.Dict.notOrdered "__setitem__" ⟨[.ref d, .str k t, .str v t'], []⟩ >>= _) _ _ s
  refine wpAny_bind (wpAny_notOrdered_dict hT ?_)
  show wpAny _ _ (dictSet d (.str k t) (.str v t') >>= _) _ _ s
  exact wpAny_bind (set_new ho he hk hl fun h' e hs => wpAny_pure ⟨.none, rfl, wpAny_pure (hQ h' e hs)⟩)

noncomputable abbrev names6 : List (Str × Str) := [(Str.ofString "&", Str.ofString "&amp;"), (Str.ofString "<", Str.ofString "&lt;"), (Str.ofString ">", Str.ofString "&gt;"), (Str.ofString "\n", Str.ofString "&#10;"), (Str.ofString "\r", Str.ofString "&#13;"), (Str.ofString "\t", Str.ofString "&#9;")]
noncomputable def namesL (b : Bool) : List (Str × Str) := names6 ++ if b = true then [(Str.ofString "\"", Str.ofString "&quot;")] else []

theorem news_one {h₀ h h' : Heap} {L D : Addr} {o o' : Obj} {news : List (Addr × Obj)} (N : News h₀ L h ((D, o) :: news)) (e : h'.get? D = some o') : News h₀ L h' [(D, o')] := by
  intro p hp
  rw [List.mem_singleton] at hp
  subst hp
  exact ⟨e, (N _ (.head _)).2⟩
theorem sysne {h₀ h : Heap} {L D : Addr} {m : Str → Option Value} (F : Fr h₀ L h m) (low : 1 < h₀.objs.size) (hD : h.objs.size ≤ D) : (D == sysModules) = false :=
  beq_eq_false_iff_ne.mpr (show D ≠ 1 from Nat.ne_of_gt (Nat.lt_of_lt_of_le (Nat.lt_of_lt_of_le low (Nat.le_trans F.above (Nat.le_of_lt F.ns.lt))) hD))
local macro_rules | `(tactic| walk_at "eval Dict") => `(tactic| (k_here; (with_reducible rename Fr _ _ _ _ => kF); (with_reducible rename News _ _ _ _ => kN); refine star0 rfl (by decide +kernel) (by decide +kernel) (by decide +kernel) (by first | assumption | omega | (dsimp only; omega)) ?_; intro D' es' ep' h' tk' he' hD' hD0' hDz' hk' htk'; (dsimp only at hD0' hDz' hk' htk'); (have F' := fr_keeps kF hk'); (have N' := news_add kF kN hk' hD' hD0'); (try (have hDS' := sysne kF (by assumption) hDz')); clear kF kN))

local macro_rules | `(tactic| walk_at "setItem ref str") => `(tactic| fail "mine")
theorem names_c {w : World} {E : Value → Shared → Prop} {s : Shared} {Q : Value → Shared → Prop}
    {p : Program} {loose : List Str} {mean : ExcName → Option Value} {mg mb : Str → Option Value}
    (X : (Mine.heapK w.params).In s.heap) (T : Top p loose mean mg mb s.heap) (htk : 1 ≤ s.toks) {b : Bool}
    (ret : ∀ D es ep h' tk', Ents w es (namesL b) → h'.get? D = some (dObj es ep) → s.heap.get? D = none → s.heap.objs.size ≤ D → Keeps s.heap h' → 1 ≤ tk' → Q (.ref D) { s with heap := h', toks := tk' }) :
    wpAny (model PySem.Challenge.rw_ij0039_01.row.prog w) (AtD 700 7000) (call (.ref 124) [.bool b]) Q E s := by
  revert X; k_fill; intro X
  refine' call_c (binds := [(Str.ofString "both", .bool b)]) [] ?hg ?hm ?hX ?hT ?ho ?hcd ?hroom ?hbind ?hB ?hSc ?hloc ?_ ?c1 ?c2 ?c3 ?c4
  (case hg => exact rfl)
  (case hm => intro q hq; cases hq)
  (case hX => exact X)
  (case hT => exact T)
  (case ho => k_is)
  (case hcd => k_is)
  (case hroom => decide)
  (case hbind => first | exact BindsTo.of_eq rfl | exact binds_K X rfl (by k_is) rfl rfl rfl)
  (case hB => conv => lhs; whnf)
  (case hSc => conv => lhs; whnf)
  (case hloc => exact locs rfl)
  (case c1 => exact rfl)
  (case c2 => exact rfl)
  (case c3 => exact rfl)
  (case c4 => decide)
  intro L' h₁ tk htk₀ F N X' T'
  replace htk : 1 ≤ tk := Nat.le_trans htk htk₀
  have hz : s.heap.objs.size ≤ h₁.objs.size := Nat.le_trans (Nat.le_of_eq (hideAll_size [] _)) (Nat.le_trans F.above (Nat.le_of_lt F.ns.lt))
  k_steps
  · (with_reducible rename _ = true => hb)
    (with_reducible rename Ents _ _ _ => he)
    (with_reducible rename Fr _ _ _ _ => F')
    (with_reducible rename News _ _ _ _ => N')
    refine setItem_new (N' _ (.head _)).1 he (by decide +kernel) (by decide) fun h₂ e₂ hs => ?_
    have F₂ := F'.change hs (N' _ (.head _)).2.1 (N' _ (.head _)).2.2
    have N₂ := news_one N' e₂
    clear F' N'
    k_steps
    subst hb
    exact ret _ _ _ _ _ (he.append (.cons (show @Ne Nat _ _ by dsimp only; omega) (show @Ne Nat _ _ by dsimp only; omega) (show @Ne Nat _ _ by dsimp only; omega) .nil)) e₂ (N₂ _ (.head _)).2.2 (Nat.le_trans hz (by assumption)) (fun b o e => F₂.keep b o e) (by first | assumption | omega)
  · (with_reducible rename Ents _ _ _ => he)
    (with_reducible rename Fr _ _ _ _ => F')
    (with_reducible rename News _ _ _ _ => N')
    (with_reducible rename _ = false => hb)
    subst hb
    exact ret _ _ _ _ _ he (N' _ (.head _)).1 (N' _ (.head _)).2.2 (Nat.le_trans hz (by assumption)) (fun b o e => F'.keep b o e) (by first | assumption | omega)

noncomputable abbrev back3 : List (Str × Str) := [(Str.ofString "\\&\\#10;", Str.ofString "\\\n"), (Str.ofString "\\&\\#13;", Str.ofString "\\\r"), (Str.ofString "\\&\\#9;", Str.ofString "\\\t")]
noncomputable abbrev ins3 : List (Str × Str) := [(Str.ofString "\\&#10;", Str.ofString "\n"), (Str.ofString "\\&#13;", Str.ofString "\r"), (Str.ofString "\\&#9;", Str.ofString "\t")]
noncomputable abbrev oth3 : List (Str × Str) := [(Str.ofString "\\&quot;", Str.ofString "\""), (Str.ofString "\\<", Str.ofString "<"), (Str.ofString "\\>", Str.ofString ">")]
theorem back_c {w : World} {E : Value → Shared → Prop} {s : Shared} {Q : Value → Shared → Prop}
    {p : Program} {loose : List Str} {mean : ExcName → Option Value} {mg mb : Str → Option Value}
    (X : (Mine.heapK w.params).In s.heap) (T : Top p loose mean mg mb s.heap) (htk : 1 ≤ s.toks)
    (ret : ∀ D es ep h' tk', Ents w es (back3 ++ ins3 ++ oth3) → h'.get? D = some (dObj es ep) → s.heap.get? D = none → s.heap.objs.size ≤ D → Keeps s.heap h' → 1 ≤ tk' → Q (.ref D) { s with heap := h', toks := tk' }) :
    wpAny (model PySem.Challenge.rw_ij0039_01.row.prog w) (AtD 700 7000) (call (.ref 141) []) Q E s := by
  revert X; k_fill; intro X
  refine' call_c (binds := []) [] ?hg ?hm ?hX ?hT ?ho ?hcd ?hroom ?hbind ?hB ?hSc ?hloc ?_ ?c1 ?c2 ?c3 ?c4
  (case hg => exact rfl)
  (case hm => intro q hq; cases hq)
  (case hX => exact X)
  (case hT => exact T)
  (case ho => k_is)
  (case hcd => k_is)
  (case hroom => decide)
  (case hbind => first | exact BindsTo.of_eq rfl | exact binds_K X rfl (by k_is) rfl rfl rfl)
  (case hB => conv => lhs; whnf)
  (case hSc => conv => lhs; whnf)
  (case hloc => exact locs rfl)
  (case c1 => exact rfl)
  (case c2 => exact rfl)
  (case c3 => exact rfl)
  (case c4 => decide)
  intro L' h₁ tk htk₀ F N X' T'
  replace htk : 1 ≤ tk := Nat.le_trans htk htk₀
  have hz : s.heap.objs.size ≤ h₁.objs.size := Nat.le_trans (Nat.le_of_eq (hideAll_size [] _)) (Nat.le_trans F.above (Nat.le_of_lt F.ns.lt))
  have low : 1 < (hideAll s.heap (List.map (fun x : Addr × Obj => x.fst) [])).objs.size := Nat.lt_trans (by decide) (Heap.lt_size (X' 57 _ (by k_is)))
  k_steps
  rename_i D₁ es₁ ep₁ h₂ tk₂ he₁ hD₁ hD0₁ hDz₁ hk₁ htk₁ hS₁ h₃ D₂ es₂ ep₂ h₄ tk₄ he₂ hD₂ hD0₂ hDz₂ hk₂ htk₂ hS₂ h₅ F' N'
  have low' : 1 < h₅.objs.size := Nat.lt_trans low (Nat.lt_of_le_of_lt F'.above F'.ns.lt)
  refine star2 rfl (by decide) (by decide) (by decide +kernel) (by decide) hS₁ hS₂ low' (by first | assumption | omega | (dsimp only; omega)) (N' _ (.tail _ (.head _))).1 he₁ (N' _ (.head _)).1 he₂
    (fun Q' s' k hq => ld (fr_keeps F' k) rfl hq) (fun Q' s' k hq => ld (fr_keeps F' k) rfl hq) fun D es ep h' tk' he hD hD0 hDz k htk' => ?_
  dsimp only at hD0 hDz k htk'
  have F'' := fr_keeps F' k
  have N'' := news_add F' N' k hD hD0
  exact ret D es ep h' tk' he hD (N'' _ (.head _)).2.2 (Nat.le_trans (Nat.le_of_eq (hideAll_size [] _)) (Nat.le_trans F'.above (Nat.le_trans (Nat.le_of_lt F'.ns.lt) hDz))) (fun b o e => F''.keep b o e) (by omega)
end Mine
end

section
open PySem PySem.W PyProof.Rows PySem.Spec PySem.Calls
namespace Mine
variable {prog : Program} {w : World} {A : Around} {E : Value → Shared → Prop} {s : Shared}
theorem sub_KeyError_Lookup : isSubtype (.type "KeyError") (.type "LookupError") = pure true := by rw [isSubtype_type]; kernel_rfl
open Builtin.Str in
theorem look_none {d : Addr} {f : Int → Option Value} {c : Nat} {Q : Mapped → Shared → Prop} (hdS : (d == sysModules) = false) (hh : A.handled = none) (hm : s.heap.MapOf (intKind prog w) d f) (hv : f c = none)
    (h : ∀ h' tk, (∀ b o, s.heap.get? b = some o → h'.get? b = some o) → s.toks ≤ tk → Q .keep { s with heap := h', toks := tk }) : wpAny (model prog w) A (tableLookup (.ref d) c) Q E s := by
  unfold tableLookup
  refine wpAny_bind (wpAny_attempt (wpAny_bind (wpAny_mkInt ?_)))
  refine wpAny_getItem_missing_of (s := { s with toks := s.toks + 1 }) (intKind_is prog w c s.toks) hdS hh hm hv fun h' e hx => ?_
  obtain ⟨ob, t, he, hc, hd⟩ := hx.there
  refine wpAny_bind (wpAny_isInstance (b := true) (T := "KeyError") ⟨ob, he, hc⟩ sub_KeyError_Lookup ?_)
  simp only [if_true]
  refine wpAny_bind (wpAny_rule (wpAny_pure ?_))
  exact h _ _ hx.keeps (by show s.toks ≤ s.toks + 1 + 1; omega)
open Builtin.Str in
theorem look_some {d : Addr} {f : Int → Option Value} {c : Nat} {x : Str} {t : Tok} {Q : Mapped → Shared → Prop} (hm : s.heap.MapOf (intKind prog w) d f) (hv : f c = some (.str x t))
    (h : ∀ tk, s.toks ≤ tk → Q (.text x) { s with toks := tk }) : wpAny (model prog w) A (tableLookup (.ref d) c) Q E s := by
  unfold tableLookup
  refine wpAny_bind (wpAny_attempt (wpAny_bind (wpAny_mkInt ?_)))
  refine wpAny_getItem_of (s := { s with toks := s.toks + 1 }) (intKind_is prog w c s.toks) hm hv ?_
  dsimp only
  refine wpAny_bind (wpAny_of_eq (a := none) (by rfl) ?_)
  dsimp only
  refine wpAny_bind (wpAny_of_eq (a := some x) (by rfl) ?_)
  exact wpAny_pure (h _ (by show s.toks ≤ s.toks + 1 + 1; omega))
open Builtin.Str in
theorem translate_text {d : Addr} {f : Int → Option Value} {c : Nat} {t : Tok} {Q : Value → Shared → Prop} (hc : c < 128) (hm : s.heap.MapOf (intKind prog w) d f) {x : Str} {u : Tok} (hx : x.length = 2) (hv : f c = some (.str x u)) 
    (hq : ∀ t' tk, s.toks ≤ tk → Q (.str x t') { s with toks := tk }) : wpAny (model prog w) A (call (.builtin "str.translate") [.str ⟨#[c]⟩ t, .ref d]) Q E s := by
  refine wpAny_call_entry F.slot_str_translate (typeIs_str _ _ _) F.entry_str_translate ?_ (F.args_str_translate_2 _ _)
  unfold Builtin.«str.translate»
  refine wpAny_bind (wpAny_of_eq (a := (Value.str ⟨#[c]⟩ t, (⟨#[c]⟩ : Str), Value.ref d)) (by rfl) ?_)
  dsimp only
  rw [if_neg (by show ¬ (((#[c] : Array Nat).size == 0) = true); simp)]
  have hall : (#[c].all fun x => decide (x < 128)) = true := by simp [hc]
  rw [hall]
  refine wpAny_bind ?_
  rw [List.forIn_toArray, List.forIn_cons]
  refine wpAny_bind ?_
  have h0 : tooLong 0 = false := by decide
  simp only [h0, Bool.false_eq_true, if_false, if_true, List.lookup_nil]
  refine wpAny_bind (look_some hm hv fun tk₁ ht₁ => ?_)
  have hl : (x.length == 1 && x.cps.all fun x => decide (x < 128)) = false := by rw [hx]; rfl
  simp only [hl, Bool.false_eq_true, if_false]
  refine wpAny_bind (wpAny_pure ?_)
  dsimp only
  refine wpAny_bind (wpAny_rule ?_)
  refine wpAny_bind (look_some (s := { s with toks := tk₁ }) hm hv fun tk₂ ht₂ => ?_)
  refine wpAny_pure ?_
  dsimp only
  refine wpAny_pure ?_
  have h2 : tooLong (0 + x.length) = false := by rw [hx]; decide
  rw [h2]
  simp only [Bool.false_eq_true, if_false]
  have e : (⟨[x].reverse.foldl (fun acc p => acc ++ p.cps) #[]⟩ : Str) = x := by simp
  rw [e]
  refine wpAny_bind (wpAny_mkStr ?_ (by rw [hx, sizeLine_eq]; decide))
  exact wpAny_pure ⟨_, rfl, hq _ _ (by dsimp only at ht₂ ⊢; omega)⟩
open Builtin.Str in
theorem translate_keep {d : Addr} {f : Int → Option Value} {c : Nat} {t : Tok} {Q : Value → Shared → Prop} (hdS : (d == sysModules) = false) (hh : A.handled = none) (hc : c < 128) (hm : s.heap.MapOf (intKind prog w) d f) (hv : f c = none) 
    (hq : ∀ t' h' tk, Keeps s.heap h' → s.toks ≤ tk → Q (.str ⟨#[c]⟩ t') { s with heap := h', toks := tk }) : wpAny (model prog w) A (call (.builtin "str.translate") [.str ⟨#[c]⟩ t, .ref d]) Q E s := by
  refine wpAny_call_entry F.slot_str_translate (typeIs_str _ _ _) F.entry_str_translate ?_ (F.args_str_translate_2 _ _)
  unfold Builtin.«str.translate»
  refine wpAny_bind (wpAny_of_eq (a := (Value.str ⟨#[c]⟩ t, (⟨#[c]⟩ : Str), Value.ref d)) (by rfl) ?_)
  dsimp only
  rw [if_neg (by show ¬ (((#[c] : Array Nat).size == 0) = true); simp)]
  have hall : (#[c].all fun x => decide (x < 128)) = true := by simp [hc]
  rw [hall]
  refine wpAny_bind ?_
  rw [List.forIn_toArray, List.forIn_cons]
  refine wpAny_bind ?_
  have h0 : tooLong 0 = false := by decide
  simp only [h0, Bool.false_eq_true, if_false, if_true, List.lookup_nil]
  refine wpAny_bind (look_none hdS hh hm hv fun h' tk₁ hk ht₁ => ?_)
  dsimp only
  refine wpAny_bind (wpAny_pure ?_)
  dsimp only
  refine wpAny_pure ?_
  dsimp only
  refine wpAny_pure ?_
  have h2 : tooLong (0 + 1) = false := by decide
  rw [h2]
  simp only [Bool.false_eq_true, if_false]
  have e : (⟨[(⟨#[c]⟩ : Str)].reverse.foldl (fun acc p => acc ++ p.cps) #[]⟩ : Str) = ⟨#[c]⟩ := by simp
  rw [e]
  refine wpAny_bind (wpAny_mkStr ?_ (by rw [sizeLine_eq]; show 1 ≤ _; decide))
  exact wpAny_pure ⟨_, rfl, hq _ _ _ hk (by dsimp only at ht₁ ⊢; omega)⟩
end Mine
end

section
open PySem PySem.W PyProof.Rows PySem.Spec PySem.Calls
namespace Mine
local macro_rules | `(tactic| walk_at "execs cons") => `(tactic| (k_here; (fail_if_success (fail_if_success k_gentoks)); refine gen_toks (by (try dsimp only); omega) ?_; intro tk htk))
local macro_rules | `(tactic| walk_at "execs nil") => `(tactic| (k_here; (fail_if_success (fail_if_success k_gentoks)); refine gen_toks (by (try dsimp only); omega) ?_; intro tk htk))

noncomputable def special (c : Nat) : Bool := [40, 41, 91, 93, 123, 125, 63, 42, 43, 45, 124, 94, 36, 92, 46, 38, 126, 35, 32, 9, 10, 13, 11, 12].contains c
noncomputable def escRe (c : Nat) : List Nat := if special c = true then [92, c] else [c]
noncomputable def chk79 (v : Option Value) (c : Nat) : Bool := match v with
  | some (.str x _) => special c && x == ⟨#[92, c]⟩
  | none => !special c
  | _ => false
theorem chk79_ok {v : Option Value} {c : Nat} (h : chk79 v c = true) : (special c = true ∧ ∃ u, v = some (.str ⟨#[92, c]⟩ u)) ∨ (special c = false ∧ v = none) := by
  unfold chk79 at h
  split at h
  · simp only [Bool.and_eq_true, beq_iff_eq] at h
    obtain ⟨h1, rfl⟩ := h
    exact .inl ⟨h1, _, rfl⟩
  · exact .inr ⟨by simpa using h, rfl⟩
  · cases h
theorem map79 {prog : Program} {w : World} {h : Heap} (X : (Mine.heapK w.params).In h) : ∃ f, h.MapOf (intKind prog w) 79 f ∧ ∀ c : Nat, c < 128 → chk79 (f (Int.ofNat c)) c = true := by
  have dum : PySem.Challenge.rw_ij0039_01.row.prog = PySem.Challenge.rw_ij0039_01.row.prog := rfl
  revert X dum; k_fill; intro X dum
  refine ⟨_, ⟨_, _, _, X 79 _ (by k_is), ⟨rfl, rfl, rfl⟩, rfl, ?_, fun _ => rfl⟩, ?_⟩
  · intro e he
    simp only [List.mem_toArray, List.mem_cons, List.not_mem_nil, or_false] at he
    rcases he with rfl | rfl | rfl | rfl | rfl | rfl | rfl | rfl | rfl | rfl | rfl | rfl | rfl | rfl | rfl | rfl | rfl | rfl | rfl | rfl | rfl | rfl | rfl | rfl <;> exact ⟨_, intKind_is _ _ _ _, rfl⟩
  · have e : (intKind prog w).is = Value.isInt := rfl
    rw [e]
    decide +kernel

theorem er_c {w : World} {E : Value → Shared → Prop} {s : Shared} {Q : Value → Shared → Prop}
    {p : Program} {loose : List Str} {mean : ExcName → Option Value} {mg mb : Str → Option Value}
    (X : (Mine.heapK w.params).In s.heap) (T : Top p loose mean mg mb s.heap) (htk : 1 ≤ s.toks) {c : Nat} {t : Tok} (hc : c < 128)
    (ret : ∀ t' h' tk', Keeps s.heap h' → 1 ≤ tk' → Q (.str ⟨(escRe c).toArray⟩ t') { s with heap := h', toks := tk' }) :
    wpAny (model PySem.Challenge.rw_ij0039_01.row.prog w) (AtD 700 7000) (call (.ref 89) [.str ⟨#[c]⟩ t]) Q E s := by
  revert X; k_fill; intro X
  refine' call_c (binds := [(Str.ofString "pattern", .str ⟨#[c]⟩ t)]) [] ?hg ?hm ?hX ?hT ?ho ?hcd ?hroom ?hbind ?hB ?hSc ?hloc ?_ ?c1 ?c2 ?c3 ?c4
  (case hg => exact rfl)
  (case hm => intro q hq; cases hq)
  (case hX => exact X)
  (case hT => exact T)
  (case ho => k_is)
  (case hcd => k_is)
  (case hroom => decide)
  (case hbind => first | exact BindsTo.of_eq rfl | exact binds_K X rfl (by k_is) rfl rfl rfl)
  (case hB => conv => lhs; whnf)
  (case hSc => conv => lhs; whnf)
  (case hloc => exact locs rfl)
  (case c1 => exact rfl)
  (case c2 => exact rfl)
  (case c3 => exact rfl)
  (case c4 => decide)
  intro L' h₁ tk htk₀ F N X' T'
  replace htk : 1 ≤ tk := Nat.le_trans htk htk₀
  obtain ⟨f, hf, hch⟩ := map79 (prog := PySem.Challenge.rw_ij0039_01.row.prog) (X'.keeps F.keep)
  replace hch := chk79_ok (hch c hc)
  k_steps
  refine GM.of (.str ⟨#[c]⟩ t) (typeIs_str _ _ _) PySem.F.slot_str_translate PySem.F.type_str_translate GM.noRef ?_
  k_steps
  have hS : ((79 : Addr) == sysModules) = false := by decide
  rcases hch with ⟨hs, u, hv⟩ | ⟨hs, hv⟩
  · refine translate_text hc hf rfl hv fun t' tk' htk' => ?_
    dsimp only at htk'
    k_steps
    have e : (⟨(escRe c).toArray⟩ : Str) = ⟨#[92, c]⟩ := by unfold escRe; rw [if_pos hs]
    rw [e] at ret
    exact ret _ _ _ (fun b o e => Fr.keep (by assumption) b o e) (by first | assumption | omega)
  · refine translate_keep hS rfl hc hf hv fun t' h' tk' hk htk' => ?_
    dsimp only at htk' hk
    have F' := fr_keeps F hk
    k_steps
    have e : (⟨(escRe c).toArray⟩ : Str) = ⟨#[c]⟩ := by unfold escRe; rw [if_neg (by rw [hs]; exact Bool.false_ne_true)]
    rw [e] at ret
    exact ret _ _ _ (fun b o e => F'.keep b o e) (by first | assumption | omega)
end Mine
end

section
open PySem PySem.W PyProof.Rows PySem.Spec PySem.Calls
namespace Mine
variable {prog : Program} {w : World} {A : Around} {E : Value → Shared → Prop} {s : Shared}

noncomputable def TurnEndL (s : Shared) (h₀ : Heap) (L : Addr) (own : List (Addr × Obj)) (Jn : (Str → Option Value) → List (Addr × Obj) → Prop) (f : Flow) (s₂ : Shared) : Prop :=
  f = .next ∧ ∃ h₂ tk₂ m₂ nw₂, s₂ = { s with heap := h₂, toks := tk₂ } ∧ 1 ≤ tk₂ ∧ Fr h₀ L h₂ m₂ ∧ News h₀ L h₂ (nw₂ ++ own) ∧ Jn m₂ nw₂
theorem TurnEndL.intro {s : Shared} {h₀ h₂ : Heap} {L : Addr} {own nw₂ : List (Addr × Obj)} {Jn : (Str → Option Value) → List (Addr × Obj) → Prop} {tk₂ : Nat} {m₂ : Str → Option Value} (ht : 1 ≤ tk₂) (F : Fr h₀ L h₂ m₂) (N : News h₀ L h₂ (nw₂ ++ own)) (hJ : Jn m₂ nw₂) :
    TurnEndL s h₀ L own Jn .next { s with heap := h₂, toks := tk₂ } := ⟨rfl, h₂, tk₂, m₂, nw₂, rfl, ht, F, N, hJ⟩

noncomputable abbrev AsgOk (prog : Program) (w : World) (A : Around) (s : Shared) (h₀ : Heap) (env : Env) (ex : List (Addr × Obj)) (target : Expr) (v : Value) (B : (Str → Option Value) → (Str → Option Value)) : Prop :=
  ∀ (E : Value → Shared → Prop) (Q : Unit → Shared → Prop) h m tk, 1 ≤ tk → Fr h₀ env.locals h m → News h₀ env.locals h ex →
    (∀ h' tk', 1 ≤ tk' → (∀ b o, b ≠ env.locals → h.get? b = some o → h'.get? b = some o) → Fr h₀ env.locals h' (B m) → Q () { s with heap := h', toks := tk' }) →
    wpAny (model prog w) A (assign target env v) Q E { s with heap := h, toks := tk }

theorem forList_code {env : Env} {target : Expr} {body : List Stmt} {I l : Addr} {vs : List Value} {B : Nat → Value → (Str → Option Value) → (Str → Option Value)} {m₀ : Str → Option Value} {h₀ : Heap}
    {news ex : List (Addr × Obj)} {R : Result → Shared → Prop} (U : List Addr)
    (hh : A.handled = none) (hlI : l ≠ I) (hI0 : h₀.get? I = none) (hIL : I ≠ env.locals) (hlL : l ≠ env.locals)
    (hit : s.heap.IsListIter I l 0) (hl : s.heap.IsList l vs.toArray) (hlk : ∀ h m, Fr h₀ env.locals h m → News h₀ env.locals h ex → h.IsList l vs.toArray)
    (F : Fr h₀ env.locals s.heap m₀) (N : News h₀ env.locals s.heap (news ++ ex)) (hex : ∀ p ∈ ex, p.1 ≠ I) (hexU : ∀ p ∈ ex, p.1 ∉ U) (hIU : I ∉ U) (ht : 1 ≤ s.toks)
    (J : Nat → (Str → Option Value) → List (Addr × Obj) → Prop) (h0 : J 0 m₀ news) (hJc : ∀ i m nw, J i m nw → ∀ p ∈ nw, p.2.cls ≠ .type "list_iterator")
    (asg : ∀ i v, vs[i]? = some v → AsgOk prog w A s h₀ env ex target v (B i v))
    (step : ∀ i v m₁ h₁ tk₁ nw own, vs[i]? = some v → J i m₁ nw → 1 ≤ tk₁ → (∀ p ∈ own, p.1 ∉ U) → Fr h₀ env.locals h₁ (B i v m₁) → News h₀ env.locals h₁ (nw ++ own) →
      wpAny (model prog w) A (execs body env) (TurnEndL s h₀ env.locals own (J (i + 1))) (notedBy (model prog w) A env fun e s' => R (.error e) s') { s with heap := h₁, toks := tk₁ })
    (hQ : ∀ h' tk m' nw, 1 ≤ tk → Fr h₀ env.locals h' m' → News h₀ env.locals h' (nw ++ ex) → J vs.length m' nw → R (.ok .next) { s with heap := h', toks := tk })
    (hlet : ∀ i v (s' : Shared) (Q : Unit → Shared → Prop) (E : Value → Shared → Prop), vs[i]? = some v → s'.heap.IsListIter I l (i + 1) → Q () s' → wpAny (model prog w) A (letOwnedTupleGo target (.ref I) v) Q E s') :
    codeAny (model prog w) A (.forLoop target (.ref I) body [] env) R s := by
  refine codeAny_forLoop_any
    (fun n s' => ∃ h' tk m' i nw, s' = { s with heap := h', toks := tk } ∧ 1 ≤ tk ∧ h'.IsListIter I l i ∧ Fr h₀ env.locals h' m' ∧ News h₀ env.locals h' (nw ++ ex) ∧ J i m' nw ∧ i ≤ vs.length ∧
      n = vs.length + 1 - i) ?_ (vs.length + 1)
    ⟨s.heap, s.toks, m₀, 0, news, rfl, ht, hit, F, N, h0, Nat.zero_le _, rfl⟩
  · rintro n s' ⟨H, tk, m', i, nw, rfl, htk, hit', F', N', hJ, hi, rfl⟩
    have hnI : ∀ p ∈ nw, p.1 ≠ I := fun p hp q => by
      obtain ⟨io, hio, hic, _⟩ := id hit'
      have e := (N' p (List.mem_append_left _ hp)).1
      rw [q, hio] at e
      cases e
      exact hJc i m' nw hJ p hp hic
    have hex' : News h₀ env.locals H ex := fun p hp => N' p (List.mem_append_right _ hp)
    have hl' := hlk H m' F' hex'
    cases hv : vs[i]? with
    | none =>
      have hsz : i = vs.length := Nat.le_antisymm hi (by simpa using hv)
      refine wpAny_pyNext_list_end (s := { s with heap := H, toks := tk }) hh hit' hl' (by simpa using hv) fun h₁ he₁ => wpAny_execs_nil ?_
      have kx : ∀ b o, b ≠ I → H.get? b = some o → h₁.get? b = some o := fun b o hb e => he₁ b o hb e
      refine hQ h₁ tk m' nw htk ⟨F'.ns.extBut he₁ (Ne.symm hIL), fun b o e => kx b o (fun q => by rw [q, hI0] at e; cases e) (F'.keep b o e), F'.above⟩ (fun p hp => ?_) (hsz ▸ hJ)
      rcases List.mem_append.mp hp with h1 | h1
      · exact ⟨kx _ _ (hnI p h1) (N' p hp).1, (N' p hp).2⟩
      · exact ⟨kx _ _ (hex p h1) (N' p hp).1, (N' p hp).2⟩
    | some v =>
      have hlt : i < vs.length := (List.getElem?_eq_some_iff.mp hv).1
      refine wpAny_pyNext_list_item (s := { s with heap := H, toks := tk }) hit' hl' (x := v) (by simpa using hv) fun h₁ hit₁ hs₁ => ?_
      replace hs₁ : Heap.SameBut I H h₁ := hs₁
      have k₁ : ∀ b o, b ≠ I → H.get? b = some o → h₁.get? b = some o := fun b o hb e => hs₁.extBut b o hb e
      have F₁ : Fr h₀ env.locals h₁ m' := ⟨F'.ns.at' fun o e => k₁ _ o (Ne.symm hIL) e, fun b o e => k₁ b o (fun q => by rw [q, hI0] at e; cases e) (F'.keep b o e), F'.above⟩
      have N₁ : News h₀ env.locals h₁ (nw ++ ex) := fun p hp => by
        rcases List.mem_append.mp hp with h1 | h1
        · exact ⟨k₁ _ _ (hnI p h1) (N' p hp).1, (N' p hp).2⟩
        · exact ⟨k₁ _ _ (hex p h1) (N' p hp).1, (N' p hp).2⟩
      obtain ⟨io, hio, hic, hid⟩ := id hit₁
      refine hlet i v { s with heap := h₁, toks := tk } _ _ hv hit₁ ?_
      refine asg i v hv _ _ h₁ m' tk htk F₁ (fun p hp => N₁ p (List.mem_append_right _ hp)) fun h₂ tk₂ htk₂ k₂ F₂ => ?_
      have N₂ : News h₀ env.locals h₂ (nw ++ ((I, io) :: ex)) := fun p hp => by
        rcases List.mem_append.mp hp with h1 | h1
        · exact ⟨k₂ _ _ (N₁ p (List.mem_append_left _ h1)).2.1 (N₁ p (List.mem_append_left _ h1)).1, (N₁ p (List.mem_append_left _ h1)).2⟩
        · rcases List.mem_cons.mp h1 with rfl | h1
          · exact ⟨k₂ _ _ hIL hio, hIL, hI0⟩
          · exact ⟨k₂ _ _ (N₁ p (List.mem_append_right _ h1)).2.1 (N₁ p (List.mem_append_right _ h1)).1, (N₁ p (List.mem_append_right _ h1)).2⟩
      have hownU : ∀ p ∈ (I, io) :: ex, p.1 ∉ U := fun p hp => by
        rcases List.mem_cons.mp hp with rfl | hp
        · exact hIU
        · exact hexU p hp
      refine wpAny_mono (step i v m' h₂ tk₂ nw ((I, io) :: ex) hv hJ htk₂ hownU F₂ N₂) (fun f s₃ h₆ => ?_) fun _ _ x => x
      obtain ⟨rfl, h₆, tk₆, m₂, nw₂, rfl, ht₆, F₆, N₆, hJ₆⟩ := h₆
      have hIo := (N₆ _ (List.mem_append_right _ (.head _))).1
      refine ⟨vs.length + 1 - (i + 1), by omega, h₆, tk₆, m₂, i + 1, nw₂, rfl, ht₆, ⟨io, hIo, hic, hid⟩, F₆, fun p hp => ?_, hJ₆, hlt, rfl⟩
      rcases List.mem_append.mp hp with h1 | h1
      · exact N₆ p (List.mem_append_left _ h1)
      · exact N₆ p (List.mem_append_right _ (.tail _ h1))

theorem asg_name {env : Env} {x : Str} {px : Pos} {h₀ : Heap} {ex : List (Addr × Obj)} {v : Value} (hx : env.kindOf x = some .local)
    (hp : (env.scope.kind == .class || (env.scope.kind == .module && env.locals != env.globals)) = false) :
    AsgOk prog w A s h₀ env ex (.Name x px) v (fun m y => if y = x then some v else m y) := by
  intro E Q h m tk htk F N hq
  refine wpAny_assign_Name (wpAny_storeName_local hx F.ns (fun h' hn hs => ?_) hp)
  replace hs : Heap.SameBut env.locals h h' := hs
  exact hq h' _ (Nat.le_succ_of_le htk) (fun b o hb e => hs.extBut b o hb e) (F.set hn hs)

theorem asg_pair {env : Env} {x y : Str} {px py pt : Pos} {k : Nat} {h₀ : Heap} {ex : List (Addr × Obj)} {a : Addr} {u v : Value} (hh : A.handled = none) (hx : env.kindOf x = some .local) (hy : env.kindOf y = some .local)
    (hp : (env.scope.kind == .class || (env.scope.kind == .module && env.locals != env.globals)) = false)
    (ht : ∀ h m, Fr h₀ env.locals h m → News h₀ env.locals h ex → h.IsTuple a #[u, v]) :
    AsgOk prog w A s h₀ env ex (.Tuple [.Name x px, .Name y py] k pt) (.ref a) (fun m z => if z = y then some v else if z = x then some u else m z) := by
  intro E Q h m tk htk F N hq
  refine wpAny_assign_Tuple (s := { s with heap := h, toks := tk }) hh (ht h m F N) rfl rfl fun h₃ hx₃ => ?_
  replace hx₃ : Heap.ExtBut h.objs.size h h₃ := hx₃
  have k₃ : Keeps h h₃ := fun b o e => hx₃ b o (Nat.ne_of_lt (Heap.lt_size e)) e
  have F₃ := fr_keeps F k₃
  show wpAny _ _ (do holding [v] (assign (.Name x px) env u); do holding [] (assign (.Name y py) env v); pure ()) _ _ _
  refine wpAny_bind (wpAny_holding (wpAny_assign_Name (wpAny_storeName_local hx F₃.ns (fun h₄ hn₄ hs₄ => ?_) hp)))
  replace hs₄ : Heap.SameBut env.locals h₃ h₄ := hs₄
  have F₄ := F₃.set hn₄ hs₄
  refine wpAny_bind (wpAny_holding (wpAny_assign_Name (wpAny_storeName_local hy F₄.ns (fun h₅ hn₅ hs₅ => wpAny_pure ?_) hp)))
  replace hs₅ : Heap.SameBut env.locals h₄ h₅ := hs₅
  exact hq h₅ _ (by dsimp only; omega) (fun b o hb e => hs₅.extBut b o hb (hs₄.extBut b o hb (k₃ b o e))) (F₄.set hn₅ hs₅)

theorem forList_iter {env : Env} {target : Expr} {body : List Stmt} {l : Addr} {vs : List Value} {B : Nat → Value → (Str → Option Value) → (Str → Option Value)} {m₀ : Str → Option Value} {h₀ : Heap}
    {news ex : List (Addr × Obj)} {Q : Flow → Shared → Prop} (U : List Addr)
    (hh : A.handled = none) (hlk : ∀ h m, Fr h₀ env.locals h m → News h₀ env.locals h ex → h.IsList l vs.toArray)
    (F : Fr h₀ env.locals s.heap m₀) (N : News h₀ env.locals s.heap (news ++ ex)) (hexU : ∀ p ∈ ex, p.1 ∉ U) (hU : ∀ u ∈ U, u < s.heap.objs.size) (ht : 1 ≤ s.toks)
    (J : Nat → (Str → Option Value) → List (Addr × Obj) → Prop) (h0 : J 0 m₀ news) (hJc : ∀ i m nw, J i m nw → ∀ p ∈ nw, p.2.cls ≠ .type "list_iterator")
    (asg : ∀ i v, vs[i]? = some v → AsgOk prog w A s h₀ env ex target v (B i v))
    (step : ∀ i v m₁ h₁ tk₁ nw own, vs[i]? = some v → J i m₁ nw → 1 ≤ tk₁ → (∀ p ∈ own, p.1 ∉ U) → Fr h₀ env.locals h₁ (B i v m₁) → News h₀ env.locals h₁ (nw ++ own) →
      wpAny (model prog w) A (execs body env) (TurnEndL s h₀ env.locals own (J (i + 1))) E { s with heap := h₁, toks := tk₁ })
    (hQ : ∀ h' tk m' nw, 1 ≤ tk → Fr h₀ env.locals h' m' → News h₀ env.locals h' (nw ++ ex) → J vs.length m' nw → Q .next { s with heap := h', toks := tk })
    (hlet : ∀ I i v (s' : Shared) (Q : Unit → Shared → Prop) (E : Value → Shared → Prop), vs[i]? = some v → s'.heap.IsListIter I l (i + 1) → Q () s' → wpAny (model prog w) A (letOwnedTupleGo target (.ref I) v) Q E s')
    (hE : PassesOwn (model prog w) A env E := by passes_own) :
    wpAny (model prog w) A (pyIter (.ref l)) (fun it s₂ => codeAny (model prog w) A (.forLoop target it body [] env) (fun r s' => match r with | .ok f => Q f s' | .error e => cameBackBy (model prog w) A env E e s') s₂) E s := by
  have hl := hlk _ _ F fun p hp => N p (List.mem_append_right _ hp)
  refine wpAny_pyIter_list hl ?_
  obtain ⟨oL, _, _, hoL, _⟩ := id F.ns
  have hLlt : env.locals < s.heap.objs.size := Heap.lt_size hoL
  obtain ⟨ol, hol, hlc, nl, hld⟩ := id hl
  refine forList_code (R := fun r s' => match r with | .ok f => Q f s' | .error e => cameBackBy (model prog w) A env E e s') (s := { s with heap := s.heap.push _ }) U hh (Nat.ne_of_lt (Heap.lt_size hol)) (Heap.get?_none_of_le (Nat.le_trans F.above (Nat.le_of_lt hLlt)))
    (Nat.ne_of_gt hLlt) (fun q => by rw [q, hoL] at hol; cases hol; obtain ⟨o', _, _, e, hd', _⟩ := id F.ns; rw [hoL] at e; cases e; rw [hld] at hd'; cases hd')
    ⟨_, Heap.get?_push_size _ rfl, rfl, rfl⟩ (hl.at fun o e => Heap.get?_push_of_some _ e) hlk (F.push _) (news_keeps N fun b o e => Heap.get?_push_of_some _ e)
    (fun p hp => Nat.ne_of_lt (Heap.lt_size (N p (List.mem_append_right _ hp)).1)) hexU (fun hm => Nat.lt_irrefl _ (hU _ hm)) ht J h0 hJc asg
    (fun i v m₁ h₁ tk₁ nw own h1 h2 h3 h4 h5 h6 => wpAny_passesOwn hE (step i v m₁ h₁ tk₁ nw own h1 h2 h3 h4 h5 h6)) hQ (fun i v s' Q' E' h1 h2 h3 => hlet _ i v s' Q' E' h1 h2 h3)

/-- a mark at which the walk stands still -/
noncomputable def Stop (P : Prop) : Prop := P
theorem stop {P : Prop} (h : Stop P) : P := h

theorem last_get {h₀ : Heap} {L D : Addr} {news : List (Addr × Obj)} {ws : List Value} {v : Value} {n : Nat} {u : Tok} {value slice : Expr} {Q : Value → Shared → Prop} (N : News h₀ L s.heap news) (hm : (D, W.listOf (ws ++ [v]).toArray n) ∈ news) (h : Q v s)
    (hs : subscripted slice false (.ref D) (.int (-1) u) = operate [.ref D, .int (-1) u] (getItem (.ref D) (.int (-1) u)) := by with_unfolding_all rfl) :
    wpAny (model prog w) A (subscriptTail value slice (.ref D) (.int (-1) u)) Q E s := by
  have hl : s.heap.IsList D (ws ++ [v]).toArray := PySem.IsL.isList (n := n) (N _ hm).1
  refine tail_any hl.typeIs slot_list_getitem.lookup (wpAny_getItem_list_neg hl (by decide) ?_ (by decide) (x := v) ?_ h) hs
  · simp; omega
  · have e : ((-1 : Int) + ((ws ++ [v]).toArray.size : Nat)).toNat = ws.length := by simp; omega
    rw [e]
    simp
theorem last_set {h₀ : Heap} {L D : Addr} {m : Str → Option Value} {news news' : List (Addr × Obj)} {ws : List Value} {v v' : Value} {n : Nat} {u : Tok} {Q : Unit → Shared → Prop} (F : Fr h₀ L s.heap m) (N : News h₀ L s.heap news)
    (U : Upd D (W.listOf (ws ++ [v]).toArray n) (W.listOf (ws ++ [v']).toArray n) news news') (h : ∀ h', Fr h₀ L h' m → News h₀ L h' news' → Q () { s with heap := h' }) :
    wpAny (model prog w) A (setItem (.ref D) (.int (-1) u) v') Q E s := by
  obtain ⟨pre, post, rfl, rfl, a, b⟩ := U.split
  have z := N (D, W.listOf (ws ++ [v]).toArray n) (List.mem_append.mpr (.inr (.head _)))
  have e : ((-1 : Int) + ((ws ++ [v]).toArray.size : Nat)).toNat = ws.length := by simp; omega
  refine ki_setBack z.1 (by decide) (by simp; omega) (by decide) (h _ (F.change (Heap.SameBut.update ..) z.2.1 z.2.2) (ki_turn _ N a b ?_ ?_))
  · rw [e]
    apply Array.toList_inj.mp
    simp
  · simp
end Mine
end

section
open PySem PySem.W PyProof.Rows PySem.Spec PySem.Calls
namespace Mine
inductive Kd where
  | is | star | any | ins | out
  deriving DecidableEq
noncomputable def Kd.s : Kd → Str
  | .is => Str.ofString "is"
  | .star => Str.ofString "*"
  | .any => Str.ofString "?"
  | .ins => Str.ofString "in"
  | .out => Str.ofString "out"
noncomputable abbrev Item := Kd × List Nat
noncomputable abbrev S (l : List Nat) : Str := ⟨l.toArray⟩
noncomputable def menu : List Nat := [38, 60, 62, 34, 39, 10, 13, 9, 92, 97, 59, 35, 94, 126, 33, 91]
/-- the sign of a draw -/
noncomputable def signOf (x : Int) : Nat := menu.getD ((x % 64) / 4).toNat 0
noncomputable def stepI (its : List Item) (x : Int) : List Item :=
  let y := x % 64
  let sg := signOf x
  if y % 4 = 0 then its ++ [(.is, [sg])]
  else if y % 4 = 1 then its ++ [(if y / 4 % 2 = 0 then .star else .any, [])]
  else if y % 4 = 3 then its ++ [(.out, [sg])]
  else match its.getLast? with
    | some (.ins, l) => its.dropLast ++ [(.ins, l ++ [sg])]
    | some (.out, l) => its.dropLast ++ [(.out, l ++ [sg])]
    | _ => its ++ [(.ins, if sg = 33 then [97, 33] else [sg])]
noncomputable def items0 (n : Nat) : List Item := [(.is, [if n % 2 = 0 then 34 else 97]), (.star, []), (.ins, [60, 38])]
noncomputable def itemsOf (ns : List Int) : List Item := (ns.take 10).foldl stepI (items0 ns.length)

noncomputable abbrev tupObj (it : Item) (t t' : Tok) : Obj := { cls := .type "tuple", data := .seq #[.str it.1.s t, .str (S it.2) t'] }
/-- the ledger bears an item at a value -/
inductive ItIn (R : List (Addr × Obj)) : Value → Item → Prop
  | mk {a : Addr} {it : Item} {t t' : Tok} (h : (a, tupObj it t t') ∈ R) : ItIn R (.ref a) it
theorem ItIn.mono {R R' : List (Addr × Obj)} {v : Value} {it : Item} (h : ItIn R v it) (hs : ∀ p ∈ R, p ∈ R') : ItIn R' v it := by
  cases h with
  | mk h => exact .mk (hs _ h)
inductive ItsIn (R : List (Addr × Obj)) : List Value → List Item → Prop
  | nil : ItsIn R [] []
  | cons {v : Value} {it : Item} {vs : List Value} {its : List Item} (h : ItIn R v it) (r : ItsIn R vs its) : ItsIn R (v :: vs) (it :: its)
theorem ItsIn.mono {R R' : List (Addr × Obj)} {vs : List Value} {its : List Item} (h : ItsIn R vs its) (hs : ∀ p ∈ R, p ∈ R') : ItsIn R' vs its := by
  induction h with
  | nil => exact .nil
  | cons h _ ih => exact .cons (h.mono hs) ih
theorem ItsIn.append {R : List (Addr × Obj)} {vs ws : List Value} {its jts : List Item} (h : ItsIn R vs its) (g : ItsIn R ws jts) : ItsIn R (vs ++ ws) (its ++ jts) := by
  induction h with
  | nil => exact g
  | cons h _ ih => exact .cons h ih
theorem ItsIn.length {R : List (Addr × Obj)} {vs : List Value} {its : List Item} (h : ItsIn R vs its) : vs.length = its.length := by
  induction h with
  | nil => rfl
  | cons h _ ih => simp [ih]
/-- the last item, and what stands ahead of it -/
theorem ItsIn.last {R : List (Addr × Obj)} {vs : List Value} {its : List Item} (h : ItsIn R vs its) (hne : its ≠ []) :
    ∃ ws v jts it, vs = ws ++ [v] ∧ its = jts ++ [it] ∧ ItsIn R ws jts ∧ ItIn R v it := by
  induction h with
  | nil => exact absurd rfl hne
  | @cons v it vs its h r ih =>
    cases r with
    | nil => exact ⟨[], v, [], it, rfl, rfl, .nil, h⟩
    | cons h' r' =>
      obtain ⟨ws, v', jts, it', e1, e2, h1, h2⟩ := ih (by simp)
      exact ⟨v :: ws, v', it :: jts, it', by rw [e1]; rfl, by rw [e2]; rfl, .cons h h1, h2⟩
theorem stepI_ne (its : List Item) (x : Int) (h : its ≠ []) : stepI its x ≠ [] := by
  unfold stepI
  dsimp only
  repeat' split
  all_goals simp
end Mine
namespace Mine
theorem stepI_len (its : List Item) (x : Int) : (stepI its x).length ≤ its.length + 1 := by
  unfold stepI
  dsimp only
  repeat' split
  all_goals (first | (simp; done) | (simp only [List.length_append, List.length_dropLast, List.length_cons, List.length_nil]; omega))
theorem stepI_sg (its : List Item) (x : Int) (B : Nat) (h2 : 2 ≤ B) (h : ∀ it ∈ its, it.2.length ≤ B) : ∀ it ∈ stepI its x, it.2.length ≤ B + 1 := by
  intro it hit
  unfold stepI at hit
  dsimp only at hit
  have old : ∀ it ∈ its, it.2.length ≤ B + 1 := fun it hi => Nat.le_succ_of_le (h it hi)
  have dl : ∀ it ∈ its.dropLast, it.2.length ≤ B + 1 := fun it hi => old it (List.dropLast_subset its hi)
  repeat' split at hit
  all_goals (rcases List.mem_append.mp hit with hi | hi)
  all_goals (first | exact old it hi | exact dl it hi | skip)
  all_goals (rw [List.mem_singleton] at hi; subst hi)
  all_goals (first | (simp; done) | (simp; omega) | (rename_i l hl; have := h _ (List.mem_of_getLast? hl); simp only [List.length_append, List.length_cons, List.length_nil] at *; omega) | (simp; split <;> simp <;> omega) | (split <;> simp <;> omega))
theorem fold_len (xs : List Int) : ∀ its : List Item, (xs.foldl stepI its).length ≤ its.length + xs.length := by
  induction xs with
  | nil => intro its; simp
  | cons x xs ih => intro its; have := ih (stepI its x); have := stepI_len its x; simp only [List.foldl_cons, List.length_cons]; omega
theorem fold_sg (xs : List Int) : ∀ (its : List Item) (B : Nat), 2 ≤ B → (∀ it ∈ its, it.2.length ≤ B) → ∀ it ∈ xs.foldl stepI its, it.2.length ≤ B + xs.length := by
  induction xs with
  | nil => intro its B _ h; simpa using h
  | cons x xs ih =>
    intro its B h2 h it hit
    have := ih (stepI its x) (B + 1) (by omega) (stepI_sg its x B h2 h) it hit
    simp only [List.length_cons]; omega
theorem fold_ne (xs : List Int) : ∀ its : List Item, its ≠ [] → xs.foldl stepI its ≠ [] := by
  induction xs with
  | nil => intro its h; exact h
  | cons x xs ih => intro its h; exact ih _ (stepI_ne its x h)
theorem items0_sg (n : Nat) : ∀ it ∈ items0 n, it.2.length ≤ 2 := by
  intro it h
  unfold items0 at h
  simp only [List.mem_cons, List.not_mem_nil, or_false] at h
  rcases h with rfl | rfl | rfl <;> simp
end Mine
end

section
open PySem PySem.W PyProof.Rows PySem.Spec PySem.Calls
namespace Mine
local macro_rules | `(tactic| walk_at "execs cons") => `(tactic| (k_here; (fail_if_success (fail_if_success k_gentoks)); refine gen_toks (by (try dsimp only); omega) ?_; intro tk htk))
local macro_rules | `(tactic| walk_at "execs nil") => `(tactic| (k_here; (fail_if_success (fail_if_success k_gentoks)); refine gen_toks (by (try dsimp only); omega) ?_; intro tk htk))

noncomputable def JItems (D : Addr) (ns : List Int) (i : Nat) (m : Str → Option Value) (nw : List (Addr × Obj)) : Prop :=
  ∃ (u : Str → Option Value) (ws : List Value) (n : Nat) (R : List (Addr × Obj)), m = (fun z => if z = Str.ofString "items" then some (.ref D) else u z) ∧ nw = (D, W.listOf ws.toArray n) :: R ∧
    ItsIn R ws (((ns.take 10).take i).foldl stepI (items0 ns.length)) ∧ (∀ p ∈ R, p.1 ≠ D) ∧ (∀ p ∈ R, p.2.cls = .type "tuple")
local macro_rules | `(tactic| k_all) => `(tactic| assumption)
local macro_rules | `(tactic| k_mem) => `(tactic| assumption)
local macro_rules | `(tactic| walk_at "subscriptTail") => `(tactic| (k_here; (with_reducible show wpAny _ _ (subscriptTail _ _ (Value.ref _) (Value.int (-1) _)) _ _ _); k_dflt (refine' last_get ?N ?m ?_ ?s; (case N => k_asm); (case m => k_mem); (case s => with_unfolding_all rfl); k_whole)))
local macro_rules | `(tactic| walk_at "subscriptTail Name UnaryOp ref int") => `(tactic| (k_here; (with_reducible show wpAny _ _ (subscriptTail _ _ (Value.ref _) (Value.int (-1) _)) _ _ _); k_dflt (refine' last_get ?N ?m ?_ ?s; (case N => k_asm); (case m => k_mem); (case s => with_unfolding_all rfl); k_whole)))
local macro_rules | `(tactic| walk_at "setItem ref int") => `(tactic| (k_here; (with_reducible show wpAny _ _ (setItem (Value.ref _) (Value.int (-1) _) (Value.ref _)) _ _ _); k_dflt (refine' last_set ?F ?N ?U ?_; (case F => k_asm); (case N => k_asm); (case U => k_upd); k_whole); intro h' F' N'; (try k_sweep)))
local macro_rules | `(tactic| walk_at "exec For") => `(tactic| (k_here; refine stop ?_))
theorem item2 (n : Nat) : Txt.item (Str.ofString "\"a") ((n : Int).fmod 2) = S [if n % 2 = 0 then 34 else 97] := by
  have e : (n : Int).fmod 2 = ((n % 2 : Nat) : Int) := by rw [Int.fmod_eq_emod_of_nonneg _ (by decide)]; omega
  rw [e]
  rcases Nat.mod_two_eq_zero_or_one n with h | h <;> rw [h] <;> decide +kernel
theorem item16 (x : Int) : Txt.item (Str.ofString "&<>\"'\n\r\t\\a;#^~![") ((x.fmod 64).fdiv 4) = S [signOf x] := by
  unfold signOf
  rw [Int.fmod_eq_emod_of_nonneg x (by decide), Int.fdiv_eq_ediv_of_nonneg _ (by decide)]
  have h1 : 0 ≤ x % 64 / 4 := by omega
  have h2 : x % 64 / 4 < 16 := by omega
  generalize x % 64 / 4 = k at h1 h2
  obtain ⟨j, rfl⟩ := Int.eq_ofNat_of_zero_le h1
  have hj : j < 16 := by omega
  have : ∀ j : Fin 16, Txt.item (Str.ofString "&<>\"'\n\r\t\\a;#^~![") ((j.1 : Nat) : Int) = S [menu.getD (((j.1 : Nat) : Int)).toNat 0] := by decide +kernel
  exact this ⟨j, hj⟩
theorem yFm (x : Int) : (x.fmod 64).fmod 4 = x % 64 % 4 := by
  rw [Int.fmod_eq_emod_of_nonneg x (by decide), Int.fmod_eq_emod_of_nonneg _ (by decide)]
theorem yFd (x : Int) : ((x.fmod 64).fdiv 4).fmod 2 = x % 64 / 4 % 2 := by
  rw [Int.fmod_eq_emod_of_nonneg x (by decide), Int.fdiv_eq_ediv_of_nonneg _ (by decide), Int.fmod_eq_emod_of_nonneg _ (by decide)]
theorem st0 {its : List Item} {x : Int} (h : (x.fmod 64).fmod 4 = 0) : stepI its x = its ++ [(.is, [signOf x])] := by
  rw [yFm] at h
  unfold stepI; dsimp only; rw [if_pos h]
theorem st1a {its : List Item} {x : Int} (h0 : (x.fmod 64).fmod 4 ≠ 0) (h : (x.fmod 64).fmod 4 = 1) (h2 : ((x.fmod 64).fdiv 4).fmod 2 = 0) : stepI its x = its ++ [(.star, [])] := by
  rw [yFm] at h h0; rw [yFd] at h2
  unfold stepI; dsimp only; rw [if_neg h0, if_pos h, if_pos h2]
theorem st1b {its : List Item} {x : Int} (h0 : (x.fmod 64).fmod 4 ≠ 0) (h : (x.fmod 64).fmod 4 = 1) (h2 : ((x.fmod 64).fdiv 4).fmod 2 ≠ 0) : stepI its x = its ++ [(.any, [])] := by
  rw [yFm] at h h0; rw [yFd] at h2
  unfold stepI; dsimp only; rw [if_neg h0, if_pos h, if_neg h2]
theorem st3 {its : List Item} {x : Int} (h0 : (x.fmod 64).fmod 4 ≠ 0) (h1 : (x.fmod 64).fmod 4 ≠ 1) (h : (x.fmod 64).fmod 4 = 3) : stepI its x = its ++ [(.out, [signOf x])] := by
  rw [yFm] at h h0 h1
  unfold stepI; dsimp only; rw [if_neg h0, if_neg h1, if_pos h]
theorem st2 {js : List Item} {it : Item} {x : Int} (h0 : (x.fmod 64).fmod 4 ≠ 0) (h1 : (x.fmod 64).fmod 4 ≠ 1) (h : (x.fmod 64).fmod 4 ≠ 3) (hk : it.1 = .ins ∨ it.1 = .out) : stepI (js ++ [it]) x = js ++ [(it.1, it.2 ++ [signOf x])] := by
  rw [yFm] at h h0 h1
  unfold stepI; dsimp only; rw [if_neg h0, if_neg h1, if_neg h]
  obtain ⟨k, l⟩ := it
  rcases hk with hk | hk <;> (dsimp only at hk; subst hk; simp)
theorem st2n {js : List Item} {it : Item} {x : Int} (h0 : (x.fmod 64).fmod 4 ≠ 0) (h1 : (x.fmod 64).fmod 4 ≠ 1) (h : (x.fmod 64).fmod 4 ≠ 3) (hk : it.1 ≠ .ins) (hk' : it.1 ≠ .out) : stepI (js ++ [it]) x = (js ++ [it]) ++ [(.ins, if signOf x = 33 then [97, 33] else [signOf x])] := by
  rw [yFm] at h h0 h1
  unfold stepI; dsimp only; rw [if_neg h0, if_neg h1, if_neg h]
  obtain ⟨k, l⟩ := it
  cases k <;> simp_all
theorem kd_ins {k : Kd} (h : (k.s == Str.ofString "in") = true) : k = .ins := by cases k <;> first | rfl | (revert h; decide +kernel)
theorem kd_out {k : Kd} (h : (k.s == Str.ofString "out") = true) : k = .out := by cases k <;> first | rfl | (revert h; decide +kernel)
theorem kd_nins {k : Kd} (h : (k.s == Str.ofString "in") = false) : k ≠ .ins := by rintro rfl; revert h; decide +kernel
theorem kd_nout {k : Kd} (h : (k.s == Str.ofString "out") = false) : k ≠ .out := by rintro rfl; revert h; decide +kernel
theorem sApp (a b : List Nat) : S a ++ S b = S (a ++ b) := by show (⟨a.toArray ++ b.toArray⟩ : Str) = _; simp
theorem sOne {c d : Nat} (h : (S [c] == S [d]) = true) : c = d := by simpa using h
theorem sOne' {c d : Nat} (h : (S [c] == S [d]) = false) : c ≠ d := by simpa using h

theorem end_gen {s : Shared} {h₀ h' : Heap} {L D a : Addr} {own R R' : List (Addr × Obj)} {ns : List Int} {i : Nat} {m' : Str → Option Value} {arr : Array Value} {wsN : List Value} {n' : Nat} {o : Obj} {it : Item} {t t' : Tok} {tk : Nat} {itsN its : List Item} {x : Int}
    (F : Fr h₀ L h' m') (N : News h₀ L h' ((a, o) :: (D, W.listOf arr n') :: R')) (hm : m' (Str.ofString "items") = some (.ref D)) (ht : 1 ≤ tk) (ho : o = tupObj it t t') (harr : arr = wsN.toArray)
    (hits : ItsIn ((a, tupObj it t t') :: R) wsN itsN) (hR' : R' = R ++ own) (hRo : ∀ p ∈ R, p.1 ≠ D) (hRc : ∀ p ∈ R, p.2.cls = .type "tuple") (haD : D < a)
    (hst : stepI its x = itsN) (hx : (ns.take 10)[i]? = some x) (hits' : ((ns.take 10).take i).foldl stepI (items0 ns.length) = its) : TurnEndL s h₀ L own (JItems D ns (i + 1)) .next { s with heap := h', toks := tk } := by
  subst ho harr hR'
  refine TurnEndL.intro (nw₂ := (D, W.listOf wsN.toArray n') :: (a, tupObj it t t') :: R) ht F (fun p hp => N p ?_) ⟨m', wsN, n', (a, tupObj it t t') :: R, ?_, rfl, ?_, ?_, ?_⟩
  · simp only [List.cons_append, List.mem_cons, List.mem_append] at hp ⊢
    rcases hp with h | h | h | h
    · exact .inr (.inl h)
    · exact .inl h
    · exact .inr (.inr (.inl h))
    · exact .inr (.inr (.inr h))
  · funext z
    by_cases h : z = Str.ofString "items"
    · rw [if_pos h, h]; exact hm
    · rw [if_neg h]
  · rw [List.take_add_one, hx, List.foldl_append, hits']
    show ItsIn _ _ (stepI its x)
    rw [hst]; exact hits
  · intro p hp
    rcases List.mem_cons.mp hp with rfl | hp
    · exact Nat.ne_of_gt haD
    · exact hRo p hp
  · intro p hp
    rcases List.mem_cons.mp hp with rfl | hp
    · rfl
    · exact hRc p hp

theorem items_c1 {w : World} {E : Value → Shared → Prop} {s : Shared} {Q : Value → Shared → Prop}
    {p : Program} {loose : List Str} {mean : ExcName → Option Value} {mg mb : Str → Option Value}
    (X : (Mine.heapK w.params).In s.heap) (T : Top p loose mean mg mb s.heap) {l : Addr} {vs : List Value} {ns : List Int} (hl : s.heap.IsList l vs.toArray) (hI : IntsAre vs ns) (hlen : ns.length ≤ 63)
    (ret : ∀ D ws R n h' tk', ItsIn R ws (itemsOf ns) → (∀ q ∈ R, h'.get? q.1 = some q.2 ∧ s.heap.get? q.1 = none) → h'.get? D = some (W.listOf ws.toArray n) → s.heap.get? D = none → Keeps s.heap h' → 1 ≤ tk' → Q (.ref D) { s with heap := h', toks := tk' }) :
    wpAny (model PySem.Challenge.rw_ij0039_01.row.prog w) (AtD 700 7000) (call (.ref 110) [.ref l]) Q E s := by
  revert X; k_fill; intro X
  refine' call_c (binds := [(Str.ofString "script", .ref l)]) [] ?hg ?hm ?hX ?hT ?ho ?hcd ?hroom ?hbind ?hB ?hSc ?hloc ?_ ?c1 ?c2 ?c3 ?c4
  (case hg => exact rfl)
  (case hm => intro q hq; cases hq)
  (case hX => exact X)
  (case hT => exact T)
  (case ho => k_is)
  (case hcd => k_is)
  (case hroom => decide)
  (case hbind => first | exact BindsTo.of_eq rfl | exact binds_K X rfl (by k_is) rfl rfl rfl)
  (case hB => conv => lhs; whnf)
  (case hSc => conv => lhs; whnf)
  (case hloc => exact locs rfl)
  (case c1 => exact rfl)
  (case c2 => exact rfl)
  (case c3 => exact rfl)
  (case c4 => decide)
  intro L' h₁ tk htk₀ F N X' T'
  have hvl : vs.length = ns.length := hI.length
  have hl' : (hideAll s.heap (List.map (fun x : Addr × Obj => x.fst) [])).IsList l vs.toArray := hl
  have h2 : Txt.item (Str.ofString "\"a") ((ns.length : Int).fmod 2) = S [if ns.length % 2 = 0 then 34 else 97] := item2 ns.length
  k_steps
  unfold Stop
  refine wpAny_For ?_ (by intro _; rfl)
  k_steps
  rename_i T₁ _ _ T₂ _ _ T₃ _ _ D _ l3 _ tk₁ htk₁ D' ws' h' F' N' hI' _ _ l4
  rw [h2, show Str.ofString "<&" = S [60, 38] by decide +kernel, show Str.ofString "" = S [] by decide +kernel] at N'
  obtain ⟨a1, a2, a3, a4, a5, a6, N'⟩ : ∃ a1 a2 a3 a4 a5 a6, News (hideAll s.heap (List.map (fun x : Addr × Obj => x.fst) [])) L' h' ((D', W.listOf ws'.toArray 0) :: (D, W.listOf [Value.ref T₁, Value.ref T₂, Value.ref T₃].toArray 0) :: (T₃, tupObj (.ins, [60, 38]) a1 a2) ::
    (T₂, tupObj (.star, []) a3 a4) :: [(T₁, tupObj (.is, [if ns.length % 2 = 0 then 34 else 97]) a5 a6)]) := ⟨_, _, _, _, _, _, N'⟩
  refine forList_iter (vs := ws') (B := fun _ v m y => if y = Str.ofString "x" then some v else m y)
    (news := (D, W.listOf [Value.ref T₁, Value.ref T₂, Value.ref T₃].toArray 0) :: [(T₃, tupObj (.ins, [60, 38]) a1 a2), (T₂, tupObj (.star, []) a3 a4), (T₁, tupObj (.is, [if ns.length % 2 = 0 then 34 else 97]) a5 a6)])
    (ex := [(D', W.listOf ws'.toArray 0)]) [D] rfl (fun h m _ N => ?hlk) F' ?hN ?hexU ?hU (by first | assumption | omega | (dsimp only; omega))
    (JItems D ns)
    ?h0 ?hJc (fun i v _ => asg_name rfl rfl) ?step ?hQ (fun I i v s' Q' E' _ _ hq => wpAny_pure hq)
  (case hlk => exact News.isList N (.head _))
  (case hN => exact fun q hq => N' q (by simp only [List.mem_append, List.mem_cons, List.not_mem_nil, or_false] at hq ⊢; grind))
  (case hexU => intro q hq; rw [List.mem_singleton] at hq; subst hq; simp only [List.mem_singleton]; exact Nat.ne_of_gt l4.1)
  (case hU => intro u hu; rw [List.mem_singleton] at hu; subst hu; exact Heap.lt_size (N' _ (.tail _ (.head _))).1)
  (case h0 =>
    refine ⟨fun z => List.lookup z [(Str.ofString "script", Value.ref l)].reverse, _, _, _, rfl, rfl, ?_, ?_, ?_⟩
    · exact .cons (.mk (.tail _ (.tail _ (.head _)))) (.cons (.mk (.tail _ (.head _))) (.cons (.mk (.head _)) .nil))
    · intro q hq
      simp only [List.mem_cons, List.not_mem_nil, or_false] at hq
      rcases hq with rfl | rfl | rfl
      · exact Nat.ne_of_lt l3.1
      · exact Nat.ne_of_lt l3.2.1
      · exact Nat.ne_of_lt l3.2.2
    · intro q hq
      simp only [List.mem_cons, List.not_mem_nil, or_false] at hq
      rcases hq with rfl | rfl | rfl <;> rfl)
  (case hJc =>
    rintro i m nw ⟨u, ws, n, R, _, rfl, _, _, hR⟩ q hq
    rcases List.mem_cons.mp hq with rfl | hq
    · exact (by decide : Value.type "list" ≠ Value.type "list_iterator")
    · rw [hR q hq]; decide)
  (case hQ =>
    rintro h'' tk'' m' nw htk'' F'' N'' ⟨u, ws, n, R, rfl, rfl, hits, hR, hRc⟩
    clear F' N'
    k_steps
    have hlen' : ((ns.take 10).take ws'.length) = ns.take 10 := List.take_of_length_le (by rw [hI'.length]; exact Nat.le_refl _)
    rw [hlen'] at hits
    exact ret D ws R n _ _ hits (fun q hq => ⟨(N'' q (List.mem_append_left _ (.tail _ hq))).1, (N'' q (List.mem_append_left _ (.tail _ hq))).2.2⟩) (N'' _ (.head _)).1 (N'' _ (.head _)).2.2 (fun b o e => Fr.keep F'' b o e) (by first | assumption | omega))
  (case step =>
    rintro i v m₁ h₂ tk₂ nw own hv ⟨u, ws, n, R, rfl, rfl, hits, hR, hRc⟩ htk₂ hown F₂ N₂
    obtain ⟨x, hx⟩ : ∃ x, (ns.take 10)[i]? = some x := by
      have : i < (ns.take 10).length := by rw [← hI'.length]; exact (List.getElem?_eq_some_iff.mp hv).1
      exact ⟨_, List.getElem?_eq_getElem this⟩
    obtain ⟨tx, hx'⟩ := hI'.get i x hx
    rw [hv] at hx'
    cases hx'
    obtain ⟨R', hR'⟩ : ∃ R', R' = R ++ own := ⟨_, rfl⟩
    replace N₂ : News (hideAll s.heap (List.map (fun x : Addr × Obj => x.fst) [])) L' h₂ ((D, W.listOf ws.toArray n) :: R') := by rw [hR']; exact N₂
    have hoff : ∀ q ∈ R', q.1 ≠ D := by
      intro q hq
      rw [hR'] at hq
      rcases List.mem_append.mp hq with hq | hq
      · exact hR q hq
      · exact fun e => hown q hq (by rw [e]; exact .head _)
    clear F' N'
    generalize hits' : ((ns.take 10).take i).foldl stepI (items0 ns.length) = its at hits
    have hne : its ≠ [] := by rw [← hits']; exact fold_ne _ _ (by simp [items0])
    have hwl : ws.length ≤ 20 := by
      have h1 := fold_len ((ns.take 10).take i) (items0 ns.length)
      have h3 : (items0 ns.length).length = 3 := rfl
      rw [hits.length, ← hits']
      simp only [List.length_take] at h1
      omega
    have hsg : ∀ it ∈ its, it.2.length ≤ 20 := by
      intro it hi
      rw [← hits'] at hi
      have := fold_sg _ _ 2 (Nat.le_refl _) (items0_sg _) it hi
      simp only [List.length_take] at this
      omega
    obtain ⟨ws₀, v₀, js, it₀, rfl, rfl, hits₀, hit₀⟩ := hits.last hne
    cases hit₀ with
    | @mk a₀ _ t₀ t₀' hm₀ =>
    have hm : (a₀, tupObj it₀ t₀ t₀') ∈ R' := by rw [hR']; exact List.mem_append_left _ hm₀
    have hsg₀ : (S it₀.2).length ≤ 20 := by show it₀.2.toArray.size ≤ 20; rw [List.size_toArray]; exact hsg it₀ (by simp)
    have hit1 : (Txt.item (Str.ofString "&<>\"'\n\r\t\\a;#^~![") ((x.fmod 64).fdiv 4)).length = 1 := rfl
    have hE : Str.ofString "" = S [] := by decide +kernel
    have hA : Str.ofString "a!" = S [97, 33] := by decide +kernel
    have hB : Str.ofString "!" = S [33] := by decide +kernel
    have hits₁ : ∀ p, ItsIn (p :: R) (ws₀ ++ [Value.ref a₀]) (js ++ [it₀]) := fun p => hits.mono fun q hq => .tail _ hq
    have hits₂ : ∀ p, ItsIn (p :: R) ws₀ js := fun p => hits₀.mono fun q hq => .tail _ hq
    k_steps
    · exact end_gen (by assumption) (by assumption) rfl (by assumption) (by rw [item16]; exact rfl) (List.push_toArray ..) ((hits₁ _).append (.cons (.mk (.head _)) .nil)) hR' hR hRc (And.left (by assumption)) (st0 (by assumption)) hx hits'
    · exact end_gen (by assumption) (by assumption) rfl (by assumption) (by rw [hE]; exact rfl) (List.push_toArray ..) ((hits₁ _).append (.cons (.mk (.head _)) .nil)) hR' hR hRc (And.left (by assumption)) (st1a (by assumption) (by assumption) (by assumption)) hx hits'
    · exact end_gen (by assumption) (by assumption) rfl (by assumption) (by rw [hE]; exact rfl) (List.push_toArray ..) ((hits₁ _).append (.cons (.mk (.head _)) .nil)) hR' hR hRc (And.left (by assumption)) (st1b (by assumption) (by assumption) (by assumption)) hx hits'
    · exact end_gen (by assumption) (by assumption) rfl (by assumption) (by rw [item16]; exact rfl) (List.push_toArray ..) ((hits₁ _).append (.cons (.mk (.head _)) .nil)) hR' hR hRc (And.left (by assumption)) (st3 (by assumption) (by assumption) (by assumption)) hx hits'
    · exact end_gen (it := (it₀.1, it₀.2 ++ [signOf x])) (by assumption) (by assumption) rfl (by assumption) (by rw [item16, sApp]) rfl ((hits₂ _).append (.cons (.mk (.head _)) .nil)) hR' hR hRc (And.left (by assumption)) (st2 (by assumption) (by assumption) (by assumption) (.inl (kd_ins (by assumption)))) hx hits'
    · exact end_gen (it := (it₀.1, it₀.2 ++ [signOf x])) (by assumption) (by assumption) rfl (by assumption) (by rw [item16, sApp]) rfl ((hits₂ _).append (.cons (.mk (.head _)) .nil)) hR' hR hRc (And.left (by assumption)) (st2 (by assumption) (by assumption) (by assumption) (.inr (kd_out (by assumption)))) hx hits'
    · (with_reducible rename (Txt.item _ _ == Str.ofString "!") = true => hq)
      rw [item16, hB] at hq
      exact end_gen (it := (.ins, [97, 33])) (by assumption) (by assumption) rfl (by assumption) (by rw [hA]; exact rfl) (List.push_toArray ..) ((hits₁ _).append (.cons (.mk (.head _)) .nil)) hR' hR hRc (And.left (by assumption)) ((st2n (by assumption) (by assumption) (by assumption) (kd_nins (by assumption)) (kd_nout (by assumption))).trans (by rw [if_pos (sOne hq)])) hx hits'
    · (with_reducible rename (Txt.item _ _ == Str.ofString "!") = false => hq)
      rw [item16, hB] at hq
      exact end_gen (it := (.ins, [signOf x])) (by assumption) (by assumption) rfl (by assumption) (by rw [item16]; exact rfl) (List.push_toArray ..) ((hits₁ _).append (.cons (.mk (.head _)) .nil)) hR' hR hRc (And.left (by assumption)) ((st2n (by assumption) (by assumption) (by assumption) (kd_nins (by assumption)) (kd_nout (by assumption))).trans (by rw [if_neg (sOne' hq)])) hx hits')
end Mine
end

section
open PySem PySem.W PyProof.Rows PySem.Spec PySem.Calls
namespace Mine
local macro_rules | `(tactic| walk_at "execs cons") => `(tactic| (k_here; (fail_if_success (fail_if_success k_gentoks)); refine gen_toks (by (try dsimp only); omega) ?_; intro tk htk))
local macro_rules | `(tactic| walk_at "execs nil") => `(tactic| (k_here; (fail_if_success (fail_if_success k_gentoks)); refine gen_toks (by (try dsimp only); omega) ?_; intro tk htk))
local macro_rules | `(tactic| walk_at "exec For") => `(tactic| (k_here; refine stop ?_))

/-- what an item writes into the pattern -/
noncomputable def itPat (it : Item) : List Nat := match it.1 with
  | .star => [42]
  | .any => [63]
  | .is => if it.2 = [91] then [91, 91, 93] else it.2
  | .ins => 91 :: it.2 ++ [93]
  | .out => 91 :: 33 :: it.2 ++ [93]
noncomputable def patOf (its : List Item) : List Nat := its.flatMap itPat
/-- the items stand in a heap -/
noncomputable def ItAt (h : Heap) (v : Value) (it : Item) : Prop := ∃ a t t', v = .ref a ∧ h.get? a = some (tupObj it t t')
inductive ItsAt (h : Heap) : List Value → List Item → Prop
  | nil : ItsAt h [] []
  | cons {v : Value} {it : Item} {vs : List Value} {its : List Item} (a : ItAt h v it) (r : ItsAt h vs its) : ItsAt h (v :: vs) (it :: its)
theorem ItsAt.of {R : List (Addr × Obj)} {h : Heap} {vs : List Value} {its : List Item} (x : ItsIn R vs its) (hR : ∀ q ∈ R, h.get? q.1 = some q.2) : ItsAt h vs its := by
  induction x with
  | nil => exact .nil
  | cons hi _ ih => cases hi with | mk hm => exact .cons ⟨_, _, _, rfl, hR _ hm⟩ ih
theorem ItsAt.keeps {h h' : Heap} {vs : List Value} {its : List Item} (x : ItsAt h vs its) (k : Keeps h h') : ItsAt h' vs its := by
  induction x with
  | nil => exact .nil
  | cons a _ ih => obtain ⟨a, t, t', e, g⟩ := a; exact .cons ⟨a, t, t', e, k _ _ g⟩ ih
theorem ItsAt.length {h : Heap} {vs : List Value} {its : List Item} (x : ItsAt h vs its) : vs.length = its.length := by
  induction x with
  | nil => rfl
  | cons _ _ ih => simp [ih]
theorem ItsAt.get {h : Heap} {vs : List Value} {its : List Item} (x : ItsAt h vs its) : ∀ (i : Nat) (v : Value), vs[i]? = some v → ∃ it, its[i]? = some it ∧ ItAt h v it := by
  induction x with
  | nil => intro i v e; simp at e
  | cons a _ ih =>
    intro i v e
    cases i with
    | zero => simp at e; subst e; exact ⟨_, rfl, a⟩
    | succ i => simp only [List.getElem?_cons_succ] at e ⊢; exact ih i v e

theorem tok_fn {h : Heap} {vs : List Value} {its : List Item} (x : ItsAt h vs its) : ∃ tf : Nat → Tok × Tok, ∀ i v, vs[i]? = some v → ∃ a, v = .ref a ∧ h.get? a = some (tupObj (its.getD i (.star, [])) (tf i).1 (tf i).2) := by
  have : ∀ i, ∃ p : Tok × Tok, ∀ v, vs[i]? = some v → ∃ a, v = .ref a ∧ h.get? a = some (tupObj (its.getD i (.star, [])) p.1 p.2) := by
    intro i
    cases hv : vs[i]? with
    | none => exact ⟨(0, 0), fun v e => nomatch e⟩
    | some v =>
      obtain ⟨it, hi, a, t, t', e, g⟩ := x.get i v hv
      refine ⟨(t, t'), fun v' e' => ?_⟩
      cases e'
      exact ⟨a, e, by rw [List.getD_eq_getElem?_getD, hi]; exact g⟩
  exact ⟨fun i => Classical.choose (this i), fun i => Classical.choose_spec (this i)⟩
theorem patOf_len (its : List Item) (h : ∀ it ∈ its, it.2.length ≤ 20) : (patOf its).length ≤ 23 * its.length := by
  induction its with
  | nil => simp [patOf]
  | cons it r ih =>
    have h1 := ih fun x hx => h x (.tail _ hx)
    have h2 : (itPat it).length ≤ 23 := by
      have := h it (.head _)
      unfold itPat
      obtain ⟨k, l⟩ := it
      cases k <;> simp only at this ⊢ <;> (try split) <;> simp <;> omega
    show (itPat it ++ patOf r).length ≤ _
    rw [List.length_append, List.length_cons]; omega
theorem kdS_len (k : Kd) : k.s.length ≤ 3 := by cases k <;> decide +kernel
noncomputable def itOf (its : List Item) (i : Nat) : Item := its.getD i (.star, [])
noncomputable def JPat (l : Addr) (its : List Item) (i : Nat) (m : Str → Option Value) (nw : List (Addr × Obj)) : Prop :=
  ∃ (u : Str → Option Value) (t : Tok), m = (fun z => if z = Str.ofString "pattern" then some (.str (S (patOf (its.take i))) t) else u z) ∧ nw = []

theorem kd_star {k : Kd} (h : (k.s == Str.ofString "*") = true) : k = .star := by cases k <;> first | rfl | (revert h; decide +kernel)
theorem kd_any {k : Kd} (h : (k.s == Str.ofString "?") = true) : k = .any := by cases k <;> first | rfl | (revert h; decide +kernel)
theorem kd_is {k : Kd} (h : (k.s == Str.ofString "is") = true) : k = .is := by cases k <;> first | rfl | (revert h; decide +kernel)
theorem kd_nstar {k : Kd} (h : (k.s == Str.ofString "*") = false) : k ≠ .star := by rintro rfl; revert h; decide +kernel
theorem kd_nany {k : Kd} (h : (k.s == Str.ofString "?") = false) : k ≠ .any := by rintro rfl; revert h; decide +kernel
theorem kd_nis {k : Kd} (h : (k.s == Str.ofString "is") = false) : k ≠ .is := by rintro rfl; revert h; decide +kernel
theorem kd_rest {k : Kd} (h1 : (k.s == Str.ofString "*") = false) (h2 : (k.s == Str.ofString "?") = false) (h3 : (k.s == Str.ofString "is") = false) (h4 : (k.s == Str.ofString "out") = false) : k = .ins := by
  have a := kd_nstar h1; have b := kd_nany h2; have c := kd_nis h3; have d := kd_nout h4
  cases k <;> simp_all
theorem ofS_br : Str.ofString "[" = S [91] := by decide +kernel
theorem ofS_bb : Str.ofString "[[]" = S [91, 91, 93] := by decide +kernel
theorem ofS_ex : Str.ofString "!" = S [33] := by decide +kernel
theorem ofS_cl : Str.ofString "]" = S [93] := by decide +kernel
theorem ofS_nil : Str.ofString "" = S [] := by decide +kernel
theorem ofS_star : Str.ofString "*" = S [42] := by decide +kernel
theorem ofS_q : Str.ofString "?" = S [63] := by decide +kernel
theorem end_pat {s : Shared} {h₀ h' : Heap} {L l : Addr} {own : List (Addr × Obj)} {its : List Item} {i : Nat} {m' : Str → Option Value} {P : Str} {t' : Tok} {tk : Nat}
    (F : Fr h₀ L h' m') (N : News h₀ L h' ([] ++ own)) (hm : m' (Str.ofString "pattern") = some (.str P t')) (ht : 1 ≤ tk) (hP : P = S (patOf (its.take (i + 1)))) : TurnEndL s h₀ L own (JPat l its (i + 1)) .next { s with heap := h', toks := tk } := by
  refine TurnEndL.intro (nw₂ := []) ht F N ⟨m', t', ?_, rfl⟩
  funext z
  by_cases h : z = Str.ofString "pattern"
  · rw [if_pos h, h, hm, hP]
  · rw [if_neg h]

theorem pat_c {w : World} {E : Value → Shared → Prop} {s : Shared} {Q : Value → Shared → Prop}
    {p : Program} {loose : List Str} {mean : ExcName → Option Value} {mg mb : Str → Option Value}
    (X : (Mine.heapK w.params).In s.heap) (T : Top p loose mean mg mb s.heap) (htk : 1 ≤ s.toks) {l : Addr} {vs : List Value} {its : List Item} (hl : s.heap.IsList l vs.toArray) (hits : ItsAt s.heap vs its)
    (hlen : its.length ≤ 20) (hsg : ∀ it ∈ its, it.2.length ≤ 20)
    (ret : ∀ t' h' tk', Keeps s.heap h' → 1 ≤ tk' → Q (.str (S (patOf its)) t') { s with heap := h', toks := tk' }) :
    wpAny (model PySem.Challenge.rw_ij0039_01.row.prog w) (AtD 700 7000) (call (.ref 117) [.ref l]) Q E s := by
  revert X; k_fill; intro X
  refine' call_c (binds := [(Str.ofString "items", .ref l)]) [] ?hg ?hm ?hX ?hT ?ho ?hcd ?hroom ?hbind ?hB ?hSc ?hloc ?_ ?c1 ?c2 ?c3 ?c4
  (case hg => exact rfl)
  (case hm => intro q hq; cases hq)
  (case hX => exact X)
  (case hT => exact T)
  (case ho => k_is)
  (case hcd => k_is)
  (case hroom => decide)
  (case hbind => first | exact BindsTo.of_eq rfl | exact binds_K X rfl (by k_is) rfl rfl rfl)
  (case hB => conv => lhs; whnf)
  (case hSc => conv => lhs; whnf)
  (case hloc => exact locs rfl)
  (case c1 => exact rfl)
  (case c2 => exact rfl)
  (case c3 => exact rfl)
  (case c4 => decide)
  intro L' h₁ tk htk₀ F N X' T'
  replace htk : 1 ≤ tk := Nat.le_trans htk htk₀
  have hl' : (hideAll s.heap (List.map (fun x : Addr × Obj => x.fst) [])).IsList l vs.toArray := hl
  have hits' : ItsAt (hideAll s.heap (List.map (fun x : Addr × Obj => x.fst) [])) vs its := hits
  k_steps
  unfold Stop
  (with_reducible rename Fr _ _ _ _ => F')
  (with_reducible rename News _ _ _ _ => N')
  refine wpAny_For (ld F' rfl ?_) (by intro _; rfl)
  obtain ⟨tf, htf⟩ := tok_fn hits'
  refine forList_iter (vs := vs) (B := fun i v m z => if z = Str.ofString "signs" then some (.str (S (itOf its i).2) (tf i).2) else if z = Str.ofString "kind" then some (.str (itOf its i).1.s (tf i).1) else m z) (news := []) (ex := []) []
    rfl (fun h m F _ => F.lst hl') F' N' (fun _ h => nomatch h) (fun _ h => nomatch h) (by first | assumption | omega | (dsimp only; omega)) (JPat l its) ?h0 ?hJc ?asg ?step ?hQ ?hlet
  (case h0 => exact ⟨fun z => List.lookup z [(Str.ofString "items", Value.ref l)].reverse, _, by rw [show S (patOf (its.take 0)) = Str.ofString "" from by rw [List.take_zero]; decide +kernel], rfl⟩)
  (case hJc => rintro i m nw ⟨u, t, rfl, rfl⟩ q hq; cases hq)
  (case asg =>
    intro i v hv
    obtain ⟨a, rfl, ha⟩ := htf i v hv
    exact asg_pair rfl rfl rfl rfl fun h m F _ => ⟨_, F.keep _ _ ha, rfl, _, rfl⟩)
  (case hlet =>
    intro I i v s' Q' E' hv hit hq
    obtain ⟨a, rfl, ha⟩ := htf i v hv
    exact wpAny_letOwnedTupleGo_listiter hit hq)
  (case hQ =>
    rintro h'' tk'' m' nw htk'' F'' N'' ⟨u, t, rfl, rfl⟩
    have e : its.take vs.length = its := List.take_of_length_le (by rw [hits'.length]; exact Nat.le_refl _)
    rw [e] at F''
    clear F' N'
    k_steps
    exact ret _ _ _ (fun b o e => Fr.keep F'' b o e) (by first | assumption | omega))
  (case step =>
    rintro i v m₁ h₂ tk₂ nw own hv ⟨u, t, rfl, rfl⟩ htk₂ hown F₂ N₂
    have hi : i < its.length := by rw [← hits'.length]; exact (List.getElem?_eq_some_iff.mp hv).1
    have hmem : itOf its i ∈ its := by unfold itOf; rw [List.getD_eq_getElem?_getD, List.getElem?_eq_getElem hi]; exact List.getElem_mem hi
    have htake : its.take (i + 1) = its.take i ++ [itOf its i] := by
      rw [List.take_add_one, List.getElem?_eq_getElem hi]; unfold itOf; rw [List.getD_eq_getElem?_getD, List.getElem?_eq_getElem hi]; rfl
    have hpl : (S (patOf (its.take i))).length ≤ 1000 := by
      show (patOf (its.take i)).toArray.size ≤ 1000
      rw [List.size_toArray]
      have := patOf_len (its.take i) fun x hx => hsg x (List.take_subset _ _ hx)
      simp only [List.length_take] at this
      omega
    generalize itOf its i = it at hmem htake F₂
    have hks := kdS_len it.1
    have hsl : (S it.2).length ≤ 20 := by show it.2.toArray.size ≤ 20; rw [List.size_toArray]; exact hsg it hmem
    clear F' N'
    have hpat : S (patOf (its.take (i + 1))) = S (patOf (its.take i)) ++ S (itPat it) := by
      rw [htake, sApp]; unfold patOf; rw [List.flatMap_append]; simp
    k_steps
    · exact end_pat (by assumption) (by assumption) rfl (by first | assumption | omega) (by
        obtain ⟨k, sg⟩ := it
        have := kd_star (k := k) (by assumption); subst this
        rw [hpat]; exact congrArg _ ofS_star)
    · exact end_pat (by assumption) (by assumption) rfl (by first | assumption | omega) (by
        obtain ⟨k, sg⟩ := it
        have := kd_any (k := k) (by assumption); subst this
        rw [hpat]; exact congrArg _ ofS_q)
    · (with_reducible rename (S _ == Str.ofString "[") = true => hq)
      exact end_pat (by assumption) (by assumption) rfl (by first | assumption | omega) (by
        obtain ⟨k, sg⟩ := it
        have := kd_is (k := k) (by assumption); subst this
        have hsg' : sg = [91] := by rw [ofS_br] at hq; simpa using hq
        rw [hpat, ofS_bb, hsg']; rfl)
    · (with_reducible rename (S _ == Str.ofString "[") = false => hq)
      exact end_pat (by assumption) (by assumption) rfl (by first | assumption | omega) (by
        obtain ⟨k, sg⟩ := it
        have := kd_is (k := k) (by assumption); subst this
        have hsg' : sg ≠ [91] := by rw [ofS_br] at hq; simpa using hq
        rw [hpat]; show _ = _ ++ S (if sg = [91] then [91, 91, 93] else sg); rw [if_neg hsg'])
    · exact end_pat (by assumption) (by assumption) rfl (by first | assumption | omega) (by
        obtain ⟨k, sg⟩ := it
        have := kd_out (k := k) (by assumption); subst this
        rw [hpat, ofS_br, ofS_ex, ofS_cl, sApp, sApp, sApp, sApp, sApp]
        show _ = S (_ ++ (91 :: 33 :: sg ++ [93]))
        simp)
    · exact end_pat (by assumption) (by assumption) rfl (by first | assumption | omega) (by
        obtain ⟨k, sg⟩ := it
        have := kd_rest (k := k) (by assumption) (by assumption) (by assumption) (by assumption); subst this
        rw [hpat, ofS_br, ofS_nil, ofS_cl, sApp, sApp, sApp, sApp, sApp]
        show _ = S (_ ++ (91 :: sg ++ [93]))
        simp))
end Mine
end

section
open PySem PySem.W PyProof.Rows PySem.Spec PySem.Calls
namespace Mine
local macro_rules | `(tactic| walk_at "never") => `(tactic| skip)
local macro_rules | `(tactic| walk_at "call builtin:str.join") => `(tactic| (k_here; refine stop ?_))
local macro_rules | `(tactic| walk_at "eval ListComp") => `(tactic| (k_here; refine stop ?_))

theorem lcf_loc {M : Model} {A : Around} {E : Value → Shared → Prop} {s : Shared} {g : Heap} {C : Addr} {m : Str → Option Value} {scope : Scope} {cl : List (Str × Addr)} {env : Env} {x : Str} {pos : Pos} {v : Value} {Q : Value → Shared → Prop}
    (F : Fr g C s.heap m) (hv : m x = some v) (h : Q v s) (hk : (compEnvC scope cl C env).scope.kind = .function) (hx : (compEnvC scope cl C env).kindOf x = some .local) (hb : (x == ("__debug__" : Str)) = false := by decide) :
    wpAny M A (eval (.Name x pos) (compEnvC scope cl C env)) Q E s := wpAny_Name (wpAny_loadName_local hk hx F.ns hv h) hb
local macro_rules | `(tactic| walk_at "eval Name") => `(tactic| (k_here; (with_reducible show wpAny _ _ (eval (Expr.Name _ _) (compEnvC _ _ _ _)) _ _ _); refine' lcf_loc ?F ?v ?_ ?a ?b; (case a => rfl); (case b => rfl); (case F => k_asm); (case v => assumption)))

theorem call_cells {prog : Program} {w : World} {A : Around} {E : Value → Shared → Prop} {s : Shared} {Q : Value → Shared → Prop} {K : Frag}
    {p : Program} {loose : List Str} {mean : ExcName → Option Value} {mg mb : Str → Option Value} {g : Heap}
    {name qual : Str} {params : Arguments} {body₀ body : List Stmt} {scope₀ scope : Scope} {dV kV doc pm cdv ct oc : Value} {an od : Option Addr} {osl : Array (Option Value)} {f : Addr} {args : List Value} {binds : List (Str × Value)}
    (hg : g = s.heap) (X : K.In g) (T : Top p loose mean mg mb g)
    (ho : K.lookup f = some ⟨oc, od, .func (fnOf name qual params body₀ scope₀ dV kV doc pm an cdv ct), osl⟩) (hcd : codeIn K cdv qual = true) (hroom : A.depth < recursionLimit)
    (hbind : BindsTo s (fnOf name qual params body₀ scope₀ dV kV doc pm an cdv ct) ⟨args, []⟩ binds) (hB : body₀ = body) (hSc : scope₀ = scope)
    (hkind : (binds.all fun y => scope.names.lookup y.1 == some .local || scope.names.lookup y.1 == some .cell) = true)
    (hnd : ((cellsFrom 0 scope.names []).map (·.1)).Nodup)
    (h : ∀ L' h₁ tk cells, Fr g L' h₁ (bindL (envOfC qual scope L' f cdv).kindOf binds fun _ => none) → News g L' h₁ cells →
      CellsAre (bindC (envOfC qual scope L' f cdv).kindOf binds fun _ => none) (cellsFrom (L' + 1) scope.names []) cells → K.In g → Top p loose mean mg mb g →
      wpAny (model prog w) (A.deeper (envOfC qual scope L' f cdv)) (execs body (envOfC qual scope L' f cdv))
        (fun fl s' => Q (match fl with | .ret v => v | _ => .none) s') (fun _ _ => False) { s with heap := h₁, toks := tk })
    (hco : scope.isCoroutine = false := by rfl) (hgen : scope.isGenerator = false := by rfl) (hk : scope.kind = .function := by rfl) : wpAny (model prog w) A (call (.ref f) args) Q E s := by
  subst hg hB hSc
  refine wpAny_call (codeAny_call_function hroom (X _ _ ho) rfl hco hgen rfl (codeRec_of X hcd) (hbind _ _ _ _ ?_))
  refine wpAny_newFunctionEnv_cells hk (kindsX hkind _) fun env' he s' x => ?_
  subst he
  refine ⟨T.nolimit.keeps x.toInCall.keep, codeAny_func ?_⟩
  obtain ⟨h₁, tk, rfl, _⟩ := x.done
  obtain ⟨cells, NC, Y⟩ := Cl.news (h₀ := s.heap) (Nat.le_refl _) fun n c hm => ⟨x.cell n c (lookup_of_mem_nodup (cellsFrom_names scope₀.names 0 (s.heap.objs.size + 1) [] [] rfl ▸ hnd) hm), x.above n c hm⟩
  exact wpAny_mono (h s.heap.objs.size h₁ tk cells ⟨x.toInCall.ns, fun b o e => x.toInCall.keep b o e, Nat.le_refl _⟩ NC Y X T) (fun fl s' hl => hl) fun _ _ y => y.elim

noncomputable def EltEnd (s₃ : Shared) (l : List Nat) (y : Value) (s₄ : Shared) : Prop := (∃ u, y = .str (S l) u) ∧ PySem.Keeps s₃ s₄
theorem EltEnd.intro {s₃ : Shared} {l : List Nat} {x : Str} {u : Tok} {h' : Heap} {tk : Nat} (e : x = S l) (k : ∀ b o, s₃.heap.get? b = some o → h'.get? b = some o) : EltEnd s₃ l (.str x u) { s₃ with heap := h', toks := tk } :=
  ⟨⟨u, by rw [e]⟩, h', tk, rfl, k⟩

theorem pairedS' {X : List Nat} {gf : Nat → List Nat} {vs ys : List Value} (p : Paired (fun v y => ∀ c u, v = .str ⟨#[c]⟩ u → c ∈ X → ∃ u', y = .str (S (gf c)) u') vs ys) :
    ∀ (xs : List Nat), vs.length = xs.length → (∀ (j : Nat) v, vs[j]? = some v → ∃ c u, xs[j]? = some c ∧ v = .str ⟨#[c]⟩ u) → (∀ c ∈ xs, c ∈ X) → StrsAre ys (xs.map fun c => S (gf c)) := by
  induction p with
  | nil => intro xs hl _ _; cases xs with
    | nil => exact .nil
    | cons _ _ => cases hl
  | cons hf _ ih =>
    intro xs hl hP hX
    cases xs with
    | nil => cases hl
    | cons x xs =>
      obtain ⟨c, u, e, hv⟩ := hP 0 _ rfl
      simp only [List.getElem?_cons_zero, Option.some.injEq] at e
      subst e
      obtain ⟨u', hy⟩ := hf _ _ hv (hX _ (.head _))
      subst hy
      exact .cons _ _ (ih xs (Nat.succ.inj hl) (fun j v hj => by simpa using hP (j + 1) v (by simpa using hj)) fun c hc => hX c (.tail _ hc))

theorem comp_str {prog : Program} {w : World} {A : Around} {E : Value → Shared → Prop} {s : Shared} {env : Env} {elt iter : Expr} {x : Str} {px : Pos} {scope : Scope} {cl : List (Str × Addr)} {pos : Pos}
    {Q : Value → Shared → Prop} {g : Heap} {L : Addr} {m : Str → Option Value} {news : List (Addr × Obj)} {xs : List Nat} {t : Tok} (gf : Nat → List Nat) (hh : A.handled = none)
    (F : Fr g L s.heap m) (N : News g L s.heap news)
    (hclos : closureFor scope env = pure cl) (hcell : ∀ y ∈ scope.names, y.2 ≠ .cell) (hkind : scope.kind = .function)
    (hnames : ∀ y ∈ scope.names, y.2 = .local → scope.names.lookup y.1 = some .local) (hx : scope.names.lookup x = some .local) (hlen : xs.length ≤ 1000000)
    (hit : ∀ Q', Q' (.str (S xs) t) s → wpAny (model prog w) A (eval iter env) Q' E s)
    (elt_ : ∀ C c u (s₃ : Shared) m₃ E', c ∈ xs → m₃ x = some (.str (S [c]) u) → Fr g C s₃.heap m₃ → News g C s₃.heap news → s.toks ≤ s₃.toks → Keeps s.heap s₃.heap →
      wpAny (model prog w) A (eval elt (compEnvC scope cl C env)) (EltEnd s₃ (gf c)) E' s₃)
    (fin : ∀ D h' tk ys n, Fr g L h' m → News g L h' ((D, W.listOf ys n) :: news) → (∀ q ∈ news, q.1 ≠ D) → StrsAre ys.toList (xs.map fun c => S (gf c)) → Keeps s.heap h' → Q (.ref D) { s with heap := h', toks := tk })
    (hs : ∀ x, foldedSetIterable iter env x = pure x := by intro _; rfl) :
    wpAny (model prog w) A (eval (.ListComp elt [⟨.Name x px, iter, [], 0⟩] scope pos) env) Q E s := by
  refine wpAny_ListComp_free (fun _ => true) (fun v y => ∀ c u, v = .str ⟨#[c]⟩ u → c ∈ xs → ∃ u', y = .str (S (gf c)) u') hclos hcell hkind hnames hx ?_ hs
  refine hit _ (wpAny_pyIter_str fun o St hW hSt => ?_)
  have hsz : (S xs).cps.size = xs.length := by show xs.toArray.size = _; simp
  have kp : Keeps s.heap (s.heap.push o) := fun b o' e => Heap.get?_push_of_some _ e
  refine ⟨_, _, _, _, _, St, rfl, hW A hh, by rw [hsz, sizeLine_eq]; omega, hSt, ?_, ⟨?_, ?_⟩, ?_⟩
  · intro b hb
    simp only [List.mem_singleton] at hb
    subst hb
    show _ < (s.heap.push o).objs.size
    rw [Heap.size_push]; exact Nat.lt_succ_self _
  · intro C i v s₃ m₃ E' _ _ _ _ _ _
    exact wpAny_pure ⟨rfl, s₃.heap, s₃.toks, rfl, fun _ _ e => e⟩
  · intro C i v s₃ m₃ E' hC hP _ hn hm hk htk
    obtain ⟨c, u, hc, rfl⟩ := hP
    have hcx : c ∈ xs := by
      have : xs[i]? = some c := by simpa [S] using hc
      exact List.mem_of_getElem? this
    have ks : Keeps s.heap s₃.heap := fun b o' e => hk b o' (by simp only [List.mem_singleton]; exact Nat.ne_of_lt (Heap.lt_size e)) (kp b o' e)
    have hCs : s.heap.objs.size < C := by have : (s.heap.push o).objs.size ≤ C := hC; rw [Heap.size_push] at this; exact this
    have hgs : g.objs.size ≤ s.heap.objs.size := by
      obtain ⟨oL, es, ep, hL, _⟩ := F.ns
      exact Nat.le_trans F.above (Nat.le_of_lt (Heap.lt_size hL))
    refine wpAny_mono (elt_ C c u s₃ m₃ E' hcx hm ⟨hn, fun b o' e => ks b o' (F.keep b o' e), Nat.le_trans hgs (Nat.le_of_lt hCs)⟩ (fun q hq => ⟨ks _ _ (N q hq).1, ?_, (N q hq).2.2⟩) htk ks) (fun y s₄ h4 => ⟨?_, h4.2⟩) fun _ _ e => e
    · exact Nat.ne_of_lt (Nat.lt_trans (Heap.lt_size (N q hq).1) hCs)
    · intro c' u' e _
      have : c' = c := by
        have e2 : (⟨#[c]⟩ : Str) = ⟨#[c']⟩ := (Value.str.inj e).1
        have e3 := congrArg Str.cps e2
        simpa using e3.symm
      subst this
      exact h4.1
  · intro D h' tk ys vs hD hl hpl hvl hP hF hk
    have ks : Keeps s.heap h' := fun b o' e => hk b o' (by simp only [List.mem_singleton]; exact Nat.ne_of_lt (Heap.lt_size e)) (kp b o' e)
    obtain ⟨n, hDo⟩ := hpl
    have hDs : s.heap.get? D = none := by
      cases e : s.heap.get? D with
      | none => rfl
      | some o' => have := kp D o' e; rw [hD] at this; cases this
    have hDn : ∀ b o', s.heap.get? b = some o' → b ≠ D := fun b o' e q => by rw [q, hDs] at e; cases e
    refine fin D h' tk ys n (fr_keeps F ks) (fun q hq => ?_) (fun q hq => hDn _ _ (N q hq).1) ?_ ks
    · rcases List.mem_cons.mp hq with rfl | hq
      · refine ⟨hDo, ?_, ?_⟩
        · obtain ⟨oL, es, ep, hL, _⟩ := F.ns
          exact fun e => hDn _ _ hL e.symm
        · cases e : g.get? D with
          | none => rfl
          | some o' => exact absurd rfl (hDn _ _ (F.keep _ _ e))
      · exact ⟨ks _ _ (N q hq).1, (N q hq).2⟩
    · have hP' : ∀ (j : Nat) v, vs[j]? = some v → ∃ c u, xs[j]? = some c ∧ v = .str ⟨#[c]⟩ u := fun j v e => by
        obtain ⟨c, u, hc, hv⟩ := hP j v e
        exact ⟨c, u, by simpa [S] using hc, hv⟩
      have hF' : Paired (fun v y => ∀ c u, v = .str ⟨#[c]⟩ u → c ∈ xs → ∃ u', y = .str (S (gf c)) u') vs ys.toList := by
        rw [List.filter_eq_self.mpr (fun _ _ => rfl)] at hF; exact hF
      refine pairedS' hF' xs (hvl.trans hsz) hP' fun c hc => hc

theorem empty_S (l : List Nat) (c : Nat) : (Builtin.Str.occurrences (S l) (S [c]) 0 (S l).length 1).isEmpty = !decide (c ∈ l) := by
  have := empty_one (S l) c
  rw [show (⟨#[c]⟩ : Str) = S [c] from rfl] at this
  rw [this]
theorem ofS_bs : Str.ofString "\\" = S [92] := by decide +kernel
theorem join_S (ls : List (List Nat)) : Txt.join (Str.ofString "") (ls.map S) = S ls.flatten := by
  show Builtin.Str.glued (Str.ofString "") _ = _
  rw [StrLaws.glued_eq_join]
  induction ls with
  | nil => exact ofS_nil
  | cons a r ih =>
    cases r with
    | nil => show S a = _; simp
    | cons b r =>
      show S a ++ Str.ofString "" ++ Str.join (Str.ofString "") ((b :: r).map S) = _
      rw [ih, ofS_nil, sApp, sApp]; simp
theorem sLen (l : List Nat) : (S l).length = l.length := by show l.toArray.size = _; simp
theorem sum_S (ls : List (List Nat)) : ((ls.map S).map (·.length)).sum = ls.flatten.length := by
  induction ls with
  | nil => rfl
  | cons a r ih => simp only [List.map_cons, List.sum_cons, List.flatten_cons, List.length_append, ih, sLen]
noncomputable abbrev tabOfL (kvs : List (Str × Str)) : List (PyData × PyData) := kvs.map fun p => (PyData.str p.1, PyData.str p.2)
/-- what the names make of a sign -/
noncomputable def NmOk (kvs : List (Str × Str)) (nm : Nat → List Nat) (c : Nat) : Prop := (PySem.Spec.lookup (.str (S [c])) (tabOfL kvs)).getD (.str (S [c])) = .str (S (nm c)) ∧ (nm c).length ≤ 10
noncomputable def escBy (sp : List Nat) (c : Nat) : List Nat := if c ∈ sp then [92, c] else [c]
theorem flat_one (gf : Nat → List Nat) (xs : List Nat) : (xs.map gf).flatten = xs.flatMap gf := by rw [List.flatMap_def]
theorem flat_len (gf : Nat → List Nat) (xs : List Nat) (k : Nat) (h : ∀ c ∈ xs, (gf c).length ≤ k) : (xs.flatMap gf).length ≤ k * xs.length := by
  induction xs with
  | nil => simp
  | cons x r ih =>
    have := ih fun c hc => h c (.tail _ hc)
    have := h x (.head _)
    rw [List.flatMap_cons, List.length_append, List.length_cons, Nat.mul_add]; omega

theorem signs_c {w : World} {E : Value → Shared → Prop} {s : Shared} {Q : Value → Shared → Prop}
    {p : Program} {loose : List Str} {mean : ExcName → Option Value} {mg mb : Str → Option Value}
    (X : (Mine.heapK w.params).In s.heap) (T : Top p loose mean mg mb s.heap) {xs sp : List Nat} {t : Tok} {d : Addr} {t2 : Tok} {kvs : List (Str × Str)} {nm : Nat → List Nat}
    (hT : StrTab PySem.Challenge.rw_ij0039_01.row.prog w s.heap d (tabOfL kvs)) (hx : xs.length ≤ 20) (hsp : sp.length ≤ 20) (hnm : ∀ c ∈ xs, NmOk kvs nm c)
    (ret : ∀ t' h' tk', Keeps s.heap h' → Q (.str (S ((xs.flatMap nm).flatMap (escBy sp))) t') { s with heap := h', toks := tk' }) :
    wpAny (model PySem.Challenge.rw_ij0039_01.row.prog w) (AtD 800 8000) (call (.ref 129) [.str (S xs) t, .ref d, .str (S sp) t2]) Q E s := by
  revert X; k_fill; intro X
  refine' call_cells (binds := [(Str.ofString "signs", .str (S xs) t), (Str.ofString "names", .ref d), (Str.ofString "special", .str (S sp) t2)]) ?hg ?hX ?hT ?ho ?hcd ?hroom ?hbind ?hB ?hSc ?hkind ?hnd ?_ ?c1 ?c2 ?c3
  (case hg => exact rfl)
  (case hX => exact X)
  (case hT => exact T)
  (case ho => k_is)
  (case hcd => k_is)
  (case hroom => decide)
  (case hbind => first | exact BindsTo.of_eq rfl | exact binds_K X rfl (by k_is) rfl rfl rfl)
  (case hB => conv => lhs; whnf)
  (case hSc => conv => lhs; whnf)
  (case hkind => exact rfl)
  (case hnd => decide +kernel)
  (case c1 => exact rfl)
  (case c2 => exact rfl)
  (case c3 => exact rfl)
  intro L' h₁ tk cells F N Y X' T'
  k_cells Y
  k_steps
  unfold Stop
  (with_reducible rename Fr _ _ _ _ => F')
  (with_reducible rename News _ _ _ _ => N')
  refine comp_str (xs := xs) (t := t) nm rfl F' N' (by with_unfolding_all rfl) (by decide) rfl (by decide) rfl (by omega) ?it ?elt ?fin
  (case it => exact fun Q' hq => nameX_L F' rfl hq)
  (case elt =>
    intro C c u s₃ m₃ E' hc hm F₃ N₃ htk hk
    clear F' N'
    k_steps
    (with_reducible rename PyProof.V.Flat _ _ => hv)
    rw [show PySem.Spec.lookup (.str (S [c])) (tabOfL kvs) = PySem.Spec.lookup (.str (S [c])) (tabOfL kvs) from rfl, (hnm c hc).1] at hv
    obtain ⟨u', rfl⟩ := hv.str_inv
    exact EltEnd.intro rfl fun _ _ e => e)
  (case fin =>
    intro D h' tk ys n F₂ N₂ hD hS hk
    clear F' N'
    k_steps
    unfold Stop
    have hl1 : (xs.map nm).flatten.length ≤ 200 := by
      rw [flat_one]; have := flat_len nm xs 10 (fun c hc => (hnm c hc).2); omega
    refine join_listC (ys := (xs.map nm).map S) (N₂.isList (.head _)) (by rw [List.map_map]; exact hS) (by decide) (by rw [sum_S, List.length_map, List.length_map]; omega) ?_
    intro t3 k3
    rw [join_S, flat_one]
    rw [flat_one] at hl1
    generalize hX3 : xs.flatMap nm = xs3 at hl1 ⊢
    k_steps
    unfold Stop
    (with_reducible rename Fr _ _ _ _ => F')
    (with_reducible rename News _ _ _ _ => N')
    refine comp_str (xs := xs3) (t := t3) (escBy sp) rfl F' N' (by with_unfolding_all rfl) (by decide) rfl (by decide) rfl (by omega) ?it ?elt ?fin
    (case it => exact fun Q' hq => nameX_L F' rfl hq)
    (case elt =>
      intro C c u s₃ m₃ E' hc hm F₃ N₃ htk hk
      clear F' N'
      k_steps
      · (with_reducible rename (Builtin.Str.occurrences _ _ _ _ _).isEmpty = true => hq)
        rw [empty_S] at hq
        exact EltEnd.intro (by unfold escBy; rw [if_neg (by simpa using hq)]) fun _ _ e => e
      · (with_reducible rename (Builtin.Str.occurrences _ _ _ _ _).isEmpty = false => hq)
        rw [empty_S] at hq
        exact EltEnd.intro (by unfold escBy; rw [if_pos (by simpa using hq), ofS_bs, sApp]; rfl) fun _ _ e => e)
    (case fin =>
      intro D h' tk ys n F₂ N₂ hD hS hk
      clear F' N'
      k_steps
      unfold Stop
      have hl2 : (xs3.map (escBy sp)).flatten.length ≤ 400 := by
        rw [flat_one]; have := flat_len (escBy sp) xs3 2 (fun c hc => by unfold escBy; split <;> simp); omega
      refine join_listC (ys := (xs3.map (escBy sp)).map S) (N₂.isList (.head _)) (by rw [List.map_map]; exact hS) (by decide) (by rw [sum_S, List.length_map, List.length_map]; omega) ?_
      intro t4 k4
      rw [join_S, flat_one]
      subst hX3
      k_steps
      exact ret _ _ _ (fun b o e => Fr.keep F₂ b o e)))

theorem signs_in {w : World} {A : Around} {E : Value → Shared → Prop} {s : Shared} {Q : Value → Shared → Prop}
    {p : Program} {loose : List Str} {mean : ExcName → Option Value} {mg mb : Str → Option Value} {h₀ : Heap} {L : Addr} {m : Str → Option Value} {news : List (Addr × Obj)}
    (F : Fr h₀ L s.heap m) (N : News h₀ L s.heap news) (X : (Mine.heapK w.params).In h₀) (T : Top p loose mean mg mb h₀) {xs : List Nat} (sp : List Nat) {t : Tok} {d : Addr} {t2 : Tok} {kvs : List (Str × Str)} {nm : Nat → List Nat} {y : Str}
    (hy : y = S sp) (hT : StrTab PySem.Challenge.rw_ij0039_01.row.prog w h₀ d (tabOfL kvs)) (hx : xs.length ≤ 20) (hsp : sp.length ≤ 20) (hnm : ∀ c ∈ xs, NmOk kvs nm c)
    (h1 : A.handled = none) (h2 : A.depth ≤ 800) (h3 : A.units ≤ 8000)
    (ret : ∀ t' h' tk', Fr h₀ L h' m → News h₀ L h' news → Q (.str (S ((xs.flatMap nm).flatMap (escBy sp))) t') { s with heap := h', toks := tk' }) :
    wpAny (model PySem.Challenge.rw_ij0039_01.row.prog w) A (call (.ref 129) [.str (S xs) t, .ref d, .str y t2]) Q E s := by
  subst hy
  exact wp_weaken (signs_c (X.keeps F.keep) (T.keeps F.keep) (TabAt.keep hT F.keep) hx hsp hnm fun t' h' tk' k => ret t' h' tk' (fr_keeps F k) (news_keeps N k)) h1 h2 h3
end Mine
end

section
open PySem PySem.W PyProof.Rows PySem.Spec PySem.Calls
namespace Mine
noncomputable def Post (P : Value → Shared → Prop) (v : Value) (s : Shared) : Prop := P v s

theorem StrsAre.at {vs : List Value} {ys : List Str} (h : StrsAre vs ys) : ∀ (i : Nat) v, vs[i]? = some v → ∃ y t, ys[i]? = some y ∧ v = .str y t := by
  induction h with
  | nil => intro i v e; simp at e
  | cons y t _ ih =>
    intro i v e
    cases i with
    | zero => simp at e; exact ⟨y, t, rfl, e.symm⟩
    | succ i => simp only [List.getElem?_cons_succ] at e ⊢; exact ih i v e

theorem pairedL {gf : List Nat → List Nat} {vs ys : List Value} (p : Paired (fun v y => ∀ r u, v = .str (S r) u → ∃ u', y = .str (S (gf r)) u') vs ys) :
    ∀ (rs : List (List Nat)), vs.length = rs.length → (∀ (j : Nat) v, vs[j]? = some v → ∃ r u, rs[j]? = some r ∧ v = .str (S r) u) → StrsAre ys (rs.map fun r => S (gf r)) := by
  induction p with
  | nil => intro xs hl _; cases xs with
    | nil => exact .nil
    | cons _ _ => cases hl
  | cons hf _ ih =>
    intro xs hl hP
    cases xs with
    | nil => cases hl
    | cons x xs =>
      obtain ⟨c, u, e, hv⟩ := hP 0 _ rfl
      simp only [List.getElem?_cons_zero, Option.some.injEq] at e
      subst e
      obtain ⟨u', hy⟩ := hf _ _ hv
      subst hy
      exact .cons _ _ (ih xs (Nat.succ.inj hl) (fun j v hj => by simpa using hP (j + 1) v (by simpa using hj)))

theorem comp_lst {prog : Program} {w : World} {A : Around} {E : Value → Shared → Prop} {s : Shared} {env : Env} {elt iter : Expr} {x : Str} {px : Pos} {scope : Scope} {cl : List (Str × Addr)} {pos : Pos}
    {Q : Value → Shared → Prop} {g : Heap} {L : Addr} (gf : List Nat → List Nat) (hh : A.handled = none)
    (hclos : closureFor scope env = pure cl) (hcell : ∀ y ∈ scope.names, y.2 ≠ .cell) (hkind : scope.kind = .function)
    (hnames : ∀ y ∈ scope.names, y.2 = .local → scope.names.lookup y.1 = some .local) (hx : scope.names.lookup x = some .local)
    (h : wpAny (model prog w) A (eval iter env) (Post fun xv s₁ => ∃ (l : Addr) (vs : List Value) (rs : List (List Nat)) (m : Str → Option Value) (news : List (Addr × Obj)), xv = .ref l ∧ Fr g L s₁.heap m ∧ News g L s₁.heap news ∧ s₁.heap.IsList l vs.toArray ∧
      StrsAre vs (rs.map S) ∧ rs.length ≤ 1000000 ∧
      (∀ C r u (s₃ : Shared) m₃ E', r ∈ rs → m₃ x = some (.str (S r) u) → Fr g C s₃.heap m₃ → News g C s₃.heap news → s₁.toks ≤ s₃.toks → Keeps s₁.heap s₃.heap →
        wpAny (model prog w) A (eval elt (compEnvC scope cl C env)) (EltEnd s₃ (gf r)) E' s₃) ∧
      (∀ D h' tk ys n, Fr g L h' m → News g L h' ((D, W.listOf ys n) :: news) → (∀ q ∈ news, q.1 ≠ D) → StrsAre ys.toList (rs.map fun r => S (gf r)) → Keeps s₁.heap h' → Q (.ref D) { s₁ with heap := h', toks := tk })) E s)
    (hs : ∀ x, foldedSetIterable iter env x = pure x := by intro _; rfl) :
    wpAny (model prog w) A (eval (.ListComp elt [⟨.Name x px, iter, [], 0⟩] scope pos) env) Q E s := by
  refine wpAny_ListComp_free (fun _ => true) (fun v y => ∀ r u, v = .str (S r) u → ∃ u', y = .str (S (gf r)) u') hclos hcell hkind hnames hx (wpAny_mono h (fun xv s₁ h₁ => ?_) fun _ _ e => e) hs
  obtain ⟨l, vs, rs, m, news, rfl, F, N, hl, hS, hlen, elt_, fin⟩ := h₁
  have hvl : vs.length = rs.length := by have := hS.length; simpa using this
  have hlt : l < s₁.heap.objs.size := by obtain ⟨_, e, _⟩ := hl; exact Heap.lt_size e
  have hat : ∀ (i : Nat) v, vs[i]? = some v → ∃ r u, rs[i]? = some r ∧ v = .str (S r) u := fun i v e => by
    obtain ⟨y, t, hy, hv⟩ := StrsAre.at hS i v e
    rw [List.getElem?_map] at hy
    obtain ⟨r, hr, rfl⟩ := Option.map_eq_some_iff.mp hy
    exact ⟨r, t, hr, hv⟩
  refine wpAny_pyIter_list hl ⟨s₁.heap.objs.size, [s₁.heap.objs.size, l], [s₁.heap.objs.size], vs.toArray.size, _, _, rfl, Walks.list hh _ _ (Nat.ne_of_lt hlt) vs.toArray, (by rw [List.size_toArray, hvl, sizeLine_eq]; omega), ⟨⟨_, Heap.get?_push_size _ rfl, rfl, rfl⟩, hl.push _⟩, ?_, ⟨?_, ?_⟩, ?_⟩
  · intro b hb
    show b < (s₁.heap.push _).objs.size
    rw [Heap.size_push]
    rcases List.mem_cons.mp hb with rfl | hb
    · exact Nat.lt_succ_self _
    · rcases List.mem_cons.mp hb with rfl | hb
      · exact Nat.lt_succ_of_lt hlt
      · cases hb
  · intro C i v s₃ m₃ E' _ _ _ _ _ _
    exact wpAny_pure ⟨rfl, s₃.heap, s₃.toks, rfl, fun _ _ e => e⟩
  · intro C i v s₃ m₃ E' hC hP _ hn hm hk htk
    obtain ⟨r, u, hr, rfl⟩ := hat i v (by simpa using hP)
    have hrx : r ∈ rs := List.mem_of_getElem? hr
    have ks : Keeps s₁.heap s₃.heap := fun b o' e => hk b o' (by simp only [List.mem_singleton]; exact Nat.ne_of_lt (Heap.lt_size e)) (Heap.get?_push_of_some _ e)
    have hCs : s₁.heap.objs.size < C := by
      have : (s₁.heap.push { cls := .type "list_iterator", data := .fields #[.ref l, .int 0 0] }).objs.size ≤ C := hC
      rw [Heap.size_push] at this; exact this
    have hgs : g.objs.size ≤ s₁.heap.objs.size := by
      obtain ⟨oL, es, ep, hL, _⟩ := F.ns
      exact Nat.le_trans F.above (Nat.le_of_lt (Heap.lt_size hL))
    refine wpAny_mono (elt_ C r u s₃ m₃ E' hrx hm ⟨hn, fun b o' e => ks b o' (F.keep b o' e), Nat.le_trans hgs (Nat.le_of_lt hCs)⟩ (fun q hq => ⟨ks _ _ (N q hq).1, Nat.ne_of_lt (Nat.lt_trans (Heap.lt_size (N q hq).1) hCs), (N q hq).2.2⟩) htk ks) (fun y s₄ h4 => ⟨?_, h4.2⟩) fun _ _ e => e
    intro c' u' e
    have : c' = r := by
      have e2 : S r = S c' := (Value.str.inj e).1
      have e3 := congrArg (fun z : Str => z.cps.toList) e2
      simpa using e3.symm
    subst this
    exact h4.1
  · intro D h' tk ys vs' hD hl' hpl hvl' hP hF hk
    have ks : Keeps s₁.heap h' := fun b o' e => hk b o' (by simp only [List.mem_singleton]; exact Nat.ne_of_lt (Heap.lt_size e)) (Heap.get?_push_of_some _ e)
    obtain ⟨n, hDo⟩ := hpl
    have hDs : s₁.heap.get? D = none := by
      cases e : s₁.heap.get? D with
      | none => rfl
      | some o' => have := Heap.get?_push_of_some { cls := .type "list_iterator", data := .fields #[.ref l, .int 0 0] } e; rw [hD] at this; cases this
    have hDn : ∀ b o', s₁.heap.get? b = some o' → b ≠ D := fun b o' e q => by rw [q, hDs] at e; cases e
    refine fin D h' tk ys n (fr_keeps F ks) (fun q hq => ?_) (fun q hq => hDn _ _ (N q hq).1) ?_ ks
    · rcases List.mem_cons.mp hq with rfl | hq
      · refine ⟨hDo, ?_, ?_⟩
        · obtain ⟨oL, es, ep, hL, _⟩ := F.ns
          exact fun e => hDn _ _ hL e.symm
        · cases e : g.get? D with
          | none => rfl
          | some o' => exact absurd rfl (hDn _ _ (F.keep _ _ e))
      · exact ⟨ks _ _ (N q hq).1, (N q hq).2⟩
    · rw [List.filter_eq_self.mpr (fun _ _ => rfl)] at hF
      exact pairedL hF rs (by rw [hvl', List.size_toArray]; exact hvl) (fun j v e => hat j v (by simpa using hP j v e))

theorem slice_mid (ws : List Value) (v : Value) : slicePick (ws ++ [v]).toArray (some 1) (some (-1)) none = (ws.drop 1).toArray := by
  rw [slicePick_plain]
  simp only [Option.elim]
  have h1 : clipAt (ws ++ [v]).toArray.size 1 = 1 := by unfold clipAt; simp; omega
  have h2 : clipAt (ws ++ [v]).toArray.size (-1) = ws.length := by unfold clipAt; simp; omega
  rw [h1, h2]
  cases ws with
  | nil => simp
  | cons a r => simp
end Mine
end

section
open PySem PySem.W PyProof.Rows PySem.Spec PySem.Calls
namespace Mine
local macro_rules | `(tactic| walk_at "execs cons") => `(tactic| (k_here; (fail_if_success (fail_if_success k_gentoks)); refine gen_toks (by (try dsimp only); omega) ?_; intro tk htk))
local macro_rules | `(tactic| walk_at "execs nil") => `(tactic| (k_here; (fail_if_success (fail_if_success k_gentoks)); refine gen_toks (by (try dsimp only); omega) ?_; intro tk htk))
local macro_rules | `(tactic| k_all) => `(tactic| assumption)
local macro_rules | `(tactic| k_mem) => `(tactic| assumption)
local macro_rules | `(tactic| walk_at "subscriptTail") => `(tactic| (k_here; (with_reducible show wpAny _ _ (subscriptTail _ _ (Value.ref _) (Value.int (-1) _)) _ _ _); k_dflt (refine' last_get ?N ?m ?_ ?s; (case N => k_asm); (case m => k_mem); (case s => with_unfolding_all rfl); k_whole)))
local macro_rules | `(tactic| walk_at "subscriptTail Name UnaryOp ref int") => `(tactic| (k_here; (with_reducible show wpAny _ _ (subscriptTail _ _ (Value.ref _) (Value.int (-1) _)) _ _ _); k_dflt (refine' last_get ?N ?m ?_ ?s; (case N => k_asm); (case m => k_mem); (case s => with_unfolding_all rfl); k_whole)))
local macro_rules | `(tactic| walk_at "setItem ref int") => `(tactic| (k_here; (with_reducible show wpAny _ _ (setItem (Value.ref _) (Value.int (-1) _) (Value.str _ _)) _ _ _); k_dflt (refine' last_set ?F ?N ?U ?_; (case F => k_asm); (case N => k_asm); (case U => k_upd); k_whole); intro h' F' N'; (try k_sweep)))
local macro_rules | `(tactic| walk_at "exec For") => `(tactic| (k_here; refine stop ?_))

noncomputable abbrev spA : List Nat := [38, 35, 92, 94, 126, 10, 13, 9]
noncomputable abbrev spB : List Nat := [38, 126, 92]
noncomputable def frontOf (it : Item) : List Nat := if it.1 = .out then [94] else if it.2.head? = some 94 ∨ it.2.head? = some 91 then [92] else []
noncomputable def pieceOf (nm : Nat → List Nat) (it : Item) : List Nat :=
  if it.1 = .any then [46]
  else if it.1 = .is ∧ it.2 ≠ [91] then (it.2.flatMap nm).flatMap (escBy spA)
  else 91 :: frontOf it ++ (it.2.flatMap nm).flatMap (escBy spB) ++ [93]
structure TSt where
  js : List (List Nat)
  cur : List Nat
  last : Bool
noncomputable def stepT (nm : Nat → List Nat) (st : TSt) (it : Item) : TSt :=
  if it.1 = .star then (if st.last = true then st else ⟨st.js ++ [st.cur], [], true⟩) else ⟨st.js, st.cur ++ pieceOf nm it, false⟩
noncomputable def toldSt (nm : Nat → List Nat) (mark : List Nat) (its : List Item) : TSt := its.foldl (stepT nm) ⟨[], mark, false⟩
noncomputable def toldOf (nm : Nat → List Nat) (mark : List Nat) (its : List Item) : List Nat :=
  let st := toldSt nm mark its
  [40, 63, 115, 58] ++ (st.js ++ [st.cur]).headD [] ++ ((st.js ++ [st.cur]).tail.dropLast.flatMap fun r => [40, 63, 62, 46, 42, 63] ++ r ++ [41]) ++ [46, 42] ++ st.cur ++ mark ++ [41, 92, 90]

local macro_rules | `(tactic| walk_at "call builtin:str.join") => `(tactic| (k_here; refine stop ?_))
local macro_rules | `(tactic| walk_at "eval Name") => `(tactic| (k_here; (with_reducible show wpAny _ _ (eval (Expr.Name _ _) (compEnvC _ _ _ _)) _ _ _); refine' lcf_loc ?F ?v ?_ ?a ?b; (case a => rfl); (case b => rfl); (case F => k_asm); (case v => assumption)))
local macro_rules | `(tactic| walk_at "eval ListComp") => `(tactic| (k_here; refine stop ?_))
local macro_rules | `(tactic| walk_at "subscriptTail Name Slice ref ref") => `(tactic| (k_here; refine slice_list (by assumption) (by assumption) (News.isList (by assumption) (.head _)) (.int _ _) (.int _ _) ?_ (hsz := by rw [sizeLine_eq]; simp; omega); intro h' F' N'; rw [slice_mid] at N'))
local macro_rules | `(tactic| walk_at "call ref") => `(tactic| (k_here; (with_reducible show wpAny _ _ (call (Value.ref 129) _) _ _ _); refine stop ?_))
theorem pos_of {it : Item} (hg : it.1 = .is ∨ it.1 = .ins ∨ it.1 = .out → it.2 ≠ []) (h1 : (it.1.s == Str.ofString "*") = false) (h2 : (it.1.s == Str.ofString "?") = false) : 1 ≤ (S it.2).length := by
  rw [sLen]
  have a := kd_nstar h1; have b := kd_nany h2
  have : it.2 ≠ [] := hg (by revert a b; cases it.1 <;> simp)
  exact List.length_pos_iff.mpr this
theorem head_item {l : List Nat} (h : 1 ≤ (S l).length) : ∃ c, l.head? = some c ∧ Txt.item (S l) 0 = S [c] := by
  rw [sLen] at h
  cases l with
  | nil => simp at h
  | cons c r => exact ⟨c, rfl, item_meets (by decide) rfl⟩
local macro_rules | `(tactic| walk_at "subscriptTail") => `(tactic| (k_here; (with_reducible show wpAny _ _ (subscriptTail _ _ (Value.str _ _) (Value.int 0 _)) _ _ _); refine item_str (by decide) (by have := pos_of (by assumption) (by assumption) (by assumption); omega) (by have := pos_of (by assumption) (by assumption) (by assumption); omega) ?_; intro hone))
local macro_rules | `(tactic| walk_at "subscriptTail Name Constant str int") => `(tactic| (k_here; (with_reducible show wpAny _ _ (subscriptTail _ _ (Value.str _ _) (Value.int 0 _)) _ _ _); refine item_str (by decide) (by have := pos_of (by assumption) (by assumption) (by assumption); omega) (by have := pos_of (by assumption) (by assumption) (by assumption); omega) ?_; intro hone))
theorem first_get {prog : Program} {w : World} {A : Around} {E : Value → Shared → Prop} {s : Shared} {h₀ : Heap} {L D : Addr} {news : List (Addr × Obj)} {ws : List Value} {v : Value} {n : Nat} {u : Tok} {value slice : Expr} {Q : Value → Shared → Prop} (N : News h₀ L s.heap news) (hm : (D, W.listOf ws.toArray n) ∈ news)
    (hv : ws[0]? = some v) (h : Q v s)
    (hs : subscripted slice false (.ref D) (.int 0 u) = operate [.ref D, .int 0 u] (getItem (.ref D) (.int 0 u)) := by with_unfolding_all rfl) :
    wpAny (model prog w) A (subscriptTail value slice (.ref D) (.int 0 u)) Q E s := by
  have hl : s.heap.IsList D ws.toArray := PySem.IsL.isList (n := n) (N _ hm).1
  refine tail_any hl.typeIs slot_list_getitem.lookup (wpAny_getItem_list hl (by decide) (by decide) (x := v) ?_ h) hs
  simpa using hv
local macro_rules | `(tactic| walk_at "subscriptTail") => `(tactic| (k_here; (with_reducible show wpAny _ _ (subscriptTail _ _ (Value.ref _) (Value.int 0 _)) _ _ _); k_dflt (refine' first_get ?N ?m ?v ?_ ?s; (case N => k_asm); (case m => k_mem); (case v => assumption); (case s => with_unfolding_all rfl); k_whole)))
local macro_rules | `(tactic| walk_at "subscriptTail Name Constant ref int") => `(tactic| (k_here; (with_reducible show wpAny _ _ (subscriptTail _ _ (Value.ref _) (Value.int 0 _)) _ _ _); k_dflt (refine' first_get ?N ?m ?v ?_ ?s; (case N => k_asm); (case m => k_mem); (case v => assumption); (case s => with_unfolding_all rfl); k_whole)))
theorem toldSt_len (nm : Nat → List Nat) (mark : List Nat) (its : List Item) (hm : mark.length ≤ 1) (hsg : ∀ it ∈ its, it.2.length ≤ 20) (hnm : ∀ it ∈ its, ∀ c ∈ it.2, (nm c).length ≤ 10) :
    (toldSt nm mark its).js.flatten.length + (toldSt nm mark its).cur.length ≤ 1 + 403 * its.length ∧ (toldSt nm mark its).js.length ≤ its.length := by
  unfold toldSt
  suffices h : ∀ (its : List Item) (st : TSt), (∀ it ∈ its, it.2.length ≤ 20) → (∀ it ∈ its, ∀ c ∈ it.2, (nm c).length ≤ 10) →
      (its.foldl (stepT nm) st).js.flatten.length + (its.foldl (stepT nm) st).cur.length ≤ st.js.flatten.length + st.cur.length + 403 * its.length ∧ (its.foldl (stepT nm) st).js.length ≤ st.js.length + its.length by
    have := h its ⟨[], mark, false⟩ hsg hnm
    simp only [List.flatten_nil, List.length_nil] at this
    omega
  intro its
  induction its with
  | nil => intro st _ _; simp
  | cons it r ih =>
    intro st hsg hnm
    have h1 := ih (stepT nm st it) (fun x hx => hsg x (.tail _ hx)) (fun x hx => hnm x (.tail _ hx))
    have e : ∀ sp, ((it.2.flatMap nm).flatMap (escBy sp)).length ≤ 400 := fun sp => by
      have a1 := flat_len nm it.2 10 (hnm it (.head _))
      have a2 := flat_len (escBy sp) (it.2.flatMap nm) 2 (fun c _ => by unfold escBy; split <;> simp)
      have a3 := hsg it (.head _)
      omega
    have h2 : (stepT nm st it).js.flatten.length + (stepT nm st it).cur.length ≤ st.js.flatten.length + st.cur.length + 403 ∧ (stepT nm st it).js.length ≤ st.js.length + 1 := by
      unfold stepT
      split
      · split
        · exact ⟨by omega, by omega⟩
        · simp only [List.flatten_append, List.flatten_cons, List.flatten_nil, List.length_append, List.length_cons, List.length_nil, List.append_nil]; omega
      · have hp : (pieceOf nm it).length ≤ 403 := by
          unfold pieceOf
          split
          · simp
          · split
            · exact Nat.le_trans (e _) (by decide)
            · have hf : (frontOf it).length ≤ 1 := by unfold frontOf; split <;> (try split) <;> simp
              have := e spB
              simp only [List.length_append, List.length_cons, List.length_nil]; omega
        simp only [List.length_append]; omega
    rw [List.foldl_cons, List.length_cons]
    omega
noncomputable def JTold (D d : Addr) (nm : Nat → List Nat) (mark : List Nat) (its : List Item) (i : Nat) (m : Str → Option Value) (nw : List (Addr × Obj)) : Prop :=
  ∃ (u : Str → Option Value) (ws : List Value) (n : Nat) (last : Str) (tl tm tc : Tok), m = (fun z => if z = Str.ofString "last" then some (.str last tl) else if z = Str.ofString "runs" then some (.ref D) else
      if z = Str.ofString "mark" then some (.str (S mark) tm) else if z = Str.ofString "names" then some (.ref d) else u z) ∧
    nw = [(D, W.listOf (ws ++ [Value.str (S (toldSt nm mark (its.take i)).cur) tc]).toArray n)] ∧ StrsAre ws ((toldSt nm mark (its.take i)).js.map S) ∧ (last == Str.ofString "*") = (toldSt nm mark (its.take i)).last

theorem end_told {s : Shared} {h₀ h' : Heap} {L D d : Addr} {own : List (Addr × Obj)} {nm : Nat → List Nat} {mark : List Nat} {its : List Item} {i : Nat} {m' : Str → Option Value} {arr : Array Value} {wsN : List Value} {n' : Nat} {curN : List Nat} {jsN : List (List Nat)} {fl : Bool} {tc tl tm : Tok}
    {last : Str} {tk : Nat} {st : TSt} {it : Item}
    (F : Fr h₀ L h' m') (N : News h₀ L h' ((D, W.listOf arr n') :: own)) (hm : m' (Str.ofString "last") = some (.str last tl)) (hm2 : m' (Str.ofString "runs") = some (.ref D)) (hm3 : m' (Str.ofString "mark") = some (.str (S mark) tm))
    (hm4 : m' (Str.ofString "names") = some (.ref d)) (ht : 1 ≤ tk)
    (hst : toldSt nm mark (its.take i) = st) (hi : its[i]? = some it) (hs : stepT nm st it = ⟨jsN, curN, fl⟩) (harr : arr = (wsN ++ [Value.str (S curN) tc]).toArray) (hws : StrsAre wsN (jsN.map S)) (hlast : (last == Str.ofString "*") = fl) :
    TurnEndL s h₀ L own (JTold D d nm mark its (i + 1)) .next { s with heap := h', toks := tk } := by
  have e : toldSt nm mark (its.take (i + 1)) = ⟨jsN, curN, fl⟩ := by
    rw [List.take_add_one, hi]; unfold toldSt at hst ⊢; rw [List.foldl_append, hst]; exact hs
  subst harr
  refine TurnEndL.intro (nw₂ := [(D, W.listOf (wsN ++ [Value.str (S curN) tc]).toArray n')]) ht F N ⟨m', wsN, n', last, tl, tm, tc, ?_, by rw [e], by rw [e]; exact hws, by rw [e]; exact hlast⟩
  funext z
  by_cases h : z = Str.ofString "last"
  · rw [if_pos h, h, hm]
  · rw [if_neg h]
    by_cases h : z = Str.ofString "runs"
    · rw [if_pos h, h, hm2]
    · rw [if_neg h]
      by_cases h : z = Str.ofString "mark"
      · rw [if_pos h, h, hm3]
      · rw [if_neg h]
        by_cases h : z = Str.ofString "names"
        · rw [if_pos h, h, hm4]
        · rw [if_neg h]

theorem neT {a b : Str} (h : (a != b) = true) : (a == b) = false := by simpa using h
theorem neF {a b : Str} (h : (a != b) = false) : (a == b) = true := by simpa using h
theorem StrsAre.drop {vs : List Value} {ys : List Str} (h : StrsAre vs ys) : StrsAre (vs.drop 1) (ys.drop 1) := by
  cases h with
  | nil => exact .nil
  | cons _ _ r => exact r
theorem mem_flat_le {r : List Nat} {js : List (List Nat)} (h : r ∈ js) : r.length ≤ js.flatten.length := by
  induction js with
  | nil => cases h
  | cons j t ih =>
    rw [List.flatten_cons, List.length_append]
    rcases List.mem_cons.mp h with rfl | h
    · omega
    · have := ih h; omega
theorem st_app {ws : List Value} {js : List (List Nat)} {x : List Nat} {t : Tok} (h : StrsAre ws (js.map S)) : StrsAre (ws ++ [Value.str (S x) t]) ((js ++ [x]).map S) := by
  rw [List.map_append]
  generalize js.map S = ys at h
  induction h with
  | nil => exact .cons _ _ .nil
  | cons y t _ ih => exact .cons _ _ ih
theorem sp_star1 {nm : Nat → List Nat} {st : TSt} {it : Item} (h : (it.1.s == Str.ofString "*") = true) (hl : st.last = false) : stepT nm st it = ⟨st.js ++ [st.cur], [], true⟩ := by
  unfold stepT; rw [if_pos (kd_star h), if_neg (by rw [hl]; decide)]
theorem sp_star2 {nm : Nat → List Nat} {st : TSt} {it : Item} (h : (it.1.s == Str.ofString "*") = true) (hl : st.last = true) : stepT nm st it = ⟨st.js, st.cur, true⟩ := by
  unfold stepT; rw [if_pos (kd_star h), if_pos hl]; cases st; cases hl; rfl
theorem sp_any {nm : Nat → List Nat} {st : TSt} {it : Item} (h : (it.1.s == Str.ofString "?") = true) : stepT nm st it = ⟨st.js, st.cur ++ [46], false⟩ := by
  have := kd_any h
  unfold stepT; rw [if_neg (by rw [this]; decide)]; unfold pieceOf; rw [if_pos this]
theorem sp_is {nm : Nat → List Nat} {st : TSt} {it : Item} (h : (it.1.s == Str.ofString "is") = true) (hq : (S it.2 == Str.ofString "[") = false) : stepT nm st it = ⟨st.js, st.cur ++ (it.2.flatMap nm).flatMap (escBy spA), false⟩ := by
  have := kd_is h
  unfold stepT; rw [if_neg (by rw [this]; decide)]; unfold pieceOf
  rw [if_neg (by rw [this]; decide), if_pos ⟨this, by rw [ofS_br] at hq; simpa using hq⟩]
theorem sp_oth {nm : Nat → List Nat} {st : TSt} {it : Item} {fr : List Nat} (h1 : (it.1.s == Str.ofString "*") = false) (h2 : (it.1.s == Str.ofString "?") = false) (h3 : (it.1.s == Str.ofString "is") = false ∨ (S it.2 == Str.ofString "[") = true)
    (hf : frontOf it = fr) : stepT nm st it = ⟨st.js, st.cur ++ (91 :: fr ++ (it.2.flatMap nm).flatMap (escBy spB) ++ [93]), false⟩ := by
  unfold stepT; rw [if_neg (kd_nstar h1)]; unfold pieceOf
  rw [if_neg (kd_nany h2), if_neg, hf]
  rintro ⟨a, b⟩
  rcases h3 with h3 | h3
  · exact kd_nis h3 a
  · rw [ofS_br] at h3; exact b (by simpa using h3)
theorem fr_out {it : Item} (h : (it.1.s == Str.ofString "out") = true) : frontOf it = [94] := by unfold frontOf; rw [if_pos (kd_out h)]
theorem ofS_ht : Str.ofString "^" = S [94] := by decide +kernel
theorem ofS_dot : Str.ofString "." = S [46] := by decide +kernel
theorem fr_e {it : Item} (h : (it.1.s == Str.ofString "out") = false) (hp : 1 ≤ (S it.2).length) (hi : (Txt.item (S it.2) 0 == Str.ofString "^") = true) : frontOf it = [92] := by
  obtain ⟨c, hc, e⟩ := head_item hp
  rw [e, ofS_ht] at hi
  unfold frontOf; rw [if_neg (kd_nout h), if_pos (.inl (by rw [hc, sOne hi]))]
theorem fr_b {it : Item} (h : (it.1.s == Str.ofString "out") = false) (hp : 1 ≤ (S it.2).length) (hi : (Txt.item (S it.2) 0 == Str.ofString "[") = true) : frontOf it = [92] := by
  obtain ⟨c, hc, e⟩ := head_item hp
  rw [e, ofS_br] at hi
  unfold frontOf; rw [if_neg (kd_nout h), if_pos (.inr (by rw [hc, sOne hi]))]
theorem fr_n {it : Item} (h : (it.1.s == Str.ofString "out") = false) (hp : 1 ≤ (S it.2).length) (hi : (Txt.item (S it.2) 0 == Str.ofString "^") = false) (hj : (Txt.item (S it.2) 0 == Str.ofString "[") = false) : frontOf it = [] := by
  obtain ⟨c, hc, e⟩ := head_item hp
  rw [e, ofS_ht] at hi
  rw [e, ofS_br] at hj
  unfold frontOf; rw [if_neg (kd_nout h), if_neg]
  rw [hc]
  rintro (x | x)
  · exact sOne' hi (Option.some.inj x)
  · exact sOne' hj (Option.some.inj x)
theorem cat_e (c x : List Nat) : S c ++ Str.ofString "[" ++ Str.ofString "^" ++ S x ++ Str.ofString "]" = S (c ++ (91 :: [94] ++ x ++ [93])) := by
  rw [ofS_br, ofS_ht, ofS_cl, sApp, sApp, sApp, sApp]; simp
theorem cat_b (c x : List Nat) : S c ++ Str.ofString "[" ++ Str.ofString "\\" ++ S x ++ Str.ofString "]" = S (c ++ (91 :: [92] ++ x ++ [93])) := by
  rw [ofS_br, ofS_bs, ofS_cl, sApp, sApp, sApp, sApp]; simp
theorem cat_n (c x : List Nat) : S c ++ Str.ofString "[" ++ Str.ofString "" ++ S x ++ Str.ofString "]" = S (c ++ (91 :: [] ++ x ++ [93])) := by
  rw [ofS_br, ofS_nil, ofS_cl, sApp, sApp, sApp, sApp]; simp

theorem told_c0 {w : World} {E : Value → Shared → Prop} {s : Shared} {Q : Value → Shared → Prop}
    {p : Program} {loose : List Str} {mean : ExcName → Option Value} {mg mb : Str → Option Value}
    (X : (Mine.heapK w.params).In s.heap) (T : Top p loose mean mg mb s.heap) (htk : 1 ≤ s.toks) {l : Addr} {vs : List Value} {its : List Item} (hl : s.heap.IsList l vs.toArray) (hits : ItsAt s.heap vs its)
    (hlen : its.length ≤ 20) (hsg : ∀ it ∈ its, it.2.length ≤ 20) {mark : List Nat} {t : Tok} (hmk : mark.length ≤ 1) {d : Addr} {kvs : List (Str × Str)} {nm : Nat → List Nat}
    (hT : StrTab PySem.Challenge.rw_ij0039_01.row.prog w s.heap d (tabOfL kvs)) (hnm : ∀ it ∈ its, ∀ c ∈ it.2, NmOk kvs nm c)
    (hgood : ∀ it ∈ its, it.1 = .is ∨ it.1 = .ins ∨ it.1 = .out → it.2 ≠ [])
    (ret : ∀ t' h' tk', Keeps s.heap h' → Q (.str (S (toldOf nm mark its)) t') { s with heap := h', toks := tk' }) :
    wpAny (model PySem.Challenge.rw_ij0039_01.row.prog w) (AtD 700 7000) (call (.ref 134) [.ref l, .str (S mark) t, .ref d]) Q E s := by
  revert X; k_fill; intro X
  refine' call_c (binds := [(Str.ofString "items", .ref l), (Str.ofString "mark", .str (S mark) t), (Str.ofString "names", .ref d)]) [] ?hg ?hm ?hX ?hT ?ho ?hcd ?hroom ?hbind ?hB ?hSc ?hloc ?_ ?c1 ?c2 ?c3 ?c4
  (case hg => exact rfl)
  (case hm => intro q hq; cases hq)
  (case hX => exact X)
  (case hT => exact T)
  (case ho => k_is)
  (case hcd => k_is)
  (case hroom => decide)
  (case hbind => first | exact BindsTo.of_eq rfl | exact binds_K X rfl (by k_is) rfl rfl rfl)
  (case hB => conv => lhs; whnf)
  (case hSc => conv => lhs; whnf)
  (case hloc => exact locs rfl)
  (case c1 => exact rfl)
  (case c2 => exact rfl)
  (case c3 => exact rfl)
  (case c4 => decide)
  intro L' h₁ tk htk₀ F N X' T'
  replace htk : 1 ≤ tk := Nat.le_trans htk htk₀
  have hl' : (hideAll s.heap (List.map (fun x : Addr × Obj => x.fst) [])).IsList l vs.toArray := hl
  have hits' : ItsAt (hideAll s.heap (List.map (fun x : Addr × Obj => x.fst) [])) vs its := hits
  have hTab : StrTab PySem.Challenge.rw_ij0039_01.row.prog w (hideAll s.heap (List.map (fun x : Addr × Obj => x.fst) [])) d (tabOfL kvs) := hT
  k_steps
  unfold Stop
  (with_reducible rename Fr _ _ _ _ => F')
  (with_reducible rename News _ _ _ _ => N')
  rename_i D _ _ _ tk1 _ _
  refine wpAny_For (ld F' rfl ?_) (by intro _; rfl)
  obtain ⟨tf, htf⟩ := tok_fn hits'
  refine forList_iter (vs := vs) (B := fun i v m z => if z = Str.ofString "signs" then some (.str (S (itOf its i).2) (tf i).2) else if z = Str.ofString "kind" then some (.str (itOf its i).1.s (tf i).1) else m z) (news := [(D, W.listOf #[Value.str (S mark) t] 0)]) (ex := []) [D]
    rfl (fun h m F _ => F.lst hl') F' N' (fun _ h => nomatch h) ?hU (by first | assumption | omega | (dsimp only; omega)) (JTold D d nm mark its) ?h0 ?hJc ?asg ?step ?hQ ?hlet
  (case hU => intro u hu; rw [List.mem_singleton] at hu; subst hu; exact Heap.lt_size (N' _ (.head _)).1)
  (case h0 =>
    refine ⟨fun z => List.lookup z [(Str.ofString "items", Value.ref l), (Str.ofString "mark", .str (S mark) t), (Str.ofString "names", .ref d)].reverse, [], 0, Str.ofString "", tk1, t, t, ?_, rfl, .nil, (by decide +kernel : (Str.ofString "" == Str.ofString "*") = false)⟩
    funext z
    by_cases h : z = Str.ofString "mark"
    · subst h; rfl
    · by_cases h' : z = Str.ofString "names"
      · subst h'; rfl
      · simp only [h, h', if_false])
  (case hJc =>
    rintro i m nw ⟨u, ws, n, last, tl, tm, tc, _, rfl, _, _⟩ q hq
    rw [List.mem_singleton] at hq; subst hq
    exact (by decide : Value.type "list" ≠ Value.type "list_iterator"))
  (case asg =>
    intro i v hv
    obtain ⟨a, rfl, ha⟩ := htf i v hv
    exact asg_pair rfl rfl rfl rfl fun h m F _ => ⟨_, F.keep _ _ ha, rfl, _, rfl⟩)
  (case hlet =>
    intro I i v s' Q' E' hv hit hq
    obtain ⟨a, rfl, ha⟩ := htf i v hv
    exact wpAny_letOwnedTupleGo_listiter hit hq)
  (case hQ =>
    rintro h'' tk'' m' nw htk'' F'' N'' ⟨u, ws, n, last, tl, tm, tc, rfl, rfl, hws, hlast⟩
    have e : its.take vs.length = its := List.take_of_length_le (by rw [hits'.length]; exact Nat.le_refl _)
    rw [e] at N'' hws
    clear F' N'
    have hL := toldSt_len nm mark its hmk hsg (fun x hx c hc => (hnm x hx c hc).2)
    unfold toldOf at ret
    generalize hst : toldSt nm mark its = st at hL N'' hws ret
    dsimp only at ret
    obtain ⟨v0, t0, hv0, hv1⟩ : ∃ v0 t0, (ws ++ [Value.str (S st.cur) tc])[0]? = some v0 ∧ v0 = .str (S ((st.js ++ [st.cur]).headD [])) t0 := by
      generalize st.js = js at hws ⊢
      cases js with
      | nil => cases hws; exact ⟨_, _, rfl, rfl⟩
      | cons j js => cases hws with | cons _ t' _ => exact ⟨_, t', rfl, rfl⟩
    subst hv1
    have hr0 : (S ((st.js ++ [st.cur]).headD [])).length ≤ 10000 := by
      rw [sLen]
      generalize st.js = js at hL ⊢
      cases js with
      | nil => show st.cur.length ≤ 10000; omega
      | cons j js => show j.length ≤ 10000; simp only [List.flatten_cons, List.length_append] at hL; omega
    have hcl : (S st.cur).length ≤ 10000 := by rw [sLen]; omega
    have hml : (S mark).length ≤ 1 := by rw [sLen]; exact hmk
    have hwl : ws.length ≤ 20 := by have := hws.length; simp only [List.length_map] at this; omega
    k_steps
    unfold Stop
    (with_reducible rename Fr _ _ _ _ => F')
    (with_reducible rename News _ _ _ _ => N')
    refine comp_lst (g := hideAll s.heap (List.map (fun x : Addr × Obj => x.fst) [])) (L := L') (fun r => [40, 63, 62, 46, 42, 63] ++ r ++ [41]) rfl (by with_unfolding_all rfl) (by decide) rfl (by decide) rfl ?_
    k_steps
    (with_reducible rename Fr _ _ _ _ => F3)
    (with_reducible rename News _ _ _ _ => N3)
    have hjl : ∀ r ∈ st.js.drop 1, r.length ≤ 10000 := fun r hr => by
      have h1 := List.mem_of_mem_drop hr
      have h2 : r.length ≤ st.js.flatten.length := by
        exact mem_flat_le h1
      omega
    have hjn : (st.js.drop 1).length ≤ 20 := by rw [List.length_drop]; omega
    have hjf : ((st.js.drop 1).flatMap fun r => [40, 63, 62, 46, 42, 63] ++ r ++ [41]).length ≤ 10000 := by
      have : ∀ js : List (List Nat), (js.flatMap fun r => [40, 63, 62, 46, 42, 63] ++ r ++ [41]).length = js.flatten.length + 7 * js.length := fun js => by
        induction js with
        | nil => rfl
        | cons j r ih => simp only [List.flatMap_cons, List.length_append, ih, List.flatten_cons, List.length_cons, List.length_nil]; omega
      rw [this]
      have h3 : (st.js.drop 1).flatten.length ≤ st.js.flatten.length := by
        cases st.js with
        | nil => exact Nat.le_refl _
        | cons a b => simp
      omega
    have hmid : (st.js ++ [st.cur]).tail.dropLast = st.js.drop 1 := by
      generalize st.js = js
      cases js with
      | nil => rfl
      | cons a r => simp
    rw [hmid] at ret
    refine ⟨_, ws.drop 1, st.js.drop 1, _, _, rfl, F3, N3, News.isList N3 (.head _), by rw [List.map_drop]; exact StrsAre.drop hws, by omega, ?_, ?_⟩
    · intro C r u s₃ m₃ E' hr hm F₃ N₃ htk hk
      have hrl : (S r).length ≤ 10000 := by rw [sLen]; exact hjl r hr
      clear F3 N3
      k_steps
      exact EltEnd.intro (by rw [show Str.ofString "(?>.*?" = S [40, 63, 62, 46, 42, 63] by decide +kernel, show Str.ofString ")" = S [41] by decide +kernel, sApp, sApp]) fun _ _ e => e
    · intro D2 h2 tk2 ys n2 F₂ N₂ hD2 hS2 hk2
      clear F3 N3
      k_steps
      unfold Stop
      refine join_listC (ys := ((st.js.drop 1).map fun r => [40, 63, 62, 46, 42, 63] ++ r ++ [41]).map S) (N₂.isList (.head _)) (by rw [List.map_map]; exact hS2) (by decide) (by rw [sum_S, List.length_map, List.length_map, ← List.flatMap_def]; omega) ?_
      intro t4 k4
      rw [join_S, ← List.flatMap_def]
      have hjf' : (S ((st.js.drop 1).flatMap fun r => [40, 63, 62, 46, 42, 63] ++ r ++ [41])).length ≤ 10000 := by rw [sLen]; exact hjf
      k_steps
      (with_reducible rename Fr _ _ _ _ => F9)
      have e9 := ret
      rw [← sApp, ← sApp, ← sApp, ← sApp, ← sApp, ← sApp] at e9
      rw [show Str.ofString "(?s:" = S [40, 63, 115, 58] by decide +kernel, show Str.ofString ".*" = S [46, 42] by decide +kernel, show Str.ofString ")\\Z" = S [41, 92, 90] by decide +kernel]
      exact e9 _ _ _ (fun b o e => Fr.keep F9 b o e))
  (case step =>
    rintro i v m₁ h₂ tk₂ nw own hv ⟨u, ws, n, last, tl, tm, tc, rfl, rfl, hws, hlast⟩ htk₂ hown F₂ N₂
    have hi : i < its.length := by rw [← hits'.length]; exact (List.getElem?_eq_some_iff.mp hv).1
    have hget : its[i]? = some (itOf its i) := by unfold itOf; rw [List.getD_eq_getElem?_getD, List.getElem?_eq_getElem hi]; rfl
    have hmem : itOf its i ∈ its := List.mem_of_getElem? hget
    have hoff : ∀ q ∈ own, q.1 ≠ D := fun q hq e => hown q hq (by rw [e]; exact .head _)
    have hL := toldSt_len nm mark (its.take i) hmk (fun x hx => hsg x (List.take_subset _ _ hx)) (fun x hx c hc => (hnm x (List.take_subset _ _ hx) c hc).2)
    have hti : (its.take i).length ≤ 20 := by rw [List.length_take]; omega
    generalize hit : itOf its i = it at hmem hget F₂
    have hks := kdS_len it.1
    have hnm' := hnm it hmem
    have hsl : it.2.length ≤ 20 := hsg it hmem
    have hsl' : (S it.2).length ≤ 20 := by rw [sLen]; exact hsl
    generalize hst : toldSt nm mark (its.take i) = st at hL N₂ hws hlast
    have hcl : (S st.cur).length ≤ 10000 := by rw [sLen]; omega
    have hwl : ws.length ≤ 20 := by have := hws.length; simp only [List.length_map] at this; omega
    clear F' N'
    have hg := hgood it hmem
    have hsp : ∀ sp, (S ((it.2.flatMap nm).flatMap (escBy sp))).length ≤ 400 := fun sp => by
      have a1 := flat_len nm it.2 10 (fun c hc => (hnm' c hc).2)
      have a2 := flat_len (escBy sp) (it.2.flatMap nm) 2 (fun c _ => by unfold escBy; split <;> simp)
      rw [sLen]; omega
    have hspA := hsp spA
    have hspB := hsp spB
    clear hsp
    k_steps
    all_goals (first | (with_reducible show Stop _; unfold Stop; (with_reducible rename Fr _ _ _ _ => Fold); (with_reducible rename News _ _ _ _ => Nold); (first | refine signs_in Fold Nold X' T' spA (by decide +kernel) hTab hsl (by decide) hnm' rfl (Nat.le_of_ble_eq_true rfl) (Nat.le_of_ble_eq_true rfl) ?_ | refine signs_in Fold Nold X' T' spB (by decide +kernel) hTab hsl (by decide) hnm' rfl (Nat.le_of_ble_eq_true rfl) (Nat.le_of_ble_eq_true rfl) ?_); intro t' h' tk' F' N'; clear Fold Nold; k_steps) | skip)
    all_goals (try k_steps)
    · refine end_told (by assumption) (by assumption) rfl rfl rfl rfl ?_ hst hget (sp_star1 (by assumption) (by rw [← hlast]; exact neT (by assumption))) (by rw [ofS_nil]; exact List.push_toArray ..) (st_app hws) (by assumption)
      first | assumption | omega
    · refine end_told (by assumption) (by assumption) rfl rfl rfl rfl ?_ hst hget (sp_star2 (by assumption) (by rw [← hlast]; exact neF (by assumption))) rfl hws (by assumption)
      first | assumption | omega
    · refine end_told (by assumption) (by assumption) rfl rfl rfl rfl ?_ hst hget (sp_any (by assumption)) (by rw [ofS_dot, sApp]) hws (by assumption)
      first | assumption | omega
    · refine end_told (by assumption) (by assumption) rfl rfl rfl rfl ?_ hst hget (sp_is (by assumption) (neT (by assumption))) (by rw [sApp]) hws (by assumption)
      first | assumption | omega
    all_goals (refine end_told (by assumption) (by assumption) rfl rfl rfl rfl ?_ hst hget (sp_oth (by assumption) (by assumption) (by first | exact .inl (by assumption) | exact .inr (neF (by assumption))) (by first | exact fr_out (by assumption) | exact fr_e (by assumption) (pos_of hg (by assumption) (by assumption)) (by assumption) | exact fr_b (by assumption) (pos_of hg (by assumption) (by assumption)) (by assumption) | exact fr_n (by assumption) (pos_of hg (by assumption) (by assumption)) (by assumption) (by assumption))) (by first | rw [cat_e] | rw [cat_b] | rw [cat_n]) hws (by assumption))
    all_goals (first | assumption | omega))

theorem told_c {w : World} {E : Value → Shared → Prop} {s : Shared} {Q : Value → Shared → Prop}
    {p : Program} {loose : List Str} {mean : ExcName → Option Value} {mg mb : Str → Option Value}
    (X : (Mine.heapK w.params).In s.heap) (T : Top p loose mean mg mb s.heap) (htk : 1 ≤ s.toks) {l : Addr} {vs : List Value} {its : List Item} (hl : s.heap.IsList l vs.toArray) (hits : ItsAt s.heap vs its)
    (hlen : its.length ≤ 20) (hsg : ∀ it ∈ its, it.2.length ≤ 20) {mark : List Nat} {t : Tok} (hmk : mark.length ≤ 1) {d : Addr} {kvs : List (Str × Str)} {nm : Nat → List Nat}
    (hT : StrTab PySem.Challenge.rw_ij0039_01.row.prog w s.heap d (tabOfL kvs)) (hnm : ∀ it ∈ its, ∀ c ∈ it.2, NmOk kvs nm c)
    (hgood : ∀ it ∈ its, it.1 = .is ∨ it.1 = .ins ∨ it.1 = .out → it.2 ≠ [])
    (ret : ∀ t' h' tk', Keeps s.heap h' → 1 ≤ tk' → Q (.str (S (toldOf nm mark its)) t') { s with heap := h', toks := tk' }) :
    wpAny (model PySem.Challenge.rw_ij0039_01.row.prog w) (AtD 700 7000) (call (.ref 134) [.ref l, .str (S mark) t, .ref d]) Q E s :=
  wpAny_with_toks htk (told_c0 X T htk hl hits hlen hsg hmk hT hnm hgood fun t' h' tk' k ht => ret t' h' tk' k ht)
end Mine
end

section
open PySem PySem.W PyProof.Rows PySem.Spec PySem.Calls Builtin
namespace Mine
theorem if_so_ {α : Type} {M : Model} {A : Around} {E : Value → Shared → Prop} {s : Shared} {Q : α → Shared → Prop} {c : Prop} [Decidable c] {x y : Sem α} (hc : c) (h : wpAny M A x Q E s) : wpAny M A (if c then x else y) Q E s := by rw [if_pos hc]; exact h
noncomputable abbrev bObj (f self : Value) : Obj := { cls := .type "builtin_function_or_method", data := .fields #[f, self] }
theorem lk_list_append : typeLookup (.type "list") "append" = pure (some (.builtin "list.append")) := by rw [typeLookup_type, builtinLookup_eq_fast]; kernel_rfl
theorem lk_md_get : typeLookup (.type "method_descriptor") "__get__" = pure (some (.builtin "method_descriptor.__get__")) := by rw [typeLookup_type, builtinLookup_eq_fast]; kernel_rfl
theorem lk_md_set : typeLookup (.type "method_descriptor") "__set__" = pure none := by rw [typeLookup_type, builtinLookup_eq_fast]; kernel_rfl
theorem lk_md_del : typeLookup (.type "method_descriptor") "__delete__" = pure none := by rw [typeLookup_type, builtinLookup_eq_fast]; kernel_rfl
theorem sub_list_append_owner : isSubtype (.type "list") (.type (".".intercalate ("list.append".cutAt '.').dropLast)) = pure true := by
  rw [show ".".intercalate ("list.append".cutAt '.').dropLast = "list" by kernel_rfl, isSubtype_type]; kernel_rfl
theorem entry_md_get : entryFor table "method_descriptor.__get__" = some Builtin.«method_descriptor.__get__» := entryFor_of_tree (by kernel_rfl)
theorem slot_md_get : Slot "method_descriptor" "__get__" "method_descriptor.__get__" :=
  .of (owner := "method_descriptor") (n := "__get__") (by rw [typeLookup_type, builtinLookup_eq_fast]; kernel_rfl) (by decide +kernel) (by decide +kernel) (by decide +kernel)
    (by first | exact .inl (by decide +kernel) | exact .inr (by decide +kernel)) (by rw [isSubtype_type]; kernel_rfl)
theorem args_md_get (a b c : Value) : argsOk "method_descriptor.__get__" ⟨[a, b, c], []⟩ := by unfold argsOk; kernel_rfl

section
variable {prog : Program} {w : World} {A : Around} {E : Value → Shared → Prop} {h : Heap} {g : Array GenState} {d : Drawn} {t : Nat} {os : OsState} {a : Addr} {o : Obj}

theorem append_get {R : Result → Shared → Prop} (hx : h.get? a = some o) (hc : o.cls = .type "list") (hq : R (.ok (.ret (.ref h.objs.size))) ⟨h.push (bObj (.builtin "list.append") (.ref a)), g, d, t, os⟩) :
    codeAny (model prog w) A (.call (.builtin "method_descriptor.__get__") ⟨[.builtin "list.append", .ref a, .type "list"], []⟩) R ⟨h, g, d, t, os⟩ := by
  have hT : (⟨h, g, d, t, os⟩ : Shared).TypeIs (.ref a) "list" := ⟨_, hx, hc⟩
  have hT5 : (⟨h, g, d, t, os⟩ : Shared).TypeIs (.builtin "list.append") "method_descriptor" := type_list_append
  have f8 := sub_list_append_owner
  have f9 : Manifest.toldItsClass.contains "list.append" = false := by decide +kernel
  refine codeAny_call_builtin slot_md_get.plain entry_md_get (slot_md_get.check _ _ _ _ _ _ _ _ hT5 (args_md_get _ _ _) ?_)
  repeat (any_goals (first | assumption | wp_step))

theorem append_entry {its : Array Value} {n : Nat} {tk : Tok} {Q : Fin → Shared → Prop} (hx : h.get? a = some (W.listOf its n))
    (hq : Q (.done (.ret (.ref h.objs.size))) ⟨h.push (bObj (.builtin "list.append") (.ref a)), g, d, t, os⟩) :
    wpAny (model prog w) A (Builtin.«object.__getattribute__» ⟨[.ref a, .str "append" tk], []⟩) Q E ⟨h, g, d, t, os⟩ := by
  have hT : (⟨h, g, d, t, os⟩ : Shared).TypeIs (.ref a) "list" := ⟨_, hx, rfl⟩
  have f4 := lk_list_append
  have f5 := type_list_append
  have f6 := lk_md_get
  have f7 := lk_md_set
  have f8 := lk_md_del
  have hx' : h.get? a = some { cls := .type "list", dict := none, data := .seq its n, slots := #[] } := hx
  unfold Builtin.«object.__getattribute__»
  repeat (any_goals (first | assumption | wp_step))
  exact append_get hx rfl (wpAny_pure hq)

theorem append_attr {its : Array Value} {n : Nat} {Q : Value → Shared → Prop} (hx : h.get? a = some (W.listOf its n))
    (hq : Q (.ref h.objs.size) ⟨h.push (bObj (.builtin "list.append") (.ref a)), g, d, t + 1, os⟩) :
    wpAny (model prog w) A (getAttr (.ref a) "append" true) Q E ⟨h, g, d, t, os⟩ := by
  have hT : ∀ tk', (⟨h, g, d, tk', os⟩ : Shared).TypeIs (.ref a) "list" := fun _ => ⟨_, hx, rfl⟩
  have f3 := F.slot_list_getattribute.lookup
  have f4 := F.slot_list_getattribute.bind (.ref a)
  unfold getAttr getAttrBy
  repeat (any_goals (first | assumption | exact hT _ | ((with_reducible show wpAny _ _ (call (Value.builtin "list.__getattribute__") _ _) _ _ _); refine wpAny_call (codeAny_call_builtin F.slot_list_getattribute.plain F.entry_list_ga (F.slot_list_getattribute.check _ _ _ _ _ _ _ _ (hT _) (F.args_list_getattribute_2 _ _) (append_entry hx ?_)))) | wp_step))

noncomputable abbrev sgA : Manifest.Signature := ⟨.oneArg, "list.append", "append", .self, [⟨"object", .posOnly, true⟩]⟩
theorem sig_append : Manifest.signature? "list.append" = some sgA := by kernel_rfl
theorem chk_append (a b : Value) : Bind.checkArgs "list.append" sgA ⟨[a, b], []⟩ = pure () := by kernel_rfl
theorem kind_append : builtinKind "list.append" = some .method := by decide +kernel
theorem sub_list_module : isSubtype (.type "list") (.type "module") = pure false := by rw [isSubtype_type]; kernel_rfl
theorem sub_list_type : isSubtype (.type "list") (.type "type") = pure false := by rw [isSubtype_type]; kernel_rfl
theorem check_bound {x : Value} {s : Shared} {its : Array Value} {n : Nat} {Q : Unit → Shared → Prop} (hx : s.heap.get? a = some (W.listOf its n)) (hq : Q () s) : wpAny (model prog w) A (checkBoundCall "list.append" ⟨[.ref a, x], []⟩) Q E s := by
  obtain ⟨h, g, d, t, os⟩ := s
  have hT : (⟨h, g, d, t, os⟩ : Shared).TypeIs (.ref a) "list" := ⟨_, hx, rfl⟩
  have hx' : h.get? a = some { cls := .type "list", dict := none, data := .seq its n, slots := #[] } := hx
  have f3 := chk_append (.ref a) x
  have f1 := sub_list_module
  have f2 := sub_list_type
  unfold checkBoundCall
  rw [sig_append, kind_append]
  simp only []
  rw [if_neg (by decide +kernel)]
  repeat (any_goals (first | assumption | wp_step))

theorem bound_append {q : Addr} {x : Value} {s : Shared} {its : Array Value} {n : Nat} {Q : Value → Shared → Prop} (ho : s.heap.get? q = some (bObj (.builtin "list.append") (.ref a))) (hx : s.heap.get? a = some (W.listOf its n))
    (hq : ∀ h', Heap.SameBut a s.heap h' → h'.get? a = some (W.listOf (its.push x) (n + 1)) → Q .none { s with heap := h' }) (hsz : its.size ≤ sizeLine) : wpAny (model prog w) A (call (.ref q) [x]) Q E s := by
  refine wpAny_call (codeAny_of_tree ?_)
  show wpAny _ A.in1 (callAny (.ref q) ⟨[x], []⟩) _ _ s
  simp only [callAny]
  refine wpAny_bind (wpAny_load ho ?_)
  simp only [bObj, show (Value.type "builtin_function_or_method" == Value.type "method" || Value.type "builtin_function_or_method" == Value.type "builtin_function_or_method" || Value.type "builtin_function_or_method" == Value.type "method-wrapper") = true by decide, if_true]
  refine if_so_ (by decide) ?_
  refine wpAny_bind (check_bound hx ?_)
  refine wpAny_bind (wpAny_pure (wpAny_pure ?_))
  refine ⟨Code.quiet_builtin _ (by decide +kernel), codeAny_builtin entry_list_append ?_⟩
  show wpAny _ _ (updateSeq a (·.push x) >>= fun _ => ret .none) _ _ s
  refine wpAny_bind ?_
  refine wpAny_updateSeq hx rfl (wpAny_pure (hq _ (Heap.SameBut.update ..) ?_))
  rw [Heap.get?_update_self _ hx (by rw [mapSeq_push]; rfl), mapSeq_push]
end

section
variable {prog : Program} {w : World} {A : Around} {E : Value → Shared → Prop} {s : Shared} {h₀ : Heap} {L D q : Addr} {m : Str → Option Value} {news news' : List (Addr × Obj)}
theorem append_attr_K {its : Array Value} {n : Nat} {Q : Value → Shared → Prop} (F : Fr h₀ L s.heap m) (N : News h₀ L s.heap news) (hm : (D, W.listOf its n) ∈ news)
    (h : ∀ q h', Fr h₀ L h' m → News h₀ L h' ((q, bObj (.builtin "list.append") (.ref D)) :: news) → (∀ p ∈ news, p.1 < q) → Q (.ref q) { s with heap := h', toks := s.toks + 1 }) : wpAny (model prog w) A (getAttr (.ref D) "append" true) Q E s := by
  obtain ⟨hh, g, d, t, os⟩ := s
  exact append_attr (N _ hm).1 (h _ _ (F.push _) (N.push F _) fun p hp => Heap.lt_size (N p hp).1)
theorem bound_append_K {its : Array Value} {n : Nat} {x : Value} {Q : Value → Shared → Prop} (F : Fr h₀ L s.heap m) (N : News h₀ L s.heap news) (hq : (q, bObj (.builtin "list.append") (.ref D)) ∈ news)
    (U : Upd D (W.listOf its n) (W.listOf (its.push x) (n + 1)) news news')
    (h : ∀ h', Fr h₀ L h' m → News h₀ L h' news' → Q .none { s with heap := h' }) (hsz : its.size ≤ sizeLine) : wpAny (model prog w) A (call (.ref q) [x]) Q E s := by
  obtain ⟨pre, post, rfl, rfl, a, b⟩ := U.split
  have z := N (D, W.listOf its n) (List.mem_append.mpr (.inr (.head _)))
  exact bound_append (hsz := hsz) (N _ hq).1 z.1 fun h' hs ho' => h h' (F.change hs z.2.1 z.2.2) (news_set N a b hs ho')
end
end Mine
end

section
open PySem PySem.W PyProof.Rows PySem.Spec PySem.Calls
namespace Mine
/-- the two ways on from a loop's test -/
noncomputable def WTest (P R : Shared → Prop) (b : Bool) (s : Shared) : Prop := if b = true then P s else R s
theorem WTest.yes {P R : Shared → Prop} {s : Shared} (h : P s) : WTest P R true s := h
theorem WTest.no {P R : Shared → Prop} {s : Shared} (h : R s) : WTest P R false s := h
noncomputable def WEnd (h₀ : Heap) (L : Addr) (s : Shared) (J : Nat → (Str → Option Value) → List (Addr × Obj) → Prop) (n : Nat) (Q : Flow → Shared → Prop) (f : Flow) (s₃ : Shared) : Prop :=
  (f = .next ∧ ∃ h' tk m₂ news₂ n', s₃ = { s with heap := h', toks := tk } ∧ Fr h₀ L h' m₂ ∧ News h₀ L h' news₂ ∧ n' < n ∧ J n' m₂ news₂) ∨ (f = .brk ∧ Q .next s₃)
theorem WEnd.next {h₀ h' : Heap} {L : Addr} {s : Shared} {J : Nat → (Str → Option Value) → List (Addr × Obj) → Prop} {n n' tk : Nat} {m₂ : Str → Option Value} {news₂ : List (Addr × Obj)} {Q : Flow → Shared → Prop}
    (F : Fr h₀ L h' m₂) (N : News h₀ L h' news₂) (hn : n' < n) (hJ : J n' m₂ news₂) : WEnd h₀ L s J n Q .next { s with heap := h', toks := tk } :=
  .inl ⟨rfl, h', tk, m₂, news₂, n', rfl, F, N, hn, hJ⟩
theorem WEnd.brk {h₀ : Heap} {L : Addr} {s s₃ : Shared} {J : Nat → (Str → Option Value) → List (Addr × Obj) → Prop} {n : Nat} {Q : Flow → Shared → Prop} (h : Q .next s₃) : WEnd h₀ L s J n Q .brk s₃ := .inr ⟨rfl, h⟩

theorem while_k {prog : Program} {w : World} {A : Around} {E : Value → Shared → Prop} {Q : Flow → Shared → Prop} {s : Shared} {env : Env} {h₀ : Heap} {L : Addr}
    {test : Expr} {body : List Stmt} {pos : Pos} {m : Str → Option Value} {news : List (Addr × Obj)} (J : Nat → (Str → Option Value) → List (Addr × Obj) → Prop) {n₀ : Nat}
    (ht : 1 ≤ s.toks) (F : Fr h₀ L s.heap m) (N : News h₀ L s.heap news) (hJ : J n₀ m news)
    (turn : ∀ n m₁ news₁ h₁ tk₁, 1 ≤ tk₁ → Fr h₀ L h₁ m₁ → News h₀ L h₁ news₁ → J n m₁ news₁ →
      wpAny (model prog w) A (isTrue test env (eval test env)) (WTest (wpAny (model prog w) A (execs body env) (WEnd h₀ L s J n Q) E) (Q .next)) E { s with heap := h₁, toks := tk₁ })
    (hE : PassesOwn (model prog w) A env E := by passes_own) :
    wpAny (model prog w) A (exec (.While test body [] pos) env) Q E s := by
  refine wpAny_While (codeAny_whileLoop (fun n s' => ∃ h₁ tk₁ m₁ news₁, s' = { s with heap := h₁, toks := tk₁ } ∧ 1 ≤ tk₁ ∧ Fr h₀ L h₁ m₁ ∧ News h₀ L h₁ news₁ ∧ J n m₁ news₁) ?_ n₀ ⟨s.heap, s.toks, m, news, rfl, ht, F, N, hJ⟩)
  rintro n s' ⟨h₁, tk₁, m₁, news₁, rfl, ht₁, F₁, N₁, J₁⟩
  refine wpAny_mono (wpAny_toks_of ht₁ (turn n m₁ news₁ h₁ tk₁ ht₁ F₁ N₁ J₁)) (fun b s₂ h₂ => ?_) fun e s₂ h₂ => hE _ _ h₂.2
  obtain ⟨hs₂, h₂⟩ := h₂
  cases b with
  | false => exact wpAny_execs_nil h₂
  | true =>
    refine wpAny_mono (wpAny_toks_of hs₂ (h₂ : wpAny _ _ _ _ _ _)) (fun f s₃ h₃ => ?_) fun e s₂ h₂ => hE _ _ h₂.2
    obtain ⟨hs₃, h₃⟩ := h₃
    rcases h₃ with ⟨rfl, h', tk, m₂, news₂, n', rfl, F₂, N₂, hn, J₂⟩ | ⟨rfl, h₃⟩
    · exact ⟨n', hn, h', tk, m₂, news₂, rfl, hs₃, F₂, N₂, J₂⟩
    · exact h₃

inductive Pc where
  | star
  | lit (l : List Nat)
  deriving DecidableEq
inductive PAre (sa : Addr) : List Value → List Pc → Prop
  | nil : PAre sa [] []
  | star {vs ps} : PAre sa vs ps → PAre sa (.ref sa :: vs) (.star :: ps)
  | lit (l t) {vs ps} : PAre sa vs ps → PAre sa (.str (S l) t :: vs) (.lit l :: ps)
theorem PAre.length {sa : Addr} {vs ps} (h : PAre sa vs ps) : vs.length = ps.length := by
  induction h with
  | nil => rfl
  | star _ ih => simp [ih]
  | lit _ _ _ ih => simp [ih]
theorem PAre.at {sa : Addr} {vs ps} (h : PAre sa vs ps) : ∀ (i : Nat), i < ps.length → (ps[i]? = some .star ∧ vs[i]? = some (.ref sa)) ∨ ∃ l t, ps[i]? = some (.lit l) ∧ vs[i]? = some (.str (S l) t) := by
  induction h with
  | nil => intro i e; simp at e
  | star _ ih =>
    intro i e
    cases i with
    | zero => exact .inl ⟨rfl, rfl⟩
    | succ i => simpa using ih i (by simpa using e)
  | lit l t _ ih =>
    intro i e
    cases i with
    | zero => exact .inr ⟨l, t, rfl, rfl⟩
    | succ i => simpa using ih i (by simpa using e)
theorem PAre.append {sa : Addr} {vs ps vs' ps'} (h : PAre sa vs ps) (g : PAre sa vs' ps') : PAre sa (vs ++ vs') (ps ++ ps') := by
  induction h with
  | nil => exact g
  | star _ ih => exact .star ih
  | lit l t _ ih => exact .lit l t ih

theorem item_get {prog : Program} {w : World} {A : Around} {E : Value → Shared → Prop} {s : Shared} {l : Addr} {vs : List Value} {v : Value} {k : Int} {j : Nat} {u : Tok} {value slice : Expr} {Q : Value → Shared → Prop} (hl : s.heap.IsList l vs.toArray) (hk : k = (j : Int)) (hlen : vs.length ≤ 1000000)
    (hv : vs[j]? = some v) (h : Q v s)
    (hs : subscripted slice false (.ref l) (.int k u) = operate [.ref l, .int k u] (getItem (.ref l) (.int k u)) := by with_unfolding_all rfl) :
    wpAny (model prog w) A (subscriptTail value slice (.ref l) (.int k u)) Q E s := by
  subst hk
  have hj : j < vs.length := (List.getElem?_eq_some_iff.mp hv).1
  refine tail_any hl.typeIs slot_list_getitem.lookup (wpAny_getItem_list hl (by omega) (by omega) (x := v) ?_ h) hs
  simpa using hv
end Mine
end

section
open PySem PySem.W PyProof.Rows PySem.Spec PySem.Calls
namespace Mine
local macro_rules | `(tactic| walk_at "execs cons") => `(tactic| (k_here; (fail_if_success (fail_if_success k_gentoks)); refine gen_toks (by (try dsimp only); omega) ?_; intro tk htk))
local macro_rules | `(tactic| walk_at "execs nil") => `(tactic| (k_here; (fail_if_success (fail_if_success k_gentoks)); refine gen_toks (by (try dsimp only); omega) ?_; intro tk htk))
local macro_rules | `(tactic| walk_at "exec While") => `(tactic| (k_here; refine stop ?_))
local macro_rules | `(tactic| walk_at "call builtin:str.join") => `(tactic| (k_here; refine stop ?_))
local macro_rules | `(tactic| walk_at "getAttr") => `(tactic| (k_here; (with_reducible show wpAny _ _ (getAttr (Value.ref _) _ _) _ _ _); refine append_attr_K (by assumption) (by assumption) (by k_mem) ?_; intro q' h' F' N' l1; (try k_lt l1); (try k_sweep)))

local macro_rules | `(tactic| walk_at "call builtin:len") => `(tactic| (k_here; (with_reducible show wpAny _ _ (call (Value.builtin "len") [Value.ref _]) _ _ _); refine call_len_list (Fr.lst (by assumption) (by assumption)) ?_ ?_; (focus (simp only [List.size_toArray]; omega)); try simp only [List.size_toArray]))
local macro_rules | `(tactic| walk_at "compareOp IsNot") => `(tactic| (k_here; first | refine wpAny_isNot_ref_self ?_ | refine wpAny_isNot_other (by rfl) (by intro x; cases x) ?_))
local macro_rules | `(tactic| walk_at "compareOp IsNot ref ref") => `(tactic| (k_here; first | refine wpAny_isNot_ref_self ?_ | refine wpAny_isNot_other (by rfl) (by intro x; cases x) ?_))
local macro_rules | `(tactic| walk_at "compareOp IsNot str ref") => `(tactic| (k_here; first | refine wpAny_isNot_ref_self ?_ | refine wpAny_isNot_other (by rfl) (by intro x; cases x) ?_))
local macro_rules | `(tactic| walk_at "compareOp Is") => `(tactic| (k_here; first | refine wpAny_is_ref_self ?_ | refine wpAny_is_other (by rfl) (by intro x; cases x) ?_))
local macro_rules | `(tactic| walk_at "compareOp Is ref ref") => `(tactic| (k_here; first | refine wpAny_is_ref_self ?_ | refine wpAny_is_other (by rfl) (by intro x; cases x) ?_))
local macro_rules | `(tactic| walk_at "compareOp Is str ref") => `(tactic| (k_here; first | refine wpAny_is_ref_self ?_ | refine wpAny_is_other (by rfl) (by intro x; cases x) ?_))
noncomputable def itemI (vs : List Value) (k : Int) : Option Value := vs[k.toNat]?
theorem item_get2 {prog : Program} {w : World} {A : Around} {E : Value → Shared → Prop} {s : Shared} {l : Addr} {vs : List Value} {v : Value} {k : Int} {u : Tok} {value slice : Expr} {Q : Value → Shared → Prop} (hl : s.heap.IsList l vs.toArray) (hlen : vs.length ≤ 1000000)
    (hv : itemI vs k = some v) (h0 : 0 ≤ k) (h : Q v s)
    (hs : subscripted slice false (.ref l) (.int k u) = operate [.ref l, .int k u] (getItem (.ref l) (.int k u)) := by with_unfolding_all rfl) :
    wpAny (model prog w) A (subscriptTail value slice (.ref l) (.int k u)) Q E s :=
  item_get (j := k.toNat) hl (by omega) hlen hv h hs
theorem itemI_nat {vs : List Value} {j : Nat} {k : Int} {v : Value} (h : vs[j]? = some v) (e : k = (j : Int)) : itemI vs k = some v := by subst e; exact h
local macro_rules | `(tactic| walk_at "subscriptTail") => `(tactic| (k_here; (with_reducible show wpAny _ _ (subscriptTail _ _ (Value.ref _) (Value.int _ _)) _ _ _); refine item_get2 (Fr.lst (by assumption) (by assumption)) (by omega) (by assumption) (by omega) ?_))
local macro_rules | `(tactic| walk_at "subscriptTail Name Name ref int") => `(tactic| (k_here; (with_reducible show wpAny _ _ (subscriptTail _ _ (Value.ref _) (Value.int _ _)) _ _ _); refine item_get2 (Fr.lst (by assumption) (by assumption)) (by omega) (by assumption) (by omega) ?_))
local macro_rules | `(tactic| k_all) => `(tactic| assumption)
local macro_rules | `(tactic| k_mem) => `(tactic| assumption)
local macro_rules | `(tactic| walk_at "call ref") => `(tactic| (k_here; refine' bound_append_K ?F ?N ?q ?U ?_ ?z; (case F => k_asm); (case N => k_asm); (case q => exact .head _); (case U => k_upd); (case z => rw [sizeLine_eq]; simp only [Array.size_push, List.size_toArray]; omega); k_whole; intro h' F' N'; (try k_sweep)))

noncomputable def BndP (q D : Addr) (h : Heap) : Prop := h.get? q = some (bObj (.builtin "list.append") (.ref D))
theorem keeps_B {M : Model} {q D : Addr} (h : Heap) (X : BndP q D h) : ∃ k, (k = Keeper.frame ∨ k = Keeper.machine ∨ k = Keeper.boundFrame) ∧ Looks M h (keeperOf (.ref q)) k :=
  ⟨.machine, .inr (.inl rfl), (Looks.ld (part := none) X).andThen .now⟩
theorem callWith_B {M : Model} {A : Around} {E : Value → Shared → Prop} {s : Shared} {env : Env} {pos : Pos} {first : List Value} {Q : Value → Shared → Prop} {h₀ : Heap} {L : Addr} {news : List (Addr × Obj)} {q D : Addr} {e : Expr} {rest : List Expr} (_N : News h₀ L s.heap news) (_q : (q, bObj (.builtin "list.append") (.ref D)) ∈ news)
    (h : wpAny M A (spliced (backTo pos (starEach (e :: rest) env))) (fun vs s₁ => BndP q D s₁.heap ∧ wpAny M A (call (.ref q) (first ++ vs)) Q E s₁) E s)
    (he : starEach (e :: rest) env = (false, eval e env) :: starEach rest env := by rfl) (hplain : (backTo pos (starEach rest env)).any (·.1) = false := by rfl) :
    wpAny M A (callWith pos (.ref q) first (backTo pos (starEach (e :: rest) env)) []) Q E s := by
  rw [he] at h ⊢
  exact callWith_of (by show ((false || (backTo pos (starEach rest env)).any (·.1)) || false) = false; rw [hplain]; rfl) keeps_B (evalArgs_plain h)
theorem bndP {h₀ : Heap} {L : Addr} {h : Heap} {news : List (Addr × Obj)} {q D : Addr} (N : News h₀ L h news) (hq : (q, bObj (.builtin "list.append") (.ref D)) ∈ news) : BndP q D h := (N _ hq).1
local macro_rules | `(tactic| walk_at "callWith") => `(tactic| (k_here; (with_reducible show wpAny _ _ (callWith _ (Value.ref _) _ _ _) _ _ _); refine callWith_B (by assumption) (by first | exact .head _ | exact .tail _ (.head _)) ?_))
local macro_rules | `(tactic| walk_at "callWith ref") => `(tactic| (k_here; (with_reducible show wpAny _ _ (callWith _ (Value.ref _) _ _ _) _ _ _); refine callWith_B (by assumption) (by first | exact .head _ | exact .tail _ (.head _)) ?_))
local macro_rules | `(tactic| walk_at "And") => `(tactic| ((with_reducible show BndP _ _ _ ∧ _); refine And.intro (bndP (by assumption) (by first | exact .head _ | exact .tail _ (.head _))) ?_))

local macro_rules | `(tactic| walk_at "BndP") => `(tactic| (exact bndP (by assumption) (by first | exact .head _ | exact .tail _ (.head _))))

noncomputable def isLit : Pc → Bool | .lit _ => true | .star => false
noncomputable def litOf : Pc → List Nat | .lit l => l | .star => []
noncomputable def lits (ps : List Pc) : List Nat := ((ps.takeWhile isLit).map litOf).flatten
noncomputable def joinG : Nat → List Pc → List Nat
  | f + 1, .star :: r => if r = [] then [46, 42] else if r.dropWhile isLit = [] then [46, 42] ++ lits r else [40, 63, 62, 46, 42, 63] ++ lits r ++ [41] ++ joinG f (r.dropWhile isLit)
  | _, _ => []
noncomputable def joinP (ps : List Pc) : List Nat := [40, 63, 115, 58] ++ (lits ps ++ joinG ps.length (ps.dropWhile isLit)) ++ [41, 92, 90]

theorem frame6 {m' : Str → Option Value} {a b c d e f : Str} {va vb vc vd ve vf : Option Value} (h1 : m' a = va) (h2 : m' b = vb) (h3 : m' c = vc) (h4 : m' d = vd) (h5 : m' e = ve) (h6 : m' f = vf) :
    m' = fun z => if z = a then va else if z = b then vb else if z = c then vc else if z = d then vd else if z = e then ve else if z = f then vf else m' z := by
  funext z
  by_cases h : z = a
  · rw [if_pos h, h, h1]
  · rw [if_neg h]
    by_cases h : z = b
    · rw [if_pos h, h, h2]
    · rw [if_neg h]
      by_cases h : z = c
      · rw [if_pos h, h, h3]
      · rw [if_neg h]
        by_cases h : z = d
        · rw [if_pos h, h, h4]
        · rw [if_neg h]
          by_cases h : z = e
          · rw [if_pos h, h, h5]
          · rw [if_neg h]
            by_cases h : z = f
            · rw [if_pos h, h, h6]
            · rw [if_neg h]
theorem WTest.yes' {P R : Shared → Prop} {b : Bool} {s : Shared} (hb : b = true) (h : P s) : WTest P R b s := by subst hb; exact h
theorem WTest.no' {P R : Shared → Prop} {b : Bool} {s : Shared} (hb : b = false) (h : R s) : WTest P R b s := by subst hb; exact h
noncomputable def LoopOut (h₀ : Heap) (L : Addr) (s : Shared) (P : (Str → Option Value) → List (Addr × Obj) → Prop) (f : Flow) (s₃ : Shared) : Prop :=
  f = .next ∧ ∃ h' tk m₂ news₂, s₃ = { s with heap := h', toks := tk } ∧ Fr h₀ L h' m₂ ∧ News h₀ L h' news₂ ∧ P m₂ news₂
theorem LoopOut.intro {h₀ h' : Heap} {L : Addr} {s : Shared} {P : (Str → Option Value) → List (Addr × Obj) → Prop} {tk : Nat} {m₂ : Str → Option Value} {news₂ : List (Addr × Obj)} (F : Fr h₀ L h' m₂) (N : News h₀ L h' news₂) (hP : P m₂ news₂) :
    LoopOut h₀ L s P .next { s with heap := h', toks := tk } := ⟨rfl, h', tk, m₂, news₂, rfl, F, N, hP⟩
noncomputable def J1 (l sa D q : Addr) (ps : List Pc) (i : Nat) (m : Str → Option Value) (nw : List (Addr × Obj)) : Prop :=
  ∃ (u : Str → Option Value) (ti tn : Tok) (ws : List Value) (k : Nat), m = (fun z => if z = Str.ofString "i" then some (.int (i : Int) ti) else if z = Str.ofString "n" then some (.int (ps.length : Int) tn) else
    if z = Str.ofString "add" then some (.ref q) else if z = Str.ofString "res" then some (.ref D) else if z = Str.ofString "inp" then some (.ref l) else if z = Str.ofString "STAR" then some (.ref sa) else u z) ∧
    nw = [(q, bObj (.builtin "list.append") (.ref D)), (D, W.listOf ws.toArray k)] ∧ StrsAre ws (((ps.take i).map litOf).map S) ∧ i ≤ (ps.takeWhile isLit).length
theorem tw_star {ps : List Pc} {i : Nat} (h : i ≤ (ps.takeWhile isLit).length) (hp : ps[i]? = some .star) : i = (ps.takeWhile isLit).length := by
  induction ps generalizing i with
  | nil => simp at hp
  | cons p r ih =>
    cases p with
    | star => simp [List.takeWhile, isLit] at h ⊢; exact h
    | lit x =>
      cases i with
      | zero => simp at hp
      | succ i =>
        simp only [List.takeWhile, isLit, List.length_cons] at h ⊢
        have := ih (i := i) (by omega) (by simpa using hp)
        omega
theorem tw_lit {ps : List Pc} {i : Nat} {x : List Nat} (h : i ≤ (ps.takeWhile isLit).length) (hp : ps[i]? = some (.lit x)) : i + 1 ≤ (ps.takeWhile isLit).length := by
  induction ps generalizing i with
  | nil => simp at hp
  | cons p r ih =>
    cases p with
    | star =>
      simp [List.takeWhile, isLit] at h
      subst h; simp at hp
    | lit y =>
      cases i with
      | zero => simp [List.takeWhile, isLit]
      | succ i =>
        simp only [List.takeWhile, isLit, List.length_cons] at h ⊢
        have := ih (i := i) (by omega) (by simpa using hp)
        omega
theorem tw_end {ps : List Pc} {i : Nat} (h : i ≤ (ps.takeWhile isLit).length) (hp : ps.length ≤ i) : i = (ps.takeWhile isLit).length := by
  have := (List.takeWhile_sublist isLit (l := ps)).length_le
  omega
theorem take_snoc {ps : List Pc} {i : Nat} {x : List Nat} (hp : ps[i]? = some (.lit x)) : (ps.take (i + 1)).map litOf = (ps.take i).map litOf ++ [x] := by
  rw [List.take_add_one, hp]; simp [litOf]
theorem take_tw {ps : List Pc} : ps.take (ps.takeWhile isLit).length = ps.takeWhile isLit := by
  induction ps with
  | nil => rfl
  | cons p r ih => cases p <;> simp [List.takeWhile, isLit, ih]
theorem drop_tw {ps : List Pc} : ps.drop (ps.takeWhile isLit).length = ps.dropWhile isLit := by
  induction ps with
  | nil => rfl
  | cons p r ih => cases p <;> simp [List.takeWhile, List.dropWhile, isLit, ih]
theorem j1_next {h₀ h' : Heap} {L l sa D q : Addr} {s : Shared} {ps : List Pc} {i : Nat} {m' : Str → Option Value} {arr : Array Value} {wsN : List Value} {k' tk : Nat} {ti tn : Tok} {x : List Nat} {ii : Int} {Q : Flow → Shared → Prop}
    (F : Fr h₀ L h' m') (N : News h₀ L h' [(q, bObj (.builtin "list.append") (.ref D)), (D, W.listOf arr k')]) (hi : i ≤ (ps.takeWhile isLit).length) (hp : ps[i]? = some (.lit x))
    (h1 : m' (Str.ofString "i") = some (.int ii ti)) (hii : ii = ((i + 1 : Nat) : Int)) (h2 : m' (Str.ofString "n") = some (.int (ps.length : Int) tn)) (h3 : m' (Str.ofString "add") = some (.ref q)) (h4 : m' (Str.ofString "res") = some (.ref D))
    (h5 : m' (Str.ofString "inp") = some (.ref l)) (h6 : m' (Str.ofString "STAR") = some (.ref sa)) (harr : arr = wsN.toArray) (hws : StrsAre wsN (((ps.take i).map litOf ++ [x]).map S)) :
    WEnd h₀ L s (fun n m nw => ∃ i, n = ps.length - i ∧ J1 l sa D q ps i m nw) (ps.length - i) Q .next { s with heap := h', toks := tk } := by
  subst hii harr
  have hlt : i < ps.length := (List.getElem?_eq_some_iff.mp hp).1
  refine WEnd.next (n' := ps.length - (i + 1)) F N (by omega) ⟨i + 1, rfl, m', ti, tn, wsN, k', frame6 h1 h2 h3 h4 h5 h6, rfl, ?_, tw_lit hi hp⟩
  rw [take_snoc hp]; exact hws

theorem frame7 {m' : Str → Option Value} {a b c d e f g : Str} {va vb vc vd ve vf vg : Option Value} (h1 : m' a = va) (h2 : m' b = vb) (h3 : m' c = vc) (h4 : m' d = vd) (h5 : m' e = ve) (h6 : m' f = vf) (h7 : m' g = vg) :
    m' = fun z => if z = a then va else if z = b then vb else if z = c then vc else if z = d then vd else if z = e then ve else if z = f then vf else if z = g then vg else m' z := by
  funext z
  by_cases h : z = a
  · rw [if_pos h, h, h1]
  · rw [if_neg h]
    by_cases h : z = b
    · rw [if_pos h, h, h2]
    · rw [if_neg h]
      by_cases h : z = c
      · rw [if_pos h, h, h3]
      · rw [if_neg h]
        by_cases h : z = d
        · rw [if_pos h, h, h4]
        · rw [if_neg h]
          by_cases h : z = e
          · rw [if_pos h, h, h5]
          · rw [if_neg h]
            by_cases h : z = f
            · rw [if_pos h, h, h6]
            · rw [if_neg h]
              by_cases h : z = g
              · rw [if_pos h, h, h7]
              · rw [if_neg h]
noncomputable def J2 (l sa D q : Addr) (ps : List Pc) (total : List Nat) (i : Nat) (m : Str → Option Value) (nw : List (Addr × Obj)) : Prop :=
  ∃ (u : Str → Option Value) (ti tn : Tok) (ws : List Value) (k : Nat) (outs : List (List Nat)) (f : Nat), m = (fun z => if z = Str.ofString "i" then some (.int (i : Int) ti) else if z = Str.ofString "n" then some (.int (ps.length : Int) tn) else
    if z = Str.ofString "add" then some (.ref q) else if z = Str.ofString "res" then some (.ref D) else if z = Str.ofString "inp" then some (.ref l) else if z = Str.ofString "STAR" then some (.ref sa) else u z) ∧
    nw = [(q, bObj (.builtin "list.append") (.ref D)), (D, W.listOf ws.toArray k)] ∧ StrsAre ws (outs.map S) ∧ outs.flatten ++ joinG f (ps.drop i) = total ∧ (ps.drop i).length ≤ f ∧ i ≤ ps.length ∧ (i < ps.length → ps[i]? = some .star) ∧ outs.length ≤ 3 * i
noncomputable def Out2 (l sa D q : Addr) (ps : List Pc) (total : List Nat) (m : Str → Option Value) (nw : List (Addr × Obj)) : Prop :=
  ∃ (u : Str → Option Value) (ti tn : Tok) (ws : List Value) (k : Nat) (outs : List (List Nat)), m = (fun z => if z = Str.ofString "i" then some (.int (ps.length : Int) ti) else if z = Str.ofString "n" then some (.int (ps.length : Int) tn) else
    if z = Str.ofString "add" then some (.ref q) else if z = Str.ofString "res" then some (.ref D) else if z = Str.ofString "inp" then some (.ref l) else if z = Str.ofString "STAR" then some (.ref sa) else u z) ∧
    nw = [(q, bObj (.builtin "list.append") (.ref D)), (D, W.listOf ws.toArray k)] ∧ StrsAre ws (outs.map S) ∧ outs.flatten = total ∧ outs.length ≤ 3 * ps.length + 3
noncomputable def J3 (l sa D q G : Addr) (ps : List Pc) (ws : List Value) (k b : Nat) (c : Nat) (m : Str → Option Value) (nw : List (Addr × Obj)) : Prop :=
  ∃ (u : Str → Option Value) (ti tn : Tok) (xs : List Value) (j : Nat), m = (fun z => if z = Str.ofString "i" then some (.int ((b + c : Nat) : Int) ti) else if z = Str.ofString "n" then some (.int (ps.length : Int) tn) else
    if z = Str.ofString "add" then some (.ref q) else if z = Str.ofString "res" then some (.ref D) else if z = Str.ofString "inp" then some (.ref l) else if z = Str.ofString "STAR" then some (.ref sa) else if z = Str.ofString "fixed" then some (.ref G) else u z) ∧
    nw = [(G, W.listOf xs.toArray j), (q, bObj (.builtin "list.append") (.ref D)), (D, W.listOf ws.toArray k)] ∧ StrsAre xs ((((ps.drop b).take c).map litOf).map S) ∧ c ≤ ((ps.drop b).takeWhile isLit).length
theorem j3_next {h₀ h' : Heap} {L l sa D q G : Addr} {s : Shared} {ps : List Pc} {ws : List Value} {k b c : Nat} {m' : Str → Option Value} {arr : Array Value} {xsN : List Value} {k' tk : Nat} {ti tn : Tok} {x : List Nat} {ii : Int} {Q : Flow → Shared → Prop}
    (F : Fr h₀ L h' m') (N : News h₀ L h' [(G, W.listOf arr k'), (q, bObj (.builtin "list.append") (.ref D)), (D, W.listOf ws.toArray k)]) (hi : c ≤ ((ps.drop b).takeWhile isLit).length) (hp : (ps.drop b)[c]? = some (.lit x))
    (h1 : m' (Str.ofString "i") = some (.int ii ti)) (hii : ii = ((b + (c + 1) : Nat) : Int)) (h2 : m' (Str.ofString "n") = some (.int (ps.length : Int) tn)) (h3 : m' (Str.ofString "add") = some (.ref q)) (h4 : m' (Str.ofString "res") = some (.ref D))
    (h5 : m' (Str.ofString "inp") = some (.ref l)) (h6 : m' (Str.ofString "STAR") = some (.ref sa)) (h7 : m' (Str.ofString "fixed") = some (.ref G)) (harr : arr = xsN.toArray) (hws : StrsAre xsN ((((ps.drop b).take c).map litOf ++ [x]).map S)) :
    WEnd h₀ L s (fun n m nw => ∃ c, n = ps.length - c ∧ J3 l sa D q G ps ws k b c m nw) (ps.length - c) Q .next { s with heap := h', toks := tk } := by
  subst hii harr
  have hlt : c < (ps.drop b).length := (List.getElem?_eq_some_iff.mp hp).1
  rw [List.length_drop] at hlt
  refine WEnd.next (n' := ps.length - (c + 1)) F N (by omega) ⟨c + 1, rfl, m', ti, tn, xsN, k', frame7 h1 h2 h3 h4 h5 h6 h7, rfl, ?_, tw_lit hi hp⟩
  rw [take_snoc hp]; exact hws
theorem j2_next {h₀ h' : Heap} {L l sa D q : Addr} {s : Shared} {ps : List Pc} {total : List Nat} {i i2 : Nat} {m' : Str → Option Value} {arr : Array Value} {wsN : List Value} {outs : List (List Nat)} {f k' tk : Nat} {ti tn : Tok} {ii : Int} {Q : Flow → Shared → Prop}
    (F : Fr h₀ L h' m') (N : News h₀ L h' [(q, bObj (.builtin "list.append") (.ref D)), (D, W.listOf arr k')])
    (h1 : m' (Str.ofString "i") = some (.int ii ti)) (hii : ii = (i2 : Int)) (h2 : m' (Str.ofString "n") = some (.int (ps.length : Int) tn)) (h3 : m' (Str.ofString "add") = some (.ref q)) (h4 : m' (Str.ofString "res") = some (.ref D))
    (h5 : m' (Str.ofString "inp") = some (.ref l)) (h6 : m' (Str.ofString "STAR") = some (.ref sa)) (harr : arr = wsN.toArray) (hws : StrsAre wsN (outs.map S))
    (ht : outs.flatten ++ joinG f (ps.drop i2) = total) (hf : (ps.drop i2).length ≤ f) (hi2 : i2 ≤ ps.length) (hst : i2 < ps.length → ps[i2]? = some .star) (ho : outs.length ≤ 3 * i2) (hlt : i < i2) (hin : i < ps.length) :
    WEnd h₀ L s (fun n m nw => ∃ i, n = ps.length - i ∧ J2 l sa D q ps total i m nw) (ps.length - i) Q .next { s with heap := h', toks := tk } := by
  subst hii harr
  exact WEnd.next (n' := ps.length - i2) F N (by omega) ⟨i2, rfl, m', ti, tn, wsN, k', outs, f, frame6 h1 h2 h3 h4 h5 h6, rfl, hws, ht, hf, hi2, hst, ho⟩
theorem dropWhile_star {ps : List Pc} {i : Nat} (hp : (ps.drop (ps.takeWhile isLit).length)[i]? = none ∨ True) : (ps.takeWhile isLit).length < ps.length → ps[(ps.takeWhile isLit).length]? = some .star := by
  induction ps with
  | nil => intro h; simp at h
  | cons p r ih =>
    cases p with
    | star => intro _; simp [List.takeWhile, isLit]
    | lit x => intro h; simp only [List.takeWhile, isLit, List.length_cons] at h ⊢; simpa using ih (.inr trivial) (by omega)
theorem tw_le (ps : List Pc) : (ps.takeWhile isLit).length ≤ ps.length := (List.takeWhile_sublist isLit (l := ps)).length_le

theorem out2_intro {h₀ h' : Heap} {L l sa D q : Addr} {s : Shared} {ps : List Pc} {total : List Nat} {m' : Str → Option Value} {arr : Array Value} {wsN : List Value} {outs : List (List Nat)} {k' tk : Nat} {ti tn : Tok} {ii : Int}
    (F : Fr h₀ L h' m') (N : News h₀ L h' [(q, bObj (.builtin "list.append") (.ref D)), (D, W.listOf arr k')])
    (h1 : m' (Str.ofString "i") = some (.int ii ti)) (hii : ii = (ps.length : Int)) (h2 : m' (Str.ofString "n") = some (.int (ps.length : Int) tn)) (h3 : m' (Str.ofString "add") = some (.ref q)) (h4 : m' (Str.ofString "res") = some (.ref D))
    (h5 : m' (Str.ofString "inp") = some (.ref l)) (h6 : m' (Str.ofString "STAR") = some (.ref sa)) (harr : arr = wsN.toArray) (hws : StrsAre wsN (outs.map S)) (ht : outs.flatten = total) (ho : outs.length ≤ 3 * ps.length + 3) :
    LoopOut h₀ L s (Out2 l sa D q ps total) .next { s with heap := h', toks := tk } := by
  subst hii harr
  exact LoopOut.intro F N ⟨m', ti, tn, wsN, k', outs, frame6 h1 h2 h3 h4 h5 h6, rfl, hws, ht, ho⟩
theorem flatten_take_le (l : List (List Nat)) (k : Nat) : (l.take k).flatten.length ≤ l.flatten.length := by
  have := congrArg (fun z : List (List Nat) => z.flatten.length) (List.take_append_drop k l)
  simp only [List.flatten_append, List.length_append] at this
  omega
theorem flatten_drop_le (l : List (List Nat)) (k : Nat) : (l.drop k).flatten.length ≤ l.flatten.length := by
  have := congrArg (fun z : List (List Nat) => z.flatten.length) (List.take_append_drop k l)
  simp only [List.flatten_append, List.length_append] at this
  omega
theorem lits_le (ps : List Pc) (b : Nat) : (lits (ps.drop b)).length ≤ (ps.map litOf).flatten.length := by
  unfold lits
  rw [← take_tw, List.map_take]
  refine Nat.le_trans (flatten_take_le _ _) ?_
  rw [List.map_drop]
  exact flatten_drop_le _ _
theorem join_c0 {w : World} {E : Value → Shared → Prop} {s : Shared} {Q : Value → Shared → Prop}
    {p : Program} {loose : List Str} {mean : ExcName → Option Value} {mg mb : Str → Option Value}
    (X : (Mine.heapK w.params).In s.heap) (T : Top p loose mean mg mb s.heap) (htk : 1 ≤ s.toks) {l sa : Addr} {vs : List Value} {ps : List Pc} (hl : s.heap.IsList l vs.toArray) (hps : PAre sa vs ps) (hlen : vs.length ≤ 10000)
    (hch : ∀ i, ps[i]? = some .star → ps[i + 1]? ≠ some .star) (hbig : (lits ps ++ joinG ps.length (ps.dropWhile isLit)).length ≤ 100000) (hlit : (ps.map litOf).flatten.length ≤ 100000)
    (ret : ∀ t' h' tk', Keeps s.heap h' → Q (.str (S (joinP ps)) t') { s with heap := h', toks := tk' }) :
    wpAny (model PySem.Challenge.rw_ij0039_01.row.prog w) (AtD 700 7000) (call (.ref 103) [.ref l, .ref sa]) Q E s := by
  revert X; k_fill; intro X
  refine' call_c (binds := [(Str.ofString "inp", .ref l), (Str.ofString "STAR", .ref sa)]) [] ?hg ?hm ?hX ?hT ?ho ?hcd ?hroom ?hbind ?hB ?hSc ?hloc ?_ ?c1 ?c2 ?c3 ?c4
  (case hg => exact rfl)
  (case hm => intro q hq; cases hq)
  (case hX => exact X)
  (case hT => exact T)
  (case ho => k_is)
  (case hcd => k_is)
  (case hroom => decide)
  (case hbind => first | exact BindsTo.of_eq rfl | exact binds_K X rfl (by k_is) rfl rfl rfl)
  (case hB => conv => lhs; whnf)
  (case hSc => conv => lhs; whnf)
  (case hloc => exact locs rfl)
  (case c1 => exact rfl)
  (case c2 => exact rfl)
  (case c3 => exact rfl)
  (case c4 => decide)
  intro L' h₁ tk htk₀ F N X' T'
  replace htk : 1 ≤ tk := Nat.le_trans htk htk₀
  have hl' : (hideAll s.heap (List.map (fun x : Addr × Obj => x.fst) [])).IsList l vs.toArray := hl
  have hvl : vs.length = ps.length := hps.length
  rw [hvl] at hlen
  k_steps
  unfold Stop
  (with_reducible rename Fr _ _ _ _ => F')
  (with_reducible rename News _ _ _ _ => N')
  rename_i D _ _ _ _ _ q _ lDq _ _ _ _ _ _ _ tkw htkw
  refine wpAny_mono (wpAny_toks_of htkw (while_k (Q := LoopOut (hideAll s.heap (List.map (fun x : Addr × Obj => x.fst) [])) L' s fun m nw => J1 l sa D q ps (ps.takeWhile isLit).length m nw) (fun n m nw => ∃ i, n = ps.length - i ∧ J1 l sa D q ps i m nw) (n₀ := ps.length)
    htkw F' (fun q hq => N' q (.tail _ hq)) ⟨0, rfl, _, _, _, [], 0, by rw [← hvl]; exact frame6 rfl rfl rfl rfl rfl rfl, rfl, .nil, Nat.zero_le _⟩ ?turn)) ?rest fun _ _ e => e.2
  (case turn =>
    rintro n m₁ news₁ h₂ tk₂ htk₂ F₂ N₂ ⟨i, rfl, u, ti, tn, ws, k, rfl, rfl, hws, hi⟩
    clear F' N'
    have hwl : ws.length ≤ ps.length := by have := hws.length; simp only [List.length_map, List.length_take] at this; omega
    by_cases hin : i < ps.length
    · rcases hps.at i hin with ⟨hp, hv⟩ | ⟨x, t, hp, hv⟩ <;> replace hv := itemI_nat hv rfl
      · have hi' := tw_star hi hp
        subst hi'
        k_steps
        exact WTest.no (LoopOut.intro F₂ N₂ ⟨u, ti, tn, ws, k, rfl, rfl, hws, Nat.le_refl _⟩)
      · k_steps
        refine WTest.yes ?_
        k_steps
        exact j1_next (by assumption) (by assumption) hi hp rfl (by omega) rfl rfl rfl rfl rfl (List.push_toArray ..) (st_app hws)
    · have hi' := tw_end hi (by omega)
      subst hi'
      k_steps
      exact WTest.no (LoopOut.intro F₂ N₂ ⟨u, ti, tn, ws, k, rfl, rfl, hws, Nat.le_refl _⟩))
  (case rest =>
    rintro f s' ⟨htk', rfl, h', tk', m', nw', rfl, F₂, N₂, ⟨u, ti, tn, ws, k, rfl, rfl, hws, _⟩⟩
    clear F' N'
    dsimp only at htk'
    dsimp only
    k_steps
    unfold Stop
    (with_reducible rename Fr _ _ _ _ => F')
    (with_reducible rename News _ _ _ _ => N')
    have hwl : ws.length ≤ ps.length := by have := hws.length; simp only [List.length_map, List.length_take] at this; omega
    refine wpAny_mono (wpAny_toks_of (n := 1) ?ht2 (while_k (Q := LoopOut (hideAll s.heap (List.map (fun x : Addr × Obj => x.fst) [])) L' s (Out2 l sa D q ps (lits ps ++ joinG ps.length (ps.dropWhile isLit)))) (fun n m nw => ∃ i, n = ps.length - i ∧ J2 l sa D q ps (lits ps ++ joinG ps.length (ps.dropWhile isLit)) i m nw) (n₀ := ps.length - (ps.takeWhile isLit).length)
      ?ht3 F' N' ⟨_, rfl, u, ti, tn, ws, k, (ps.takeWhile isLit).map litOf, ps.length, rfl, rfl, by rw [take_tw] at hws; exact hws, by rw [drop_tw]; rfl, by rw [List.length_drop]; omega, tw_le ps, dropWhile_star (i := 0) (.inr trivial), by rw [List.length_map]; omega⟩ ?turn2)) ?rest2 fun _ _ e => e.2
    (case ht2 => first | assumption | omega)
    (case ht3 => first | assumption | omega)
    (case turn2 =>
      clear hws ret
      generalize htt : lits ps ++ joinG ps.length (ps.dropWhile isLit) = total at hbig
      rintro n m₁ news₁ h₂ tk₂ htk₂ F₂ N₂ ⟨i, rfl, u, ti, tn, ws, k, outs, f, rfl, rfl, hws, htot, hf, hi, hst, hol⟩
      clear F' N'
      have hwl : ws.length ≤ 3 * ps.length := by have := hws.length; simp only [List.length_map] at this; omega
      by_cases hin : i < ps.length
      · have hp := hst hin
        have hv : itemI vs (i : Int) = some (.ref sa) := by
          rcases hps.at i hin with ⟨_, hv⟩ | ⟨x, t, hp', hv⟩
          · exact itemI_nat hv rfl
          · rw [hp] at hp'; cases hp'
        have hd : ps.drop i = .star :: ps.drop (i + 1) := by
          rw [List.drop_eq_getElem_cons hin]
          have := List.getElem?_eq_getElem hin
          rw [hp] at this
          rw [← Option.some.inj this]
        obtain ⟨f, rfl⟩ : ∃ f', f = f' + 1 := ⟨f - 1, by rw [List.length_drop] at hf; omega⟩
        rw [hd] at htot
        by_cases hlast : i + 1 = ps.length
        · have hr : ps.drop (i + 1) = [] := List.drop_eq_nil_of_le (by omega)
          rw [hr] at htot
          k_steps
          refine WTest.yes' (by first | rfl | (simp only [decide_eq_true_eq]; omega)) ?_
          k_steps
          dsimp only
          refine WEnd.brk (out2_intro (by assumption) (by assumption) rfl (by omega) rfl rfl rfl rfl rfl (List.push_toArray ..) (outs := outs ++ [[46, 42]]) ?_ ?_ ?_)
          · rw [show Str.ofString ".*" = S [46, 42] by decide +kernel]; exact st_app hws
          · rw [← htot, List.flatten_append]; rfl
          · rw [List.length_append]; simp; omega
        · have hin2 : i + 1 < ps.length := by omega
          obtain ⟨x, t, hp2, hv2⟩ : ∃ x t, ps[i + 1]? = some (.lit x) ∧ itemI vs ((i : Int) + 1) = some (.str (S x) t) := by
            rcases hps.at (i + 1) hin2 with ⟨hp', _⟩ | ⟨x, t, hp', hv⟩
            · exact absurd hp' (hch i hp)
            · exact ⟨x, t, hp', itemI_nat hv (by omega)⟩
          k_steps
          refine WTest.yes' (by first | rfl | (simp only [decide_eq_true_eq]; omega)) ?_
          k_steps
          · exfalso; omega
          unfold Stop
          (with_reducible rename Fr _ _ _ _ => F')
          (with_reducible rename News _ _ _ _ => N')
          rename_i hne _ _ G _ lG _ tk3 htk3
          have hdl : (ps.drop (i + 1)).length = ps.length - (i + 1) := List.length_drop
          refine wpAny_mono (wpAny_toks_of htk3 (while_k (Q := LoopOut (hideAll s.heap (List.map (fun x : Addr × Obj => x.fst) [])) L' s fun m nw => J3 l sa D q G ps ws k (i + 1) ((ps.drop (i + 1)).takeWhile isLit).length m nw) (fun n m nw => ∃ c, n = ps.length - c ∧ J3 l sa D q G ps ws k (i + 1) c m nw) (n₀ := ps.length)
            htk3 F' N' ⟨0, rfl, _, _, _, [], 0, frame7 rfl rfl rfl rfl rfl rfl rfl, rfl, .nil, Nat.zero_le _⟩ ?turn3)) ?rest3 fun _ _ e => e.2
          (case turn3 =>
            rintro n m₁ news₁ h₂ tk₂ htk₂ F₂ N₂ ⟨c, rfl, u, ti, tn, xs, j, rfl, rfl, hxs, hc⟩
            clear F' N' hv2 hv
            have hxl : xs.length ≤ ps.length := by have := hxs.length; simp only [List.length_map, List.length_take] at this; omega
            by_cases hic : i + 1 + c < ps.length
            · have hgd : (ps.drop (i + 1))[c]? = ps[i + 1 + c]? := by rw [List.getElem?_drop]
              rcases hps.at (i + 1 + c) hic with ⟨hp, hv⟩ | ⟨x, t, hp, hv⟩ <;> replace hv := itemI_nat hv rfl
              · have hi' := tw_star hc (hgd.trans hp)
                subst hi'
                k_steps
                exact WTest.no (LoopOut.intro F₂ N₂ ⟨u, ti, tn, xs, j, rfl, rfl, hxs, Nat.le_refl _⟩)
              · k_steps
                refine WTest.yes ?_
                k_steps
                exact j3_next (by assumption) (by assumption) hc (hgd.trans hp) rfl (by omega) rfl rfl rfl rfl rfl rfl (List.push_toArray ..) (st_app hxs)
            · have hi' := tw_end hc (by omega)
              subst hi'
              k_steps
              exact WTest.no (LoopOut.intro F₂ N₂ ⟨u, ti, tn, xs, j, rfl, rfl, hxs, Nat.le_refl _⟩))
          (case rest3 =>
            rintro f3 s' ⟨htk', rfl, h', tk', m', nw', rfl, F₂, N₂, ⟨u, ti, tn, xs, j, rfl, rfl, hxs, _⟩⟩
            clear F' N' hv2 hv
            dsimp only at htk'
            dsimp only
            have hll := lits_le ps (i + 1)
            have hlen3 := tw_le (ps.drop (i + 1))
            rw [take_tw] at hxs
            k_steps
            unfold Stop
            refine join_listC (ys := ((((ps.drop (i + 1)).takeWhile isLit)).map litOf).map S) (News.isList N₂ (.head _)) (by simpa using hxs) (by decide) (by rw [sum_S, List.length_map, List.length_map]; unfold lits at hll; omega) ?_
            intro t4 k4
            rw [join_S]
            have hLl : (S (lits (ps.drop (i + 1)))).length ≤ 100000 := by rw [sLen]; omega
            rw [show (List.map litOf (List.takeWhile isLit (List.drop (i + 1) ps))).flatten = lits (ps.drop (i + 1)) from rfl]
            have hdd : ps.drop (i + 1 + ((ps.drop (i + 1)).takeWhile isLit).length) = (ps.drop (i + 1)).dropWhile isLit := by rw [← drop_tw, List.drop_drop]
            have hrne : ps.drop (i + 1) ≠ [] := fun e => by have := congrArg List.length e; simp only [List.length_drop, List.length_nil] at this; omega
            have hf' : (ps.drop (i + 1)).length ≤ f := by rw [List.length_drop] at hf ⊢; omega
            have hjg : joinG (f + 1) (.star :: ps.drop (i + 1)) = if (ps.drop (i + 1)).dropWhile isLit = [] then [46, 42] ++ lits (ps.drop (i + 1)) else [40, 63, 62, 46, 42, 63] ++ lits (ps.drop (i + 1)) ++ [41] ++ joinG f ((ps.drop (i + 1)).dropWhile isLit) := by
              show (if ps.drop (i + 1) = [] then _ else _) = _
              rw [if_neg hrne]
            rw [hjg] at htot
            k_steps
            · (with_reducible rename News _ _ _ _ => N9)
              have N8 : News (hideAll s.heap (List.map (fun x : Addr × Obj => x.fst) [])) L' _ [(q, bObj (.builtin "list.append") (.ref D)), (D, W.listOf ws.toArray k)] := fun p hp => N9 p (.tail _ hp)
              clear N9
              k_steps
              have hnil : (ps.drop (i + 1)).dropWhile isLit = [] := by rw [← hdd]; exact List.drop_eq_nil_of_le (by omega)
              rw [if_pos hnil] at htot
              refine j2_next (i2 := i + 1 + ((ps.drop (i + 1)).takeWhile isLit).length) (outs := outs ++ [[46, 42]] ++ [lits (ps.drop (i + 1))]) (f := f) (by assumption) (by assumption) rfl rfl rfl rfl rfl rfl rfl (by rw [List.push_toArray, List.push_toArray]) ?_ ?_ ?_ ?_ ?_ ?_ ?_ hin
              · rw [show Str.ofString ".*" = S [46, 42] by decide +kernel]; exact st_app (st_app hws)
              · rw [hdd, hnil, ← htot, List.flatten_append, List.flatten_append]; cases f <;> simp [joinG]
              · rw [hdd, hnil]; exact Nat.zero_le _
              · omega
              · intro h; exfalso; omega
              · rw [List.length_append, List.length_append]; simp; omega
              · omega
            · (with_reducible rename News _ _ _ _ => N9)
              have N8 : News (hideAll s.heap (List.map (fun x : Addr × Obj => x.fst) [])) L' _ [(q, bObj (.builtin "list.append") (.ref D)), (D, W.listOf ws.toArray k)] := fun p hp => N9 p (.tail _ hp)
              clear N9
              k_steps
              have hnn : (ps.drop (i + 1)).dropWhile isLit ≠ [] := fun e => by
                rw [← hdd] at e
                have := congrArg List.length e; simp only [List.length_drop, List.length_nil] at this; omega
              rw [if_neg hnn] at htot
              refine j2_next (i2 := i + 1 + ((ps.drop (i + 1)).takeWhile isLit).length) (outs := outs ++ [[40, 63, 62, 46, 42, 63] ++ lits (ps.drop (i + 1)) ++ [41]]) (f := f) (by assumption) (by assumption) rfl rfl rfl rfl rfl rfl rfl (List.push_toArray ..) ?_ ?_ ?_ ?_ ?_ ?_ ?_ hin
              · rw [show Str.empty = S [] from rfl, show Str.ofString "(?>.*?" = S [40, 63, 62, 46, 42, 63] by decide +kernel, show Str.ofString ")" = S [41] by decide +kernel, sApp, sApp, sApp]; exact st_app hws
              · rw [hdd, ← htot, List.flatten_append]; simp
              · rw [hdd, ← drop_tw, List.length_drop]; omega
              · omega
              · intro h
                have := dropWhile_star (ps := ps.drop (i + 1)) (i := 0) (.inr trivial) (by rw [List.length_drop]; omega)
                rw [List.getElem?_drop] at this; exact this
              · rw [List.length_append]; simp; omega
              · omega)
      · have hi' : i = ps.length := by omega
        subst hi'
        rw [List.drop_length] at htot
        k_steps
        exact WTest.no' (by first | rfl | (simp only [decide_eq_false_iff_not]; omega)) (LoopOut.intro F₂ N₂ ⟨u, ti, tn, ws, k, outs, rfl, rfl, hws, by rw [← htot]; cases f <;> simp [joinG], by omega⟩))
    (case rest2 =>
      clear hwl hws
      rintro f s' ⟨htk', rfl, h', tk', m', nw', rfl, F₂, N₂, ⟨u, ti, tn, ws, k, outs, rfl, rfl, hws, htot, hol⟩⟩
      clear F' N'
      dsimp only at htk'
      dsimp only
      k_steps
      unfold Stop
      refine join_listC (ys := outs.map S) (News.isList N₂ (.tail _ (.head _))) (by simpa using hws) (by decide) (by rw [sum_S, htot, List.length_map]; omega) ?_
      intro t4 k4
      rw [join_S, htot]
      unfold joinP at ret
      generalize htt : lits ps ++ joinG ps.length (ps.dropWhile isLit) = total at *
      have hbt : (S total).length ≤ 100000 := by rw [sLen]; exact hbig
      k_steps
      (with_reducible rename Fr _ _ _ _ => F9)
      rw [show Str.empty = S [] from rfl, show Str.ofString "(?s:" = S [40, 63, 115, 58] by decide +kernel, show Str.ofString ")\\Z" = S [41, 92, 90] by decide +kernel, sApp, sApp, sApp]
      exact ret _ _ _ (fun b o e => Fr.keep F9 b o e)))
end Mine
end

section
open PySem PySem.W PyProof.Rows PySem.Spec PySem.Calls
namespace Mine
open PySem.Sre PySem.Builtin.Re
noncomputable def c79 : Array Nat := #[14, 14, 4, 1, 1, 9, 0, 64, 0, 1342177280, 0, 0, 0, 0, 0, 17, 0, 13, 11, 9, 0, 64, 0, 1342177280, 0, 0, 0, 0, 0, 17, 1, 1]
noncomputable def hit (c : Nat) : Bool := c == 38 || c == 124 || c == 126
theorem hb5 : ∀ c : Nat, c < 128 → (decide (c < 256) && (c79.getD (5 + (1 + c / 32)) 0).testBit (c % 32)) = hit c := by decide +kernel
theorem hb19 : ∀ c : Nat, c < 128 → (decide (c < 256) && (c79.getD (19 + (1 + c / 32)) 0).testBit (c % 32)) = hit c := by decide +kernel
theorem inSet5 {c : Nat} (hc : c < 128) (seen : Sre.Seen) : inSet c79 c 32 5 true seen = if hit c = true then .ok (true, seen.add 9) else .ok (false, (seen.add 9).add 0) := by
  have h := hb5 c hc
  show (if (decide (c < 256) && (c79.getD (5 + (1 + c / 32)) 0).testBit (c % 32)) = true then (.ok (true, seen.add 9) : Except String (Bool × Sre.Seen)) else inSet c79 c 31 (5 + 9) true (seen.add 9)) = _
  rw [h]
  split
  · rfl
  · rfl
theorem inSet19 {c : Nat} (hc : c < 128) (seen : Sre.Seen) : inSet c79 c 32 19 true seen = if hit c = true then .ok (true, seen.add 9) else .ok (false, (seen.add 9).add 0) := by
  have h := hb19 c hc
  show (if (decide (c < 256) && (c79.getD (19 + (1 + c / 32)) 0).testBit (c % 32)) = true then (.ok (true, seen.add 9) : Except String (Bool × Sre.Seen)) else inSet c79 c 31 (19 + 9) true (seen.add 9)) = _
  rw [h]
  split
  · rfl
  · rfl

theorem admit {m : M} (hcode : m.code = c79) (htx : ∀ j, j < m.lim → m.text.getD j 0 < 128) : ∀ (fuel s : Nat) (seen : Sre.Seen), m.lim < s + fuel → 
    ∃ seen', (∃ s', s ≤ s' ∧ s' < m.lim ∧ hit (m.text.getD s' 0) = true ∧ (∀ j, s ≤ j → j < s' → hit (m.text.getD j 0) = false) ∧ M.admitted m fuel s seen = .ok (some s', seen')) ∨
      ((∀ j, s ≤ j → j < m.lim → hit (m.text.getD j 0) = false) ∧ M.admitted m fuel s seen = .ok (none, seen')) := by
  intro fuel
  induction fuel with
  | zero => intro s seen h; exact ⟨seen, .inr ⟨fun j h1 h2 => by omega, rfl⟩⟩
  | succ f ih =>
    intro s seen h
    by_cases hs : s ≥ m.lim
    · refine ⟨seen, .inr ⟨fun j h1 h2 => by omega, ?_⟩⟩
      show (if s ≥ m.lim then _ else _) = _
      rw [if_pos hs]
    · have e : M.admitted m (f + 1) s seen = match inSet m.code (m.text.getD s 0) m.code.size 5 true seen with
          | .ok (true, seen) => .ok (some s, seen)
          | .ok (false, seen) => M.admitted m f (s + 1) seen
          | .error why => .error why := by
        show (if s ≥ m.lim then _ else _) = _
        rw [if_neg hs]
        rfl
      have e2 : inSet m.code (m.text.getD s 0) m.code.size 5 true seen = if hit (m.text.getD s 0) = true then .ok (true, seen.add 9) else .ok (false, (seen.add 9).add 0) := by rw [hcode]; exact inSet5 (htx s (by omega)) seen
      rw [e, e2]
      cases hh : hit (m.text.getD s 0) with
      | true => exact ⟨_, .inl ⟨s, Nat.le_refl _, by omega, hh, fun j h1 h2 => by omega, rfl⟩⟩
      | false =>
        obtain ⟨seen', h3⟩ := ih (s + 1) ((seen.add 9).add 0) (by omega)
        refine ⟨seen', ?_⟩
        rcases h3 with ⟨s', a, b, c, d, g⟩ | ⟨a, b⟩
        · refine .inl ⟨s', by omega, b, c, fun j h1 h2 => ?_, g⟩
          by_cases hj : j = s
          · rw [hj]; exact hh
          · exact d j (by omega) h2
        · refine .inr ⟨fun j h1 h2 => ?_, b⟩
          by_cases hj : j = s
          · rw [hj]; exact hh
          · exact a j (by omega) h2

theorem acc17 {c : Nat} (hc : c < 128) (hh : hit c = true) (seen : Sre.Seen) : accepts c79 17 c seen = .ok (true, seen.add 9) := by
  show inSet c79 c 32 19 true seen = _
  rw [inSet19 hc, if_pos hh]
section
variable {text : Array Nat} {lim s ls : Nat} {seen : Sre.Seen}
noncomputable abbrev fr0 (s : Nat) : Sre.Frame := { wait := .nextStart, pc := 15, pos := s, outermost := true }
theorem step1 : M.step { code := c79, text, lim, start := s, lastStart := ls, pc := 15, pos := s, handed := s, marks := #[none, none], frames := [fr0 s], weight := 1, seen } =
    { code := c79, text, lim, start := s, lastStart := ls, pc := 17, pos := s, handed := s, marks := #[some s, none], lastmark := 0, frames := [fr0 s], weight := 1, seen := seen.add 17 } := by
  rfl
theorem step2 (hlim : s < lim) (htx : text.getD s 0 < 128) (hh : hit (text.getD s 0) = true) :
    M.step { code := c79, text, lim, start := s, lastStart := ls, pc := 17, pos := s, handed := s, marks := #[some s, none], lastmark := 0, frames := [fr0 s], weight := 1, seen } =
    { code := c79, text, lim, start := s, lastStart := ls, pc := 29, pos := s + 1, handed := s, marks := #[some s, none], lastmark := 0, frames := [fr0 s], weight := 1, seen := (seen.add 13).add 9 } := by
  have h := acc17 htx hh (seen.add 13)
  show (if s ≥ lim then _ else _) = _
  rw [if_neg (by omega)]
  show (match accepts c79 17 (text.getD s 0) (seen.add 13) with | .error why => _ | .ok (false, seen) => _ | .ok (true, seen) => _) = _
  rw [h]
  rfl
theorem step3 : M.step { code := c79, text, lim, start := s, lastStart := ls, pc := 29, pos := s + 1, handed := s, marks := #[some s, none], lastmark := 0, frames := [fr0 s], weight := 1, seen } =
    { code := c79, text, lim, start := s, lastStart := ls, pc := 31, pos := s + 1, handed := s, marks := #[some s, some (s + 1)], lastmark := 1, lastindex := 1, frames := [fr0 s], weight := 1, seen := seen.add 17 } := by
  show M.mark { code := c79, text, lim, start := s, lastStart := ls, pc := 29, pos := s + 1, handed := s, marks := #[some s, none], lastmark := 0, frames := [fr0 s], weight := 1, seen := seen.add 17 } 1 = _
  unfold M.mark
  simp only []
  rw [if_pos (by decide)]
  rfl
theorem step4 : M.step { code := c79, text, lim, start := s, lastStart := ls, pc := 31, pos := s + 1, handed := s, marks := #[some s, some (s + 1)], lastmark := 1, lastindex := 1, frames := [fr0 s], weight := 1, seen } =
    { code := c79, text, lim, start := s, lastStart := ls, pc := 31, pos := s + 1, handed := s + 1, marks := #[some s, some (s + 1)], lastmark := 1, lastindex := 1, frames := [fr0 s], weight := 1, seen := seen.add 1, answer := some true } := by
  rfl
theorem step5 : M.step { code := c79, text, lim, start := s, lastStart := ls, pc := 31, pos := s + 1, handed := s + 1, marks := #[some s, some (s + 1)], lastmark := 1, lastindex := 1, frames := [fr0 s], weight := 1, seen, answer := some true } =
    { code := c79, text, lim, start := s, lastStart := ls, pc := 15, pos := s, handed := s + 1, marks := #[some s, some (s + 1)], lastmark := 1, lastindex := 1, frames := [], weight := 0, seen, answer := some true } := by
  rfl
theorem step6 : M.step { code := c79, text, lim, start := s, lastStart := ls, pc := 15, pos := s, handed := s + 1, marks := #[some s, some (s + 1)], lastmark := 1, lastindex := 1, frames := [], weight := 0, seen, answer := some true } =
    { code := c79, text, lim, start := s, lastStart := ls, pc := 15, pos := s, handed := s + 1, marks := #[some s, some (s + 1)], lastmark := 1, lastindex := 1, frames := [], weight := 0, seen, answer := some true, outcome := some .matched } := by
  rfl
end

theorem rules_k {M : Model} {A : Around} {E : Value → Shared → Prop} {s : Shared} {c : Nat → Bool} {f : Nat → String} {Q : PUnit → Shared → Prop} (h : Q PUnit.unit s) : ∀ l : List Nat,
    wpAny M A (forIn l PUnit.unit fun i (_ : PUnit) => (do if c i = true then rule (f i); pure (ForInStep.yield PUnit.unit) else pure (ForInStep.yield PUnit.unit) : Sem (ForInStep PUnit))) Q E s := by
  intro l
  induction l with
  | nil => exact wpAny_pure h
  | cons i l ih =>
    rw [List.forIn_cons]
    refine wpAny_bind ?_
    split
    · exact wpAny_bind (wpAny_rule (wpAny_pure ih))
    · exact wpAny_pure ih

theorem drive_k {M : Model} {A : Around} {E : Value → Shared → Prop} {s : Shared} {m m' : Sre.M} {Q : Sre.M → Shared → Prop} (h : (m.runFor 4).outcome.isSome = true ∧ m.runFor 4 = m' ∨ (m.runFor 4).outcome.isSome = false ∧ ((m.runFor 4).runFor 4).outcome.isSome = true ∧ (m.runFor 4).runFor 4 = m') (hq : Q m' s) :
    wpAny M A (reDrive (2 ^ 64) m) Q E s := by
  rw [show (2 : Nat) ^ 64 = ((2 ^ 64 - 2) + 1) + 1 by decide]
  unfold reDrive
  rcases h with ⟨h1, rfl⟩ | ⟨h1, h2, rfl⟩
  · show wpAny M A (if (m.runFor 4).outcome.isSome = true then _ else _) Q E s
    rw [if_pos h1]; exact wpAny_pure hq
  · show wpAny M A (if (m.runFor 4).outcome.isSome = true then _ else _) Q E s
    rw [if_neg (by rw [h1]; decide)]
    refine wpAny_bind (wpAny_rule ?_)
    unfold reDrive
    show wpAny M A (if ((m.runFor 4).runFor 4).outcome.isSome = true then _ else _) Q E s
    rw [if_pos h2]; exact wpAny_pure hq

theorem run_end {M : Model} {A : Around} {E : Value → Shared → Prop} {s : Shared} {m m' : Sre.M} {Q : Option Sre.M → Shared → Prop} (h : (m.runFor 4).outcome.isSome = true ∧ m.runFor 4 = m' ∨ (m.runFor 4).outcome.isSome = false ∧ ((m.runFor 4).runFor 4).outcome.isSome = true ∧ (m.runFor 4).runFor 4 = m')
    (hq : (m'.outcome = some .matched ∧ Q (some m') s) ∨ (m'.outcome = some .failed ∧ Q none s)) : wpAny M A (reRunToEnd m) Q E s := by
  unfold reRunToEnd
  refine wpAny_bind (drive_k h ?_)
  refine wpAny_bind (rules_k (c := fun i => m'.seen.has i) (f := fun i => Sre.names.getD i "") ?_ _)
  rcases hq with ⟨h1, h2⟩ | ⟨h1, h2⟩
  · rw [h1]; exact wpAny_pure h2
  · rw [h1]; exact wpAny_pure h2

noncomputable abbrev m0 (text : Array Nat) (pos lim : Nat) (must : Bool) : Sre.M := { code := c79, text, lim, start := pos, pc := 15, pos, handed := pos, marks := #[none, none], mustAdvance := must, seen := ({} : Sre.Seen).add 14 }
theorem search_eq {text : Array Nat} {pos lim : Nat} {must : Bool} : Sre.forSearch c79 text 1 pos lim must =
    if (decide (pos > lim) || decide (lim - pos < 1)) = true then (m0 text pos lim must).say false else M.attemptFrom { (m0 text pos lim must) with lastStart := lim } pos true := by
  rfl
theorem say_no {m : Sre.M} (hf : m.frames = []) (ho : m.outcome = none) : (m.say false).runFor 4 = { (m.say false) with outcome := some .failed } := by
  obtain ⟨a1, a2, a3, a4, a5, a6, a7, a8, a9, a10, a11, a12, a13, a14, a15, a16, a17, a18, a19, a20, a21⟩ := m
  subst hf ho
  rfl
theorem runFor_succ {n : Nat} {m : Sre.M} (h : m.outcome = none) : m.runFor (n + 1) = m.step.runFor n := by
  show (if m.outcome.isSome = true then m else _) = _
  rw [h]; rfl
theorem runFor_zero {m : Sre.M} : m.runFor 0 = m := rfl
theorem runFor_done {n : Nat} {m : Sre.M} (h : m.outcome.isSome = true) : m.runFor n = m := by
  cases n with
  | zero => rfl
  | succ n =>
    show (if m.outcome.isSome = true then m else _) = _
    rw [if_pos h]
theorem run4a {text : Array Nat} {p lim : Nat} {seen' : Sre.Seen} (h2 : p < lim) (htx : text.getD p 0 < 128) (h3 : hit (text.getD p 0) = true) :
    M.runFor 4 { code := c79, text, lim, start := p, lastStart := lim, pc := 15, pos := p, handed := p, marks := #[none, none], frames := [fr0 p], weight := 1, seen := seen' } = 
          { code := c79, text, lim, start := p, lastStart := lim, pc := 31, pos := p + 1, handed := p + 1, marks := #[some p, some (p + 1)], lastmark := 1, lastindex := 1, frames := [fr0 p], weight := 1, seen := (((((seen'.add 17).add 13).add 9).add 17).add 1), answer := some true } := by
  rw [runFor_succ (by rfl), step1, runFor_succ (by rfl), step2 h2 htx h3, runFor_succ (by rfl), step3, runFor_succ (by rfl), step4, runFor_zero]
theorem run4b {text : Array Nat} {p lim : Nat} {seen' : Sre.Seen} : M.runFor 4 { code := c79, text, lim, start := p, lastStart := lim, pc := 31, pos := p + 1, handed := p + 1, marks := #[some p, some (p + 1)], lastmark := 1, lastindex := 1, frames := [fr0 p], weight := 1, seen := seen', answer := some true } =
          { code := c79, text, lim, start := p, lastStart := lim, pc := 15, pos := p, handed := p + 1, marks := #[some p, some (p + 1)], lastmark := 1, lastindex := 1, frames := [], weight := 0, seen := seen', answer := some true, outcome := some .matched } := by
  rw [runFor_succ (by rfl), step5, runFor_succ (by rfl), step6, runFor_done (by rfl)]
/-- what a search for the sign set hands over -/
structure FoundAt (text : Array Nat) (s : Nat) (m : Sre.M) : Prop where
  start : m.start = s
  handed : m.handed = s + 1
  marks : m.marks = #[some s, some (s + 1)]
  lastmark : m.lastmark = 1
  lastindex : m.lastindex = 1
theorem next_found {M' : Model} {A : Around} {E : Value → Shared → Prop} {s : Shared} {text : Array Nat} {pos lim : Nat} {must : Bool} {Q : Option Sre.M → Shared → Prop} (htx : ∀ j, j < lim → text.getD j 0 < 128) (hpos : pos ≤ lim)
    (hyes : ∀ p m, pos ≤ p → p < lim → hit (text.getD p 0) = true → (∀ j, pos ≤ j → j < p → hit (text.getD j 0) = false) → FoundAt text p m → Q (some m) s)
    (hno : (∀ j, pos ≤ j → j < lim → hit (text.getD j 0) = false) → Q none s) : wpAny M' A (reRunToEnd (Sre.forSearch c79 text 1 pos lim must)) Q E s := by
  rw [search_eq]
  by_cases hp : lim - pos < 1
  · rw [if_pos (by simp; omega)]
    refine run_end (m' := { (m0 text pos lim must).say false with outcome := some .failed }) (.inl ⟨?_, say_no rfl rfl⟩) (.inr ⟨rfl, hno fun j h1 h2 => by omega⟩)
    rw [say_no rfl rfl]; rfl
  · rw [if_neg (by simp; omega)]
    obtain ⟨seen', h⟩ := admit (m := { (m0 text pos lim must) with lastStart := lim }) rfl htx (lim + 1 - pos) pos (({} : Sre.Seen).add 14) (by show lim < _; omega)
    have e : M.attemptFrom { (m0 text pos lim must) with lastStart := lim } pos true = match M.admitted { (m0 text pos lim must) with lastStart := lim } (lim + 1 - pos) pos (({} : Sre.Seen).add 14) with
        | .ok (some s, seen) => M.attemptAt { ({ (m0 text pos lim must) with lastStart := lim } : Sre.M) with mustAdvance := false, seen } s true
        | .ok (none, seen) => M.say { ({ (m0 text pos lim must) with lastStart := lim } : Sre.M) with seen } false
        | .error why => M.stick { (m0 text pos lim must) with lastStart := lim } why := by rfl
    rw [e]
    rcases h with ⟨p, h1, h2, h3, h4, h5⟩ | ⟨h1, h2⟩
    · rw [h5]
      have e1 : M.attemptAt { ({ (m0 text pos lim must) with lastStart := lim } : Sre.M) with mustAdvance := false, seen := seen' } p true =
        { code := c79, text, lim, start := p, lastStart := lim, pc := 15, pos := p, handed := p, marks := #[none, none], frames := [fr0 p], weight := 1, seen := seen' } := by rfl
      show wpAny _ _ (reRunToEnd (M.attemptAt { ({ (m0 text pos lim must) with lastStart := lim } : Sre.M) with mustAdvance := false, seen := seen' } p true)) _ _ _
      rw [e1]
      have r4 := run4a (seen' := seen') h2 (htx p h2) h3
      have r8 := run4b (text := text) (p := p) (lim := lim) (seen' := (((((seen'.add 17).add 13).add 9).add 17).add 1))
      generalize hgA : M.runFor 4 ({ code := c79, text, lim, start := p, lastStart := lim, pc := 15, pos := p, handed := p, marks := #[none, none], frames := [fr0 p], weight := 1, seen := seen' } : Sre.M) = mA at r4
      generalize hgB : M.runFor 4 mA = mB
      rw [r4] at hgB
      rw [r8] at hgB
      refine run_end (m' := mB) (.inr ⟨?_, ?_, ?_⟩) (.inl ⟨?_, ?_⟩)
      · rw [hgA, r4]; rfl
      · rw [hgA, r4, r8]; rfl
      · rw [hgA, r4, r8]; exact hgB
      · rw [← hgB]
      · rw [← hgB]; exact hyes p _ h1 h2 h3 h4 ⟨rfl, rfl, rfl, rfl, rfl⟩
    · rw [h2]
      show wpAny _ _ (reRunToEnd (M.say { ({ (m0 text pos lim must) with lastStart := lim } : Sre.M) with seen := seen' } false)) _ _ _
      have e2 := say_no (m := { ({ (m0 text pos lim must) with lastStart := lim } : Sre.M) with seen := seen' }) rfl rfl
      refine run_end (.inl ⟨?_, rfl⟩) (.inr ⟨?_, hno h1⟩)
      · rw [e2]; rfl
      · rw [e2]
end Mine
end

section
open PySem PySem.W PyProof.Rows PySem.Spec PySem.Calls Builtin
namespace Mine
open PySem.Builtin.Re
theorem if_not_ {α : Type} {M : Model} {A : Around} {E : Value → Shared → Prop} {s : Shared} {c : Bool} {a b : Sem α} {Q : α → Shared → Prop} (hc : c = false) (h : wpAny M A b Q E s) : wpAny M A (if c = true then a else b) Q E s := by subst hc; exact h
noncomputable abbrev matObj (x : Str) (t : Tok) (lim : Nat) (T : Addr) : Obj := { cls := .type "re.Match", data := .fields #[.str x t, .ref 70, rawInt (0 : Nat), rawInt lim, rawInt 1, .ref T] }
noncomputable abbrev spanObj (p : Nat) : Obj := { cls := .type "tuple", data := .seq #[rawInt p, rawInt (p + 1 : Nat), rawInt p, rawInt (p + 1 : Nat)] }
theorem slot_re_group : Slot "re.Match" "group" "re.Match.group" :=
  .of (owner := "re.Match") (n := "group") (by rw [typeLookup_type, builtinLookup_eq_fast]; kernel_rfl) (by decide +kernel) (by decide +kernel) (by decide +kernel)
    (by first | exact .inl (by decide +kernel) | exact .inr (by decide +kernel)) (by rw [isSubtype_type]; kernel_rfl)
theorem entry_re_group : entryFor table "re.Match.group" = some Builtin.«re.Match.group» := entryFor_of_tree (by kernel_rfl)
theorem args_re_group (a b : Value) : argsOk "re.Match.group" ⟨[a, b], []⟩ := by unfold argsOk; kernel_rfl
theorem type_re_group : typeOf (.builtin "re.Match.group") = pure (.type "method_descriptor") := by show builtinType _ = _; rw [builtinType_eq_fast]; kernel_rfl
section
variable {prog : Program} {w : World} {A : Around} {E : Value → Shared → Prop} {h : Heap} {g : Array GenState} {d : Drawn} {t : Nat} {os : OsState}
theorem group_one {q T : Addr} {x : Str} {tx u : Tok} {lim p : Nat} {Q : Value → Shared → Prop} (hq : h.get? q = some (matObj x tx lim T)) (hT : h.get? T = some (spanObj p)) (hsz : x.length ≤ 100000)
    (hQ : Q (.str ⟨x.cps.extract p (p + 1)⟩ t) ⟨h, g, d, t + 1, os⟩) : wpAny (model prog w) A (call (.builtin "re.Match.group") [.ref q, .int 1 u]) Q E ⟨h, g, d, t, os⟩ := by
  have hTy : (⟨h, g, d, t, os⟩ : Shared).TypeIs (.ref q) "re.Match" := ⟨_, hq, rfl⟩
  refine wpAny_call_entry slot_re_group hTy entry_re_group ?_ (args_re_group _ _)
  unfold Builtin.«re.Match.group» reFound reGroupNumber reGroupText reTextOf reSlice reRawItems
  repeat (any_goals (first | assumption | wp_step))
  have hsp : Array.map reRawOf #[rawInt (p : Int), rawInt ((p + 1 : Nat) : Int), rawInt (p : Int), rawInt ((p + 1 : Nat) : Int)] = #[(p : Int), ((p + 1 : Nat) : Int), (p : Int), ((p + 1 : Nat) : Int)] := by simp [reRawOf, rawInt]
  simp only [Option.getD_some, hsp]
  refine if_not_ (by show (decide ((p : Int) < 0) || decide (((p + 1 : Nat) : Int) < 0)) = false; simp; omega) ?_
  repeat (any_goals (first | assumption | wp_step))
  show wpAny (model prog w) A.in1 (mkStr ⟨x.cps.extract p (p + 1)⟩) _ _ _
  refine wpAny_mkStr ?_ ?_
  · exact wpAny_pure ⟨_, rfl, hQ⟩
  · rw [sizeLine_eq]
    show (x.cps.extract p (p + 1)).size ≤ _
    have : x.cps.size ≤ 100000 := hsz
    rw [Array.size_extract]; omega
end
end Mine
end

section
open PySem PySem.W PyProof.Rows PySem.Spec PySem.Calls Builtin
namespace Mine
open PySem.Builtin.Re
/-- the pattern object of the sign set -/
noncomputable def PatAt (h : Heap) : Prop := ∃ o vs l os ls n, h.get? 70 = some o ∧ o.data = .fields vs ∧ vs.getD 6 .none = .int 0 ls ∧ vs.getD 5 .none = .ref l ∧ vs.getD 2 .none = .int 1 os ∧ (∃ ol cs, h.get? l = some ol ∧ ol.data = .seq cs n ∧ (cs.map reRawOf).map (·.toNat) = c79)
theorem PatAt.keeps {h h' : Heap} (p : PatAt h) (k : Keeps h h') : PatAt h' := by
  obtain ⟨o, vs, l, os, ls, n, h1, h2, h3, h4, h5, ol, cs, h6, h7, h8⟩ := p
  exact ⟨o, vs, l, os, ls, n, k _ _ h1, h2, h3, h4, h5, ol, cs, k _ _ h6, h7, h8⟩
section
variable {prog : Program} {w : World} {A : Around} {E : Value → Shared → Prop} {s : Shared}
theorem target_k {x : Str} {t : Tok} {Q : ReTarget → Shared → Prop} (hp : PatAt s.heap) (h : Q { pattern := .ref 70, string := .str x t, code := c79, text := x.cps, kind := 0, groups := 1, pos := 0, lim := x.cps.size } s) :
    wpAny (model prog w) A (reWholeTarget (.ref 70) (.str x t)) Q E s := by
  obtain ⟨o, vs, l, os, ls, n, h1, h2, h3, h4, h5, ol, cs, h6, h7, h8⟩ := hp
  unfold reWholeTarget
  refine wpAny_bind (wpAny_fieldsOf h1 h2 ?_)
  unfold reTextOf
  refine wpAny_bind (wpAny_bind (wpAny_of_eq (a := some x) rfl (wpAny_pure ?_)))
  dsimp only
  rw [h3, h4, h5]
  refine wpAny_bind (wpAny_pure ?_)
  unfold reRawItems
  refine wpAny_bind (wpAny_bind (wpAny_seqItems h6 h7 (wpAny_pure ?_)))
  show wpAny _ _ (pure _) _ _ _
  refine wpAny_pure ?_
  show Q { pattern := .ref 70, string := .str x t, code := (cs.map reRawOf).map (·.toNat), text := x.cps, kind := 0, groups := 1, pos := 0, lim := x.cps.size } s
  rw [h8]; exact h

theorem newMatch_k {x : Str} {t : Tok} {lim p : Nat} {m : Sre.M} {Q : Value → Shared → Prop} (hf : FoundAt x.cps p m)
    (h : Q (.ref (s.heap.objs.size + 1)) { s with heap := (s.heap.push (spanObj p)).push (matObj x t lim s.heap.objs.size) }) : wpAny (model prog w) A (reNewMatch (.ref 70) (.str x t) 1 0 lim m) Q E s := by
  obtain ⟨h1, h2, h3, h4, h5⟩ := hf
  unfold reNewMatch
  rw [h3, h4, h5, h1, h2]
  dsimp only
  refine if_not_ ?_ ?_
  · simp [List.range_succ]
  · show wpAny _ _ (newTuple [rawInt (p : Int), rawInt ((p + 1 : Nat) : Int), rawInt (p : Int), rawInt ((p + 1 : Nat) : Int)] >>= fun z => newFields "re.Match" [.str x t, .ref 70, rawInt ((0 : Nat) : Int), rawInt (lim : Int), rawInt 1, z]) _ _ _
    refine wpAny_bind (wpAny_newTuple ?_)
    have e : (s.heap.push (spanObj p)).objs.size = s.heap.objs.size + 1 := Heap.size_push ..
    rw [← e] at h
    exact wpAny_newObj_type h

/-- what the substitution makes of a sign -/
noncomputable def subOne (c : Nat) : List Nat := if hit c = true then [92, c] else [c]
noncomputable abbrev loopArgs (x : Str) (t : Tok) (repl : Value) (n : Int) (p : Nat) (must : Bool) (L : Addr) : Args :=
  ⟨[.ref 70, .str x t, repl, rawInt 1, rawInt 0, rawInt n, rawInt (p : Int), rawInt (p : Int), .bool must, .ref L, .bool false], []⟩
theorem entry_sub_loop : entryFor table "re.Pattern.sub.loop" = some Builtin.«re.Pattern.sub.loop» := entryFor_of_tree (by kernel_rfl)
noncomputable def CallOk (prog : Program) (w : World) (A : Around) (g : Heap) (x : Str) (t : Tok) (repl : Value) : Prop :=
  ∀ (s : Shared) (q T : Addr) (p : Nat) (Q : Value → Shared → Prop) (E : Value → Shared → Prop), Keeps g s.heap → s.heap.get? q = some (matObj x t x.cps.size T) → s.heap.get? T = some (spanObj p) → p < x.cps.size →
    (∀ t' h' tk, Keeps s.heap h' → Q (.str (S [92, x.cps.getD p 0]) t') { s with heap := h', toks := tk }) → wpAny (model prog w) A (call repl [.ref q]) Q E s
noncomputable def subRest (x : Str) (t : Tok) (repl : Value) (L : Addr) (m' : Sre.M) (c : Code) : Sem Fin := do
  let found ← reNewMatch (.ref 70) (.str x t) 1 0 x.cps.size m'
  let item ← holding [found] (call repl [found])
  if (item != Value.none) = true then do
    updateSeq L fun y => y.push item
    again c
  else again c
theorem push_k {M : Model} {A : Around} {E : Value → Shared → Prop} {s : Shared} {L : Addr} {arr : Array Value} {m : Nat} {v : Value} {Q : Unit → Shared → Prop} (hl : s.heap.get? L = some (W.listOf arr m)) (hsz : arr.size ≤ 1000000)
    (h : ∀ h', Heap.SameBut L s.heap h' → h'.get? L = some (W.listOf (arr.push v) (m + 1)) → Q () { s with heap := h' }) : wpAny M A (updateSeq L (·.push v)) Q E s := by
  refine wpAny_updateSeq hl rfl (h _ (Heap.SameBut.update ..) ?_) (by rw [sizeLine_eq]; omega) (by rw [sizeLine_eq, Array.size_push]; omega)
  rw [Heap.get?_update_self _ hl (by rw [mapSeq_push]; rfl), mapSeq_push]
theorem if_yes_' {α : Type} {M : Model} {A : Around} {E : Value → Shared → Prop} {s : Shared} {c : Prop} [Decidable c] {a b : Sem α} {Q : α → Shared → Prop} (hc : c) (h : wpAny M A a Q E s) : wpAny M A (if c then a else b) Q E s := by rw [if_pos hc]; exact h
theorem if_not_' {α : Type} {M : Model} {A : Around} {E : Value → Shared → Prop} {s : Shared} {c : Prop} [Decidable c] {a b : Sem α} {Q : α → Shared → Prop} (hc : ¬ c) (h : wpAny M A b Q E s) : wpAny M A (if c then a else b) Q E s := by rw [if_neg hc]; exact h
theorem ext_drop (x : Str) (p : Nat) : (⟨x.cps.extract p x.cps.size⟩ : Str) = S (x.cps.toList.drop p) := by
  show _ = (⟨(x.cps.toList.drop p).toArray⟩ : Str)
  congr 1
  apply Array.ext'
  simp only [Array.toList_extract, List.extract]
  exact List.take_of_length_le (by simp)
theorem ext_mid (x : Str) (p q : Nat) : (⟨x.cps.extract p q⟩ : Str) = S ((x.cps.toList.drop p).take (q - p)) := by
  show _ = (⟨((x.cps.toList.drop p).take (q - p)).toArray⟩ : Str)
  congr 1
  apply Array.ext'
  simp [List.extract]
theorem subOne_len (l : List Nat) : (l.flatMap subOne).length ≤ 2 * l.length := flat_len subOne l 2 fun c _ => by unfold subOne; split <;> simp
theorem flat_nohit (l : List Nat) (h : ∀ c ∈ l, hit c = false) : l.flatMap subOne = l := by
  induction l with
  | nil => rfl
  | cons c r ih =>
    rw [List.flatMap_cons, ih fun c hc => h c (.tail _ hc)]
    unfold subOne; rw [if_neg (by rw [h c (.head _)]; decide)]; rfl
theorem rest_k {x : Str} {t : Tok} {repl : Value} {L : Addr} {g : Heap} {c : Code} {h : Heap} {tk m p : Nat} {ws : List Value} {outs : List (List Nat)} {m' : Sre.M} {Q : Fin → Shared → Prop} (hcall : CallOk prog w A g x t repl) (hL : g.get? L = none)
    (hf : FoundAt x.cps p m') (hp : p < x.cps.size) (kg : Keeps g h) (hl : h.get? L = some (W.listOf ws.toArray m)) (hws : StrsAre ws (outs.map S)) (hsz : ws.length ≤ 100000)
    (hQ : ∀ h' tk' m₂ ws₂, Keeps g h' → h'.get? L = some (W.listOf ws₂.toArray m₂) → StrsAre ws₂ ((outs ++ [[92, x.cps.getD p 0]]).map S) → Q (.again c) { s with heap := h', toks := tk' }) :
    wpAny (model prog w) A (subRest x t repl L m' c) Q E { s with heap := h, toks := tk } := by
  unfold subRest
  refine wpAny_bind (newMatch_k hf ?_)
  have k1 : Keeps h ((h.push (spanObj p)).push (matObj x t x.cps.size h.objs.size)) := fun b o e => Heap.get?_push_of_some _ (Heap.get?_push_of_some _ e)
  refine wpAny_bind (wpAny_holding (hcall _ (h.objs.size + 1) h.objs.size p _ _ (fun b o e => k1 b o (kg b o e)) ?_ ?_ hp ?_))
  · show ((h.push (spanObj p)).push (matObj x t x.cps.size h.objs.size)).get? (h.objs.size + 1) = _
    rw [show h.objs.size + 1 = (h.push (spanObj p)).objs.size from (Heap.size_push ..).symm]
    exact Heap.get?_push_size _ rfl
  · exact Heap.get?_push_of_some _ (Heap.get?_push_size _ rfl)
  · intro t' h' tk' k2
    dsimp only at k2
    refine if_yes_' (by rfl) ?_
    refine wpAny_bind (push_k (k2 _ _ (k1 _ _ hl)) (by simp only [List.size_toArray]; omega) fun h₂ hs₂ hl₂ => ?_)
    refine wpAny_pure ?_
    rw [List.push_toArray] at hl₂
    exact hQ h₂ _ _ _ (fun b o e => (hs₂.2 b (fun q => by rw [q, hL] at e; cases e)).trans (k2 _ _ (k1 _ _ (kg b o e)))) hl₂ (st_app hws)
theorem loop_k {x : Str} {t : Tok} {repl : Value} {L : Addr} {g : Heap} {R : Result → Shared → Prop} (hx : x.length ≤ 10000) (htx : ∀ j, j < x.cps.size → x.cps.getD j 0 < 128) (hp : PatAt g) (hL : g.get? L = none) (hcall : CallOk prog w A.in1 g x t repl)
    (fin : ∀ t' h' tk, Keeps g h' → R (.ok (.ret (.str (S (x.cps.toList.flatMap subOne)) t'))) { s with heap := h', toks := tk }) :
    ∀ (k p : Nat) (n : Int) (must : Bool) (h : Heap) (tk m : Nat) (ws : List Value) (outs : List (List Nat)), x.cps.size - p = k → p ≤ x.cps.size → Keeps g h → h.get? L = some (W.listOf ws.toArray m) → StrsAre ws (outs.map S) → outs.flatten = (x.cps.toList.take p).flatMap subOne → outs.length ≤ 2 * p →
      codeAny (model prog w) A (.builtin "re.Pattern.sub.loop" (loopArgs x t repl n p must L)) R { s with heap := h, toks := tk } := by
  intro k
  induction k using Nat.strongRecOn with
  | ind k ih =>
    intro p n must h tk m ws outs hk hpx kg hl hws ho hol
    refine codeAny_builtin entry_sub_loop ?_
    rw [Around.under_plainId (by decide +kernel)]
    unfold Builtin.«re.Pattern.sub.loop»
    dsimp only [loopArgs, rawInt]
    refine wpAny_bind (target_k (PatAt.keeps hp kg) ?_)
    refine if_not_ (by decide) ?_
    refine wpAny_bind (if_not_ (by simp) ?_)
    show wpAny _ _ (reRunToEnd (Sre.forSearch c79 x.cps 1 p x.cps.size must)) _ _ _
    refine next_found htx hpx ?_ ?_
    · intro p' m' h1 h2 h3 h4 hf
      obtain ⟨g1, g2, g3, g4, g5⟩ := id hf
      dsimp only
      rw [g1, g2]
      let c2 : Code := .builtin "re.Pattern.sub.loop" (loopArgs x t repl (n + 1) (p' + 1) (p' + 1 == p') L)
      have hgetD : x.cps.toList[p']? = some (x.cps.getD p' 0) := by
        rw [Array.getD_eq_getD_getElem?, Array.getElem?_eq_getElem h2]
        simp
      have htk1 : (x.cps.toList.take (p' + 1)).flatMap subOne = (x.cps.toList.take p').flatMap subOne ++ [92, x.cps.getD p' 0] := by
        rw [List.take_add_one, hgetD, List.flatMap_append]
        congr 1
        show subOne (x.cps.getD p' 0) ++ [] = _
        unfold subOne; rw [if_pos h3]; rfl
      have hmid : (x.cps.toList.take p').flatMap subOne = (x.cps.toList.take p).flatMap subOne ++ (x.cps.toList.drop p).take (p' - p) := by
        have e1 : x.cps.toList.take p' = x.cps.toList.take p ++ (x.cps.toList.drop p).take (p' - p) := by
          rw [← List.take_add]; congr 1; omega
        rw [e1, List.flatMap_append]
        congr 1
        refine flat_nohit _ fun c hc => ?_
        obtain ⟨j, hj, e⟩ := List.getElem_of_mem hc
        rw [List.getElem_take, List.getElem_drop] at e
        simp only [List.length_take, List.length_drop, Array.length_toList] at hj
        have hj' : p + j < x.cps.size := by omega
        have := h4 (p + j) (by omega) (by omega)
        rw [Array.getD_eq_getD_getElem?, Array.getElem?_eq_getElem hj'] at this
        rw [← e]; simpa using this
      have go : ∀ (h : Heap) (tk m : Nat) (ws : List Value) (outs : List (List Nat)), Keeps g h → h.get? L = some (W.listOf ws.toArray m) → StrsAre ws (outs.map S) → outs.flatten = (x.cps.toList.take p').flatMap subOne → outs.length ≤ 2 * p' + 1 →
          wpAny (model prog w) A.in1 (subRest x t repl L m' c2) (fun fin s' => match fin with | .done f => R (.ok f) s' | .again c' => c'.quiet = true ∧ codeAny (model prog w) A c' R s') (fun e s' => R (.error e) s') { s with heap := h, toks := tk } := by
        intro h tk m ws outs kg hl hws ho hol
        refine rest_k hcall hL hf h2 kg hl hws ?_ ?_
        · have := hws.length; simp only [List.length_map] at this; have : x.cps.size ≤ 10000 := hx; omega
        · intro h' tk' m₂ ws₂ k2 hl2 hws2
          refine ⟨Code.quiet_builtin _ (by decide +kernel), ?_⟩
          show codeAny (model prog w) A c2 R _
          refine ih (x.cps.size - (p' + 1)) (by omega) (p' + 1) (n + 1) _ h' tk' m₂ ws₂ _ rfl (by omega) k2 hl2 hws2 ?_ ?_
          · rw [List.flatten_append, ho, htk1]; simp
          · rw [List.length_append]; simp; omega
      by_cases hlt : p < p'
      · refine if_yes_' (by simpa using hlt) ?_
        show wpAny _ _ (mkStr ⟨x.cps.extract p p'⟩ >>= _) _ _ _
        refine wpAny_bind (wpAny_mkStr ?_ ?sz1)
        · refine wpAny_bind (push_k hl (by simp only [List.size_toArray]; have := hws.length; simp only [List.length_map] at this; have : x.cps.size ≤ 10000 := hx; omega) fun h' hs' hl' => ?_)
          rw [List.push_toArray, ext_mid] at hl'
          exact go h' _ _ _ (outs ++ [(x.cps.toList.drop p).take (p' - p)]) (fun b o e => (hs'.2 b (fun q => by rw [q, hL] at e; cases e)).trans (kg b o e)) hl' (st_app hws) (by rw [List.flatten_append, ho, hmid]; simp) (by rw [List.length_append]; simp; omega)
        · rw [sizeLine_eq]; show (x.cps.extract p p').size ≤ _; rw [Array.size_extract]; have : x.cps.size ≤ 10000 := hx; omega
      · refine if_not_' (by simpa using hlt) ?_
        have e : p = p' := by omega
        exact go h tk m ws outs kg hl hws (by rw [ho, e]) (by omega)
    · intro hno
      dsimp only
      have htail : (x.cps.toList.drop p).flatMap subOne = x.cps.toList.drop p := flat_nohit _ fun c hc => by
        obtain ⟨j, hj, e⟩ := List.getElem_of_mem hc
        rw [List.getElem_drop] at e
        have hj' : p + j < x.cps.size := by simp only [List.length_drop, Array.length_toList] at hj; omega
        have := hno (p + j) (by omega) hj'
        rw [Array.getD_eq_getD_getElem?, Array.getElem?_eq_getElem hj'] at this
        rw [← e]; simpa using this
      have hall : x.cps.toList.flatMap subOne = outs.flatten ++ x.cps.toList.drop p := by
        conv => lhs; rw [← List.take_append_drop p x.cps.toList]
        rw [List.flatMap_append, ← ho, htail]
      by_cases hlt : p < x.cps.size
      · refine if_yes_' (by simpa using hlt) ?_
        show wpAny _ _ (mkStr ⟨x.cps.extract p x.cps.size⟩ >>= _) _ _ _
        refine wpAny_bind (wpAny_mkStr ?_ ?sz2)
        · refine wpAny_bind (push_k hl (by simp only [List.size_toArray]; have := hws.length; simp only [List.length_map] at this; have : x.cps.size ≤ 10000 := hx; omega) fun h' hs' hl' => ?_)
          show wpAny _ _ (mkStr ⟨x.cps.extract 0 0⟩ >>= _) _ _ _
          refine wpAny_bind (wpAny_mkStr ?_ (by rw [sizeLine_eq]; show (x.cps.extract 0 0).size ≤ _; rw [Array.size_extract]; omega))
          refine wpAny_bind (wpAny_seqItems hl' rfl ?_)
          refine if_not_ (by simp) ?_
          refine wpAny_bind (join_listC (ys := (outs ++ [x.cps.toList.drop p]).map S) (PySem.IsL.isList (n := m + 1) hl') ?e1 ?e2 ?e3 ?e4)
          (case e4 =>
            intro t4 k4
            refine if_not_ (by decide) ?_
            refine wpAny_pure ?_
            rw [show (⟨x.cps.extract 0 0⟩ : Str) = Str.ofString "" by rw [ofS_nil]; simp [S], join_S]
            rw [show (outs ++ [x.cps.toList.drop p]).flatten = x.cps.toList.flatMap subOne by rw [hall, List.flatten_append]; simp]
            exact fin _ _ _ (fun b o e => (hs'.2 b (fun q => by rw [q, hL] at e; cases e)).trans (kg b o e)))
          (case e1 => rw [List.push_toArray, ext_drop]; exact st_app hws)
          (case e2 => show (x.cps.extract 0 0).size ≤ 64; simp)
          (case e3 =>
            have h9 := subOne_len x.cps.toList
            rw [hall] at h9
            have : x.cps.size ≤ 10000 := hx
            rw [sum_S, List.length_map, List.flatten_append, List.length_append]
            simp only [List.length_append, List.length_cons, List.length_nil, List.flatten_cons, List.flatten_nil, List.append_nil, Array.length_toList] at h9 ⊢
            omega)
        · rw [sizeLine_eq]; show (x.cps.extract p x.cps.size).size ≤ _; rw [Array.size_extract]; have : x.cps.size ≤ 10000 := hx; omega
      · refine if_not_' (by simpa using hlt) ?_
        have hnil : x.cps.toList.drop p = [] := List.drop_eq_nil_of_le (by rw [Array.length_toList]; omega)
        rw [hnil, List.append_nil] at hall
        show wpAny _ _ (mkStr ⟨x.cps.extract 0 0⟩ >>= _) _ _ _
        refine wpAny_bind (wpAny_mkStr ?_ (by rw [sizeLine_eq]; show (x.cps.extract 0 0).size ≤ _; rw [Array.size_extract]; omega))
        refine wpAny_bind (wpAny_seqItems hl rfl ?_)
        have hz : (⟨x.cps.extract 0 0⟩ : Str) = S [] := by simp [S]
        by_cases hw : ws = []
        · refine if_yes_' (by rw [hw]; rfl) ?_
          refine wpAny_bind (wpAny_pure ?_)
          refine if_not_ (by decide) ?_
          refine wpAny_pure ?_
          have h0 : outs = [] := by
            have := hws.length
            rw [hw] at this
            simp only [List.length_nil, List.length_map] at this
            exact List.length_eq_zero_iff.mp this.symm
          rw [h0, List.flatten_nil] at hall
          rw [hall] at fin
          rw [hz]
          exact fin _ _ _ kg
        · refine if_not_ (by simpa using hw) ?_
          refine wpAny_bind (join_listC (ys := outs.map S) (PySem.IsL.isList (n := m) hl) ?f1 ?f2 ?f3 ?f4)
          (case f4 =>
            intro t4 k4
            refine if_not_ (by decide) ?_
            refine wpAny_pure ?_
            rw [hz, ← ofS_nil, join_S, ← hall]
            exact fin _ _ _ kg)
          (case f1 => exact hws)
          (case f2 => show (x.cps.extract 0 0).size ≤ 64; simp)
          (case f3 =>
            have h9 := subOne_len x.cps.toList
            rw [hall] at h9
            have : x.cps.size ≤ 10000 := hx
            rw [sum_S, List.length_map]
            simp only [Array.length_toList] at h9
            omega)
end
end Mine
end

section
open PySem PySem.W PyProof.Rows PySem.Spec PySem.Calls
namespace Mine
open Builtin Builtin.Str StrLaws
/-- greedy replacement on lists, from left to right -/
noncomputable def rep (k v : List Nat) : Nat → List Nat → List Nat
  | 0, l => l
  | _ + 1, [] => []
  | f + 1, c :: r => if k.isPrefixOf (c :: r) = true then v ++ rep k v f ((c :: r).drop k.length) else c :: rep k v f r
theorem rep_cons (k v : List Nat) (f c : Nat) (r : List Nat) : rep k v (f + 1) (c :: r) = if k.isPrefixOf (c :: r) = true then v ++ rep k v f ((c :: r).drop k.length) else c :: rep k v f r := rfl
theorem at_iff {l k : List Nat} {p : Nat} : At (S l) (S k) (S l).length p ↔ k.isPrefixOf (l.drop p) = true ∧ p + k.length ≤ l.length := by
  unfold At
  rw [subAt_eq]
  have e1 : (S l).length = l.length := by show l.toArray.size = _; simp
  have e2 : (S k).length = k.length := by show k.toArray.size = _; simp
  rw [e1, e2, List.isPrefixOf_iff_prefix, List.prefix_iff_eq_take]
  constructor
  · rintro ⟨h1, h2⟩
    refine ⟨?_, h1⟩
    have := eq_of_beq h2
    simpa using this.symm
  · rintro ⟨h1, h2⟩
    refine ⟨h2, ?_⟩
    apply beq_iff_eq.mpr
    simpa using h1.symm
theorem rep_fuel (k v : List Nat) (hk : k ≠ []) : ∀ (f : Nat) (l : List Nat) (g : Nat), l.length ≤ f → l.length ≤ g → rep k v f l = rep k v g l := by
  intro f
  induction f with
  | zero =>
    intro l g h1 _
    have : l = [] := List.length_eq_zero_iff.mp (by omega)
    subst this
    cases g <;> rfl
  | succ f ih =>
    intro l g h1 h2
    cases l with
    | nil => cases g <;> rfl
    | cons c r =>
      cases g with
      | zero => simp at h2
      | succ g =>
        have hkl : 1 ≤ k.length := List.length_pos_iff.mpr hk
        simp only [List.length_cons] at h1 h2
        rw [rep_cons, rep_cons]
        split
        · rw [ih _ g (by simp; omega) (by simp; omega)]
        · rw [ih _ g (by omega) (by omega)]
theorem rep_gap (k v : List Nat) : ∀ (n : Nat) (l : List Nat) (f : Nat), n ≤ l.length → l.length ≤ f → (∀ j, j < n → k.isPrefixOf (l.drop j) = false) → rep k v f l = l.take n ++ rep k v (f - n) (l.drop n) := by
  intro n
  induction n with
  | zero => intro l f _ _ _; simp
  | succ n ih =>
    intro l f h1 h2 h3
    cases l with
    | nil => simp at h1
    | cons c r =>
      cases f with
      | zero => simp at h2
      | succ f =>
        have h0 := h3 0 (by omega)
        simp only [List.drop_zero] at h0
        simp only [List.length_cons] at h1 h2
        have := ih r f (by omega) (by omega) (fun j hj => by have := h3 (j + 1) (by omega); simpa using this)
        rw [rep_cons, if_neg (by rw [h0]; decide), this]
        simp
theorem parts_rep (l k v : List Nat) (hk : k ≠ []) : ∀ (cuts : List Nat) (a f : Nat), ChainG (S l) (S k) (S l).length a cuts f → (∀ j, f ≤ j → ¬ At (S l) (S k) (S l).length j) → a ≤ l.length →
    (Str.join (S v) (partsFrom (S l) (S k).length a cuts)).cps.toList = rep k v l.length (l.drop a) := by
  have e2 : (S k).length = k.length := by show k.toArray.size = _; simp
  have eL : (S l).length = l.length := by show l.toArray.size = _; simp
  intro cuts
  induction cuts with
  | nil =>
    intro a f h hn ha
    have ef : f = a := h
    subst ef
    show (strSub (S l) f (S l).length).cps.toList = _
    rw [strSub_toList]
    have hg := rep_gap k v (l.drop f).length (l.drop f) l.length (Nat.le_refl _) (by simp) fun j hj => by
      have h1 := hn (f + j) (by omega)
      cases hp : k.isPrefixOf ((l.drop f).drop j) with
      | false => rfl
      | true =>
        exfalso
        refine h1 (at_iff.mpr ⟨by rw [List.drop_drop] at hp; exact hp, ?_⟩)
        have := (List.isPrefixOf_iff_prefix.mp hp).length_le
        simp only [List.length_drop] at this hj
        omega
    rw [hg]
    have : (l.drop f).drop (l.drop f).length = [] := List.drop_length
    rw [this]
    have e0 : ∀ n, rep k v n [] = [] := fun n => by cases n <;> rfl
    rw [e0, List.append_nil, eL]
    simp
  | cons c r ih =>
    intro a f h hn ha
    obtain ⟨h1, h2, h3, h4⟩ := h
    obtain ⟨hp, hpl⟩ := at_iff.mp h2
    have hkl : 1 ≤ k.length := List.length_pos_iff.mpr hk
    obtain ⟨p, q, e⟩ := partsFrom_ne (S l) (S k).length (c + (S k).length) r
    have ih' := ih (c + (S k).length) f h4 hn (by rw [e2]; exact hpl)
    show (Str.join (S v) (strSub (S l) a c :: partsFrom (S l) (S k).length (c + (S k).length) r)).cps.toList = _
    rw [e] at ih' ⊢
    show (strSub (S l) a c ++ S v ++ Str.join (S v) (p :: q)).cps.toList = _
    simp only [Str.cps_append, Array.toList_append]
    rw [ih', strSub_toList]
    have hg := rep_gap k v (c - a) (l.drop a) l.length (by simp; omega) (by simp) fun j hj => by
      have h5 := h3 (a + j) (by omega) (by omega)
      cases hp : k.isPrefixOf ((l.drop a).drop j) with
      | false => rfl
      | true =>
        exfalso
        refine h5 (at_iff.mpr ⟨by rw [List.drop_drop] at hp; exact hp, by omega⟩)
    rw [hg]
    have hdd : (l.drop a).drop (c - a) = l.drop c := by rw [List.drop_drop]; congr 1; omega
    rw [hdd, e2]
    obtain ⟨g, hgf⟩ : ∃ g, l.length - (c - a) = g + 1 := ⟨l.length - (c - a) - 1, by omega⟩
    rw [hgf]
    cases hl : l.drop c with
    | nil => have := congrArg List.length hl; simp at this; omega
    | cons d t =>
      have : rep k v (g + 1) (d :: t) = v ++ rep k v g ((d :: t).drop k.length) := by
        rw [rep_cons, if_pos (by rw [← hl]; exact hp)]
      rw [this, ← hl, List.drop_drop]
      rw [rep_fuel k v hk g (l.drop (c + k.length)) l.length (by simp; omega) (by simp)]
      simp [List.append_assoc]
theorem replace_rep (l k v : List Nat) (hk : k ≠ []) : Txt.replace (S l) (S k) (S v) = S (rep k v l.length l) := by
  have hkl : 1 ≤ k.length := List.length_pos_iff.mpr hk
  have e2 : (S k).length = k.length := by show k.toArray.size = _; simp
  obtain ⟨f, h, hn⟩ := occ_tight (S l) (S k) (by rw [e2]; exact hkl)
  have key := parts_rep l k v hk _ 0 f h hn (Nat.zero_le _)
  rw [List.drop_zero] at key
  have h0 : ((S k).length == 0) = false := by rw [e2]; simp; exact hk
  unfold Txt.replace
  rw [h0, Bool.false_and, Bool.or_false]
  split
  · rename_i he
    have e0 := List.isEmpty_iff.mp he
    rw [e0] at key
    have e3 : (strSub (S l) 0 (S l).length).cps.toList = rep k v l.length l := key
    rw [sub_whole] at e3
    apply Str.ext'
    apply Array.toList_inj.mp
    rw [e3]
  · rw [glued_eq_join, partsBetween_eq]
    apply Str.ext'
    apply Array.toList_inj.mp
    rw [key]
end Mine
end

section
open PySem PySem.W PyProof.Rows PySem.Spec PySem.Calls
namespace Mine
noncomputable abbrev repL (k v l : List Nat) : List Nat := rep k v l.length l
theorem repL_cons {k v : List Nat} (hk : k ≠ []) (c : Nat) (r : List Nat) : repL k v (c :: r) = if k.isPrefixOf (c :: r) = true then v ++ repL k v ((c :: r).drop k.length) else c :: repL k v r := by
  have hkl : 1 ≤ k.length := List.length_pos_iff.mpr hk
  show rep k v (r.length + 1) (c :: r) = _
  rw [rep_cons]
  split
  · rw [rep_fuel k v hk r.length _ _ (by simp; omega) (Nat.le_refl _)]
  · rfl
noncomputable def compat (k u : List Nat) : Bool := k.isPrefixOf u || u.isPrefixOf k
noncomputable def scan (k v : List Nat) (o : Nat) : Nat → List Nat → Option (List Nat)
  | _, [] => some []
  | 0, _ :: _ => none
  | f + 1, c :: r => if k.isPrefixOf (c :: r) = true then (scan k v o f ((c :: r).drop k.length)).map (v ++ ·)
    else if (decide ((c :: r).length ≤ o) || !compat k (c :: r)) = true then (scan k v o f r).map (c :: ·) else none
noncomputable def edge (k : List Nat) (o : Nat) (a : List Nat) : Bool := (List.range o).all fun j => decide (a.length ≤ o - (j + 1)) || !compat (k.drop (j + 1)) a
noncomputable def Clean (k : List Nat) (o : Nat) (rest : List Nat) : Prop := ∀ i, 1 ≤ i → i ≤ o → ¬ k.drop i <+: rest
theorem clean_nil {k : List Nat} {o : Nat} (h : o < k.length) : Clean k o [] := fun i _ h2 hp => by
  have := hp.length_le
  simp at this; omega
theorem compat_of {k a rest : List Nat} (h : k <+: a ++ rest) : compat k a = true := by
  unfold compat
  rcases List.prefix_or_prefix_of_prefix h (List.prefix_append a rest) with h | h
  · rw [List.isPrefixOf_iff_prefix.mpr h, Bool.true_or]
  · rw [List.isPrefixOf_iff_prefix.mpr h, Bool.or_true]
theorem drop_pre {k a rest : List Nat} (h : k <+: a ++ rest) : k.drop a.length <+: rest := by
  obtain ⟨t, ht⟩ := h
  by_cases hl : a.length ≤ k.length
  · refine ⟨t, ?_⟩
    have := congrArg (List.drop a.length) ht
    rw [List.drop_append_of_le_length hl, List.drop_left] at this
    exact this
  · rw [List.drop_eq_nil_of_le (by omega)]; exact List.nil_prefix
theorem clean_app {k a rest : List Nat} {o : Nat} (he : edge k o a = true) (h : Clean k o rest) : Clean k o (a ++ rest) := by
  intro i h1 h2 hp
  have := List.all_eq_true.mp he (i - 1) (List.mem_range.mpr (by omega))
  rw [show i - 1 + 1 = i by omega, compat_of hp, Bool.not_true, Bool.or_false, decide_eq_true_eq] at this
  have h3 := drop_pre hp
  rw [List.drop_drop] at h3
  exact h (i + a.length) (by omega) (by omega) h3
theorem scan_rep {k v : List Nat} {o : Nat} (ho : o < k.length) {rest : List Nat} (hc : Clean k o rest) : ∀ (f : Nat) (a g : List Nat), scan k v o f a = some g → repL k v (a ++ rest) = g ++ repL k v rest := by
  have hk : k ≠ [] := fun e => by rw [e] at ho; simp at ho
  intro f
  induction f with
  | zero =>
    intro a g h
    cases a with
    | nil => cases h; rfl
    | cons c r => cases h
  | succ f ih =>
    intro a g h
    cases a with
    | nil => cases h; rfl
    | cons c r =>
      have h' : (if k.isPrefixOf (c :: r) = true then (scan k v o f ((c :: r).drop k.length)).map (v ++ ·)
        else if (decide ((c :: r).length ≤ o) || !compat k (c :: r)) = true then (scan k v o f r).map (c :: ·) else none) = some g := h
      rw [List.cons_append, repL_cons hk]
      split at h'
      · rename_i hp
        have hp' := List.isPrefixOf_iff_prefix.mp hp
        obtain ⟨g', h1, h2⟩ := Option.map_eq_some_iff.mp h'
        have hp2 : k.isPrefixOf (c :: (r ++ rest)) = true := by
          rw [← List.cons_append]
          exact List.isPrefixOf_iff_prefix.mpr (hp'.trans (List.prefix_append _ _))
        rw [if_pos hp2, ← List.cons_append, List.drop_append_of_le_length hp'.length_le, ih _ _ h1, ← h2, List.append_assoc]
      · rename_i hp
        split at h'
        · rename_i hc2
          obtain ⟨g', h1, h2⟩ := Option.map_eq_some_iff.mp h'
          have hp2 : ¬ k.isPrefixOf (c :: (r ++ rest)) = true := by
            intro hq
            rw [← List.cons_append] at hq
            have hq := List.isPrefixOf_iff_prefix.mp hq
            have h3 := compat_of hq
            rw [h3, Bool.not_true, Bool.or_false, decide_eq_true_eq] at hc2
            exact hc _ (by simp) hc2 (drop_pre hq)
          rw [if_neg hp2, ih _ _ h1, ← h2]; rfl
        · cases h'
theorem atoms_clean {k : List Nat} {o : Nat} (ho : o < k.length) (as : List (List Nat)) (h : ∀ a ∈ as, edge k o a = true) : Clean k o as.flatten := by
  induction as with
  | nil => exact clean_nil ho
  | cons a r ih => rw [List.flatten_cons]; exact clean_app (h a (.head _)) (ih fun b hb => h b (.tail _ hb))
theorem rep_atoms {k v : List Nat} {o : Nat} (ho : o < k.length) (g : List Nat → List Nat) (as : List (List Nat)) (h : ∀ a ∈ as, edge k o a = true ∧ scan k v o a.length a = some (g a)) : repL k v as.flatten = (as.map g).flatten := by
  induction as with
  | nil => rfl
  | cons a r ih =>
    rw [List.flatten_cons, List.map_cons, List.flatten_cons, ← ih fun b hb => h b (.tail _ hb)]
    exact scan_rep ho (atoms_clean ho r fun b hb => (h b (.tail _ hb)).1) _ _ _ (h a (.head _)).2

/-- a list of replacements, each with the place of its marking sign -/
noncomputable abbrev Kvo := List Nat × List Nat × Nat
noncomputable def lrep : List Kvo → List Nat → List Nat
  | [], l => l
  | x :: r, l => lrep r (repL x.1 x.2.1 l)
noncomputable def runA : List Kvo → List Nat → Option (List Nat)
  | [], a => some a
  | x :: r, a => if edge x.1 x.2.2 a = true then (scan x.1 x.2.1 x.2.2 a.length a).bind (runA r) else none
theorem lrep_atoms (g : List Nat → List Nat) : ∀ (ks : List Kvo), (∀ x ∈ ks, x.2.2 < x.1.length) → ∀ (as : List (List Nat)), (∀ a ∈ as, runA ks a = some (g a)) → lrep ks as.flatten = (as.map g).flatten := by
  intro ks
  induction ks generalizing g with
  | nil =>
    intro _ as h
    have : as.map g = as.map id := List.map_congr_left fun a ha => (Option.some.inj (h a ha)).symm
    rw [this, List.map_id]; rfl
  | cons x r ih =>
    intro hx as h
    have key : ∀ a ∈ as, edge x.1 x.2.2 a = true ∧ ∃ b, scan x.1 x.2.1 x.2.2 a.length a = some b ∧ runA r b = some (g a) := by
      intro a ha
      have h1 : (if edge x.1 x.2.2 a = true then (scan x.1 x.2.1 x.2.2 a.length a).bind (runA r) else none) = some (g a) := h a ha
      split at h1
      · rename_i he
        obtain ⟨b, hb, hr⟩ := Option.bind_eq_some_iff.mp h1
        exact ⟨he, b, hb, hr⟩
      · cases h1
    let g₁ : List Nat → List Nat := fun a => (scan x.1 x.2.1 x.2.2 a.length a).getD []
    have e1 : repL x.1 x.2.1 as.flatten = (as.map g₁).flatten := rep_atoms (hx x (.head _)) g₁ as fun a ha => by
      obtain ⟨he, b, hb, _⟩ := key a ha
      exact ⟨he, by show _ = some ((scan x.1 x.2.1 x.2.2 a.length a).getD []); rw [hb]; rfl⟩
    show lrep r (repL x.1 x.2.1 as.flatten) = _
    rw [e1]
    -- the atoms after the first stage, with their ends
    let g₂ : List Nat → List Nat := fun b => (runA r b).getD []
    have e2 := ih g₂ (fun y hy => hx y (.tail _ hy)) (as.map g₁) fun b hb => by
      obtain ⟨a, ha, rfl⟩ := List.mem_map.mp hb
      obtain ⟨_, b, hb, hr⟩ := key a ha
      have : g₁ a = b := by show (scan x.1 x.2.1 x.2.2 a.length a).getD [] = b; rw [hb]; rfl
      show _ = some ((runA r (g₁ a)).getD [])
      rw [this, hr]; rfl
    rw [e2, List.map_map]
    congr 1
    refine List.map_congr_left fun a ha => ?_
    obtain ⟨_, b, hb, hr⟩ := key a ha
    have : g₁ a = b := by show (scan x.1 x.2.1 x.2.2 a.length a).getD [] = b; rw [hb]; rfl
    show (runA r (g₁ a)).getD [] = g a
    rw [this, hr]; rfl
end Mine
end

section
open PySem PySem.W PyProof.Rows PySem.Spec PySem.Calls
namespace Mine
/-- what stands for a sign in the written text -/
noncomputable def qn (b : Bool) (c : Nat) : List Nat :=
  if c = 38 then [38, 97, 109, 112, 59] else if c = 60 then [38, 108, 116, 59] else if c = 62 then [38, 103, 116, 59] else if c = 10 then [38, 35, 49, 48, 59] else if c = 13 then [38, 35, 49, 51, 59]
  else if c = 9 then [38, 35, 57, 59] else if b = true ∧ c = 34 then [38, 113, 117, 111, 116, 59] else [c]
noncomputable def q1 (c : Nat) : List Nat := [c]
noncomputable def ks12 : List Kvo := [([38, 108, 116, 59], [60], 1), ([38, 103, 116, 59], [62], 1),
  ([92, 38, 92, 35, 49, 48, 59], [92, 10], 5), ([92, 38, 92, 35, 49, 51, 59], [92, 13], 5), ([92, 38, 92, 35, 57, 59], [92, 9], 4),
  ([92, 38, 35, 49, 48, 59], [10], 4), ([92, 38, 35, 49, 51, 59], [13], 4), ([92, 38, 35, 57, 59], [9], 3),
  ([92, 38, 113, 117, 111, 116, 59], [34], 2), ([92, 60], [60], 1), ([92, 62], [62], 1), ([38, 97, 109, 112, 59], [38], 2)]
theorem ks12_kvs : une2 ++ (back3 ++ ins3 ++ oth3) ++ une1 = ks12.map fun x => (S x.1, S x.2.1) := by decide +kernel
noncomputable def outA (nm : Nat → List Nat) (c : Nat) : List Nat := (nm c).flatMap (escBy spA)
noncomputable def insA (nm : Nat → List Nat) (c : Nat) : List Nat := (nm c).flatMap (escBy spB)
noncomputable def frames : List (List Nat) := [[40, 63, 115, 58], [40, 63, 62, 46, 42, 63], [41], [46, 42], [41, 92, 90], [34], [39], [46], [91], [93], [94], [92], []]
noncomputable def gA (a : List Nat) : List Nat := (runA ks12 a).getD []
noncomputable def allA : List (List Nat) := frames ++ menu.map (outA (qn true)) ++ menu.map (insA (qn true)) ++ menu.map (outA (qn false)) ++ menu.map (insA (qn false))
theorem allA_ok : ∀ a ∈ allA, runA ks12 a = some (gA a) := by decide +kernel
theorem frames_ok : ∀ a ∈ frames, gA a = a := by decide +kernel
theorem out_ok (b : Bool) : ∀ c ∈ menu, gA (outA (qn b) c) = outA q1 c := by cases b <;> decide +kernel
theorem ins_ok (b : Bool) : ∀ c ∈ menu, gA (insA (qn b) c) = insA q1 c := by cases b <;> decide +kernel
theorem allA_f {a : List Nat} (h : a ∈ frames) : a ∈ allA := by unfold allA; simp only [List.mem_append]; exact .inl (.inl (.inl (.inl h)))
theorem allA_out (b : Bool) {c : Nat} (h : c ∈ menu) : outA (qn b) c ∈ allA := by
  unfold allA; simp only [List.mem_append]
  cases b
  · exact .inl (.inr (List.mem_map_of_mem h))
  · exact .inl (.inl (.inl (.inr (List.mem_map_of_mem h))))
theorem allA_ins (b : Bool) {c : Nat} (h : c ∈ menu) : insA (qn b) c ∈ allA := by
  unfold allA; simp only [List.mem_append]
  cases b
  · exact .inr (List.mem_map_of_mem h)
  · exact .inl (.inl (.inr (List.mem_map_of_mem h)))
noncomputable def Rel (x y : List Nat) : Prop := ∃ as : List (List Nat), (∀ a ∈ as, a ∈ allA) ∧ as.flatten = x ∧ (as.map gA).flatten = y
theorem Rel.app {x y x' y' : List Nat} (h : Rel x y) (h' : Rel x' y') : Rel (x ++ x') (y ++ y') := by
  obtain ⟨as, h1, h2, h3⟩ := h
  obtain ⟨bs, g1, g2, g3⟩ := h'
  refine ⟨as ++ bs, fun a ha => ?_, by rw [List.flatten_append, h2, g2], by rw [List.map_append, List.flatten_append, h3, g3]⟩
  rcases List.mem_append.mp ha with h | h
  · exact h1 a h
  · exact g1 a h
theorem Rel.nil : Rel [] [] := ⟨[], (fun _ h => nomatch h), rfl, rfl⟩
theorem Rel.fr {x : List Nat} (h : x ∈ frames) : Rel x x := ⟨[x], fun a ha => by rw [List.mem_singleton] at ha; subst ha; exact allA_f h, by simp, by simp [frames_ok x h]⟩
theorem Rel.flat {f f' : Nat → List Nat} (l : List Nat) (h : ∀ c ∈ l, Rel (f c) (f' c)) : Rel (l.flatMap f) (l.flatMap f') := by
  induction l with
  | nil => exact .nil
  | cons c r ih => rw [List.flatMap_cons, List.flatMap_cons]; exact (h c (.head _)).app (ih fun d hd => h d (.tail _ hd))
theorem Rel.out (b : Bool) {c : Nat} (h : c ∈ menu) : Rel (outA (qn b) c) (outA q1 c) := ⟨[outA (qn b) c], fun a ha => by rw [List.mem_singleton] at ha; subst ha; exact allA_out b h, by simp, by simp [out_ok b c h]⟩
theorem Rel.ins (b : Bool) {c : Nat} (h : c ∈ menu) : Rel (insA (qn b) c) (insA q1 c) := ⟨[insA (qn b) c], fun a ha => by rw [List.mem_singleton] at ha; subst ha; exact allA_ins b h, by simp, by simp [ins_ok b c h]⟩
theorem flat_flat (l : List Nat) (nm g : Nat → List Nat) : (l.flatMap nm).flatMap g = l.flatMap fun c => (nm c).flatMap g := by rw [List.flatMap_assoc]
theorem Rel.piece (b : Bool) (it : Item) (h : ∀ c ∈ it.2, c ∈ menu) : Rel (pieceOf (qn b) it) (pieceOf q1 it) := by
  unfold pieceOf
  split
  · exact .fr (by decide)
  · split
    · rw [flat_flat, flat_flat]; exact .flat _ fun c hc => .out b (h c hc)
    · rw [flat_flat, flat_flat]
      have hf : Rel (frontOf it) (frontOf it) := by
        unfold frontOf
        split
        · exact .fr (by decide)
        · split
          · exact .fr (by decide)
          · exact .nil
      exact (((Rel.fr (x := [91]) (by decide)).app hf).app (.flat _ fun c hc => .ins b (h c hc))).app (.fr (by decide))
structure RelS (st st' : TSt) : Prop where
  js : ∃ ps : List (List Nat × List Nat), st.js = ps.map (·.1) ∧ st'.js = ps.map (·.2) ∧ ∀ p ∈ ps, Rel p.1 p.2
  cur : Rel st.cur st'.cur
  last : st.last = st'.last
theorem relS_step (b : Bool) (it : Item) (h : ∀ c ∈ it.2, c ∈ menu) {st st' : TSt} (r : RelS st st') : RelS (stepT (qn b) st it) (stepT q1 st' it) := by
  obtain ⟨⟨ps, h1, h2, h3⟩, hc, hl⟩ := r
  unfold stepT
  split
  · rw [hl]
    split
    · exact ⟨⟨ps, h1, h2, h3⟩, hc, by assumption⟩
    · refine ⟨⟨ps ++ [(st.cur, st'.cur)], by rw [h1]; simp, by rw [h2]; simp, fun p hp => ?_⟩, .nil, rfl⟩
      rcases List.mem_append.mp hp with hp | hp
      · exact h3 p hp
      · rw [List.mem_singleton] at hp; subst hp; exact hc
  · exact ⟨⟨ps, h1, h2, h3⟩, hc.app (.piece b it h), rfl⟩
theorem relS_fold (b : Bool) (its : List Item) : ∀ {st st' : TSt}, (∀ it ∈ its, ∀ c ∈ it.2, c ∈ menu) → RelS st st' → RelS (its.foldl (stepT (qn b)) st) (its.foldl (stepT q1) st') := by
  induction its with
  | nil => intro st st' _ r; exact r
  | cons it r ih => intro st st' h hr; exact ih (fun x hx => h x (.tail _ hx)) (relS_step b it (h it (.head _)) hr)
theorem Rel.runs (ps : List (List Nat × List Nat)) (h : ∀ p ∈ ps, Rel p.1 p.2) : Rel ((ps.map (·.1)).flatMap fun r => [40, 63, 62, 46, 42, 63] ++ r ++ [41]) ((ps.map (·.2)).flatMap fun r => [40, 63, 62, 46, 42, 63] ++ r ++ [41]) := by
  induction ps with
  | nil => exact .nil
  | cons p r ih =>
    simp only [List.map_cons, List.flatMap_cons]
    exact (((Rel.fr (x := [40, 63, 62, 46, 42, 63]) (by decide)).app (h p (.head _))).app (.fr (by decide))).app (ih fun x hx => h x (.tail _ hx))
theorem rel_told (b : Bool) {mark : List Nat} (hm : mark ∈ frames) (its : List Item) (h : ∀ it ∈ its, ∀ c ∈ it.2, c ∈ menu) : Rel (toldOf (qn b) mark its) (toldOf q1 mark its) := by
  have r := relS_fold b its (st := ⟨[], mark, false⟩) (st' := ⟨[], mark, false⟩) h ⟨⟨[], rfl, rfl, fun _ h => nomatch h⟩, .fr hm, rfl⟩
  unfold toldOf toldSt
  generalize its.foldl (stepT (qn b)) ⟨[], mark, false⟩ = st at r
  generalize its.foldl (stepT q1) ⟨[], mark, false⟩ = st' at r
  obtain ⟨⟨ps, h1, h2, h3⟩, hc, hl⟩ := r
  dsimp only
  have e1 : st.js ++ [st.cur] = (ps ++ [(st.cur, st'.cur)]).map (·.1) := by rw [h1]; simp
  have e2 : st'.js ++ [st'.cur] = (ps ++ [(st.cur, st'.cur)]).map (·.2) := by rw [h2]; simp
  have h4 : ∀ p ∈ ps ++ [(st.cur, st'.cur)], Rel p.1 p.2 := fun p hp => by
    rcases List.mem_append.mp hp with hp | hp
    · exact h3 p hp
    · rw [List.mem_singleton] at hp; subst hp; exact hc
  rw [e1, e2]
  generalize ps ++ [(st.cur, st'.cur)] = qs at h4
  have hh : Rel ((qs.map (·.1)).headD []) ((qs.map (·.2)).headD []) := by
    cases qs with
    | nil => exact .nil
    | cons p r => exact h4 p (.head _)
  have ht : Rel ((qs.map (·.1)).tail.dropLast.flatMap fun r => [40, 63, 62, 46, 42, 63] ++ r ++ [41]) ((qs.map (·.2)).tail.dropLast.flatMap fun r => [40, 63, 62, 46, 42, 63] ++ r ++ [41]) := by
    rw [← List.map_tail, ← List.map_dropLast, ← List.map_tail, ← List.map_dropLast]
    exact .runs _ fun p hp => h4 p (List.mem_of_mem_tail (List.dropLast_subset _ hp))
  exact ((((((Rel.fr (by decide)).app hh).app ht).app (.fr (by decide))).app hc).app (.fr hm)).app (.fr (by decide))
theorem une_told (b : Bool) {mark : List Nat} (hm : mark ∈ frames) (its : List Item) (h : ∀ it ∈ its, ∀ c ∈ it.2, c ∈ menu) : lrep ks12 (toldOf (qn b) mark its) = toldOf q1 mark its := by
  obtain ⟨as, h1, h2, h3⟩ := rel_told b hm its h
  rw [← h2, ← h3]
  exact lrep_atoms gA ks12 (by decide) as fun a ha => allA_ok a (h1 a ha)
end Mine
end

section
open PySem PySem.W PyProof.Rows PySem.Spec PySem.Calls
namespace Mine
/-- the parts of a shell pattern -/
inductive PT where
  | ch (c : Nat)
  | star
  | any
  | set (l : List Nat)
noncomputable def showT : PT → List Nat
  | .ch c => [c]
  | .star => [42]
  | .any => [63]
  | .set l => 91 :: l ++ [93]
noncomputable def sub1 (c : Nat) : List Nat := if (c == 38 || c == 124 || c == 126) = true then [92, c] else [c]
noncomputable def dbl1 (c : Nat) : List Nat := if c = 92 then [92, 92] else [c]
noncomputable def stuffOf (l : List Nat) : List Nat := (l.flatMap dbl1).flatMap sub1
noncomputable def frontT (x : List Nat) : List Nat := if x.head? = some 33 then 94 :: x.drop 1 else if x.head? = some 94 ∨ x.head? = some 91 then 92 :: x else x
noncomputable def setP (l : List Nat) : List Nat := 91 :: frontT (stuffOf l) ++ [93]
noncomputable def stepP (ps : List Pc) : PT → List Pc
  | .ch c => ps ++ [.lit (escRe c)]
  | .star => if ps.getLast? = some .star then ps else ps ++ [.star]
  | .any => ps ++ [.lit [46]]
  | .set l => ps ++ [.lit (setP l)]
noncomputable def trP (ts : List PT) : List Pc := ts.foldl stepP []
structure ItOk (it : Item) : Prop where
  mem : ∀ c ∈ it.2, c ∈ menu
  ne : it.1 = .ins ∨ it.1 = .out → it.2 ≠ []
  one : it.1 = .is → ∃ c, it.2 = [c]
  hd : it.1 = .ins → it.2.head? ≠ some 33
noncomputable def itTok (q : Nat → List Nat) (it : Item) : List PT := match it.1 with
  | .star => [.star]
  | .any => [.any]
  | .is => if it.2 = [91] then [.set [91]] else (it.2.flatMap q).map .ch
  | .ins => [.set (it.2.flatMap q)]
  | .out => [.set (33 :: it.2.flatMap q)]
noncomputable def toksOf (q : Nat → List Nat) (m : Nat) (its : List Item) : List PT := [.ch m] ++ its.flatMap (itTok q) ++ [.ch m]
theorem show_ch (l : List Nat) : (l.map PT.ch).flatMap showT = l := by
  induction l with
  | nil => rfl
  | cons c r ih => rw [List.map_cons, List.flatMap_cons, ih]; rfl
/-- the three readings of a sign: with references (the quotation mark kept, or told too), and as it stands -/
noncomputable def qm (k : Fin 3) (c : Nat) : List Nat := if k = 2 then [c] else qn (decide (k = 1)) c
theorem qm_frames (b : Fin 3) : qm b 42 = [42] ∧ qm b 63 = [63] ∧ qm b 91 = [91] ∧ qm b 93 = [93] ∧ qm b 33 = [33] := by revert b; decide
theorem tok_item (b : Fin 3) (it : Item) : (itTok (qm b) it).flatMap showT = (itPat it).flatMap (qm b) := by
  obtain ⟨h42, h63, h91, h93, h33⟩ := qm_frames b
  obtain ⟨k, l⟩ := it
  cases k
  · unfold itTok itPat; dsimp only
    split
    · simp only [List.flatMap_cons, List.flatMap_nil, h91, h93, showT]; rfl
    · exact show_ch _
  · simp only [itTok, itPat, List.flatMap_cons, List.flatMap_nil, h42, showT]
  · simp only [itTok, itPat, List.flatMap_cons, List.flatMap_nil, h63, showT]
  · simp only [itTok, itPat, List.flatMap_cons, List.flatMap_nil, List.flatMap_append, List.cons_append, h91, h93, showT]; simp
  · simp only [itTok, itPat, List.flatMap_cons, List.flatMap_nil, List.flatMap_append, List.cons_append, h91, h93, h33, showT]; simp
theorem tok_show (b : Fin 3) (m : Nat) (its : List Item) : (toksOf (qm b) m its).flatMap showT = [m] ++ (patOf its).flatMap (qm b) ++ [m] := by
  unfold toksOf patOf
  rw [List.flatMap_append, List.flatMap_append]
  have : (its.flatMap (itTok (qm b))).flatMap showT = (its.flatMap itPat).flatMap (qm b) := by
    rw [List.flatMap_assoc, List.flatMap_assoc]
    congr 1
    funext it
    exact tok_item b it
  rw [this]; rfl

noncomputable def runsR : List Pc → List (List Nat)
  | [] => [[]]
  | .star :: r => [] :: runsR r
  | .lit l :: r => match runsR r with | h :: t => (l ++ h) :: t | [] => [l]
theorem runsR_ne : ∀ ps : List Pc, ∃ h t, runsR ps = h :: t
  | [] => ⟨_, _, rfl⟩
  | .star :: r => ⟨_, _, rfl⟩
  | .lit l :: r => by obtain ⟨h, t, e⟩ := runsR_ne r; exact ⟨l ++ h, t, by unfold runsR; rw [e]⟩
theorem runs_star : ∀ (ps : List Pc), runsR (ps ++ [.star]) = runsR ps ++ [[]]
  | [] => rfl
  | .star :: r => by show [] :: runsR (r ++ [.star]) = [] :: runsR r ++ [[]]; rw [runs_star r]; rfl
  | .lit l :: r => by
    obtain ⟨h, t, e⟩ := runsR_ne r
    show (match runsR (r ++ [.star]) with | h :: t => (l ++ h) :: t | [] => [l]) = (match runsR r with | h :: t => (l ++ h) :: t | [] => [l]) ++ [[]]
    rw [runs_star r, e]; rfl
theorem runs_lit : ∀ (ps : List Pc) (js : List (List Nat)) (cur x : List Nat), runsR ps = js ++ [cur] → runsR (ps ++ [.lit x]) = js ++ [cur ++ x]
  | [], js, cur, x, h => by
    cases js with
    | nil =>
      have : cur = [] := by have : [[]] = [cur] := h; simpa using this.symm
      subst this
      show [x ++ []] = _
      simp
    | cons j r => have := congrArg List.length h; simp [runsR] at this
  | .star :: r, js, cur, x, h => by
    cases js with
    | nil =>
      obtain ⟨a, t, e⟩ := runsR_ne r
      have : [] :: runsR r = [cur] := h
      rw [e] at this; simp at this
    | cons j js =>
      have h2 : [] :: runsR r = j :: (js ++ [cur]) := h
      obtain ⟨h3, h4⟩ := List.cons.inj h2
      show [] :: runsR (r ++ [.lit x]) = _
      rw [runs_lit r js cur x h4, ← h3]; rfl
  | .lit l :: r, js, cur, x, h => by
    obtain ⟨a, t, e⟩ := runsR_ne r
    have h1 : (match runsR r with | h :: t => (l ++ h) :: t | [] => [l]) = js ++ [cur] := h
    rw [e] at h1
    show (match runsR (r ++ [.lit x]) with | h :: t => (l ++ h) :: t | [] => [l]) = _
    cases js with
    | nil =>
      simp only [List.nil_append, List.cons.injEq] at h1
      obtain ⟨h2, h3⟩ := h1
      have := runs_lit r [] a x (by rw [e, h3]; rfl)
      rw [this]
      simp [← h2, List.append_assoc]
    | cons j js =>
      simp only [List.cons_append, List.cons.injEq] at h1
      obtain ⟨h2, h3⟩ := h1
      have := runs_lit r (a :: js) cur x (by rw [e, h3]; rfl)
      rw [this]
      simp [← h2]
theorem runs_lits (xs : List (List Nat)) : ∀ (ps : List Pc) (js : List (List Nat)) (cur : List Nat), runsR ps = js ++ [cur] → runsR (ps ++ xs.map .lit) = js ++ [cur ++ xs.flatten] := by
  induction xs with
  | nil => intro ps js cur h; simpa using h
  | cons x r ih =>
    intro ps js cur h
    have := ih (ps ++ [.lit x]) js (cur ++ x) (runs_lit ps js cur x h)
    simpa using this
noncomputable def tel : List (List Nat) → List Nat
  | [] => []
  | [x] => [46, 42] ++ x
  | x :: y :: t => [40, 63, 62, 46, 42, 63] ++ x ++ [41] ++ tel (y :: t)
theorem runs_split : ∀ (r : List Pc), (r.dropWhile isLit = [] ∧ runsR r = [lits r]) ∨ ∃ r', r.dropWhile isLit = .star :: r' ∧ runsR r = lits r :: runsR r' ∧ r'.length < r.length
  | [] => .inl ⟨rfl, rfl⟩
  | .star :: r => .inr ⟨r, rfl, rfl, Nat.lt_succ_self _⟩
  | .lit l :: r => by
    have hl : lits (.lit l :: r) = l ++ lits r := rfl
    have hd : (Pc.lit l :: r).dropWhile isLit = r.dropWhile isLit := rfl
    have hr : runsR (.lit l :: r) = match runsR r with | h :: t => (l ++ h) :: t | [] => [l] := rfl
    rcases runs_split r with ⟨h1, h2⟩ | ⟨r', h1, h2, h3⟩
    · refine .inl ⟨by rw [hd, h1], by rw [hr, h2, hl]⟩
    · exact .inr ⟨r', by rw [hd, h1], by rw [hr, h2, hl], by simp; omega⟩
theorem joinG_tel : ∀ (f : Nat) (r : List Pc), r.length < f → joinG f (.star :: r) = tel (runsR r) := by
  intro f
  induction f with
  | zero => intro r h; omega
  | succ f ih =>
    intro r h
    show (if r = [] then [46, 42] else if r.dropWhile isLit = [] then [46, 42] ++ lits r else [40, 63, 62, 46, 42, 63] ++ lits r ++ [41] ++ joinG f (r.dropWhile isLit)) = _
    split
    · rename_i e; subst e; rfl
    · rcases runs_split r with ⟨h1, h2⟩ | ⟨r', h1, h2, h3⟩
      · rw [if_pos h1, h2]; rfl
      · rw [if_neg (by rw [h1]; exact List.cons_ne_nil _ _), h1, ih r' (by omega), h2]
        obtain ⟨a, t, e⟩ := runsR_ne r'
        rw [e]; rfl
theorem tel_snoc (xs : List (List Nat)) (x : List Nat) : tel (xs ++ [x]) = (xs.flatMap fun r => [40, 63, 62, 46, 42, 63] ++ r ++ [41]) ++ [46, 42] ++ x := by
  induction xs with
  | nil => rfl
  | cons a r ih =>
    obtain ⟨b, t, e⟩ : ∃ b t, r ++ [x] = b :: t := by cases r <;> exact ⟨_, _, rfl⟩
    rw [List.cons_append, e]
    show [40, 63, 62, 46, 42, 63] ++ a ++ [41] ++ tel (b :: t) = _
    rw [← e, ih]; simp
/-- the joined text by its runs -/
theorem join_runs {ps : List Pc} {j : List Nat} {js : List (List Nat)} {cur : List Nat} (h : runsR ps = j :: js ++ [cur]) : joinP ps = [40, 63, 115, 58] ++ j ++ (js.flatMap fun r => [40, 63, 62, 46, 42, 63] ++ r ++ [41]) ++ [46, 42] ++ cur ++ [41, 92, 90] := by
  unfold joinP
  rcases runs_split ps with ⟨h1, h2⟩ | ⟨r', h1, h2, h3⟩
  · rw [h2] at h; simp at h
  · rw [h1, joinG_tel _ _ h3]
    rw [h2] at h
    obtain ⟨e1, e2⟩ := List.cons.inj h
    rw [show runsR r' = js ++ [cur] from e2, tel_snoc, e1]
    simp
end Mine
end

section
open PySem PySem.W PyProof.Rows PySem.Spec PySem.Calls
namespace Mine
structure RelP (ps : List Pc) (st : TSt) : Prop where
  runs : runsR ps = st.js ++ [st.cur]
  last : ps.getLast? = some .star ↔ st.last = true
theorem fold_ch (l : List Nat) : ∀ ps : List Pc, (l.map PT.ch).foldl stepP ps = ps ++ (l.map escRe).map .lit := by
  induction l with
  | nil => intro ps; simp
  | cons c r ih => intro ps; rw [List.map_cons, List.foldl_cons, ih]; simp [stepP]
theorem relP_lits {ps : List Pc} {st : TSt} (h : RelP ps st) (xs : List (List Nat)) (hx : xs ≠ []) {y : List Nat} (hy : xs.flatten = y) : RelP (ps ++ xs.map .lit) ⟨st.js, st.cur ++ y, false⟩ := by
  refine ⟨by rw [runs_lits xs ps _ _ h.runs, hy], ?_⟩
  have : (ps ++ xs.map Pc.lit).getLast? = (xs.map Pc.lit).getLast? := by
    rw [List.getLast?_append]
    cases e : (xs.map Pc.lit).getLast? with
    | none => rw [List.getLast?_eq_none_iff] at e; simp at e; exact absurd e hx
    | some p => rfl
  rw [this]
  constructor
  · intro e
    obtain ⟨x, _, h2⟩ := List.mem_map.mp (List.mem_of_getLast? e)
    cases h2
  · intro e; cases e
theorem esc_menu (b : Fin 3) : ∀ c ∈ menu, c ≠ 91 → (qm b c).flatMap escRe = (qm b c).flatMap (escBy spA) := by revert b; decide
theorem stuff_menu (b : Fin 3) : ∀ c ∈ menu, stuffOf (qm b c) = (qm b c).flatMap (escBy spB) := by revert b; decide
theorem stuff_app (a b : List Nat) : stuffOf (a ++ b) = stuffOf a ++ stuffOf b := by unfold stuffOf; rw [List.flatMap_append, List.flatMap_append]
theorem stuff_flat (b : Fin 3) (l : List Nat) (h : ∀ c ∈ l, c ∈ menu) : stuffOf (l.flatMap (qm b)) = (l.flatMap (qm b)).flatMap (escBy spB) := by
  induction l with
  | nil => rfl
  | cons c r ih => rw [List.flatMap_cons, stuff_app, List.flatMap_append, ih fun d hd => h d (.tail _ hd), stuff_menu b c (h c (.head _))]
theorem head_menu (b : Fin 3) : ∀ c ∈ menu, ∃ d t, (qm b c).flatMap (escBy spB) = d :: t ∧ (d = 33 → c = 33) ∧ (d = 94 ↔ c = 94) ∧ (d = 91 ↔ c = 91) := by
  intro c hc
  have : ∀ c ∈ menu, ((((qm b c).flatMap (escBy spB)).head?.elim false fun d => decide ((d = 33 → c = 33) ∧ (d = 94 ↔ c = 94) ∧ (d = 91 ↔ c = 91))) = true) := by revert b; decide
  have := this c hc
  cases e : (qm b c).flatMap (escBy spB) with
  | nil => rw [e] at this; cases this
  | cons d t => rw [e] at this; exact ⟨d, t, rfl, of_decide_eq_true this⟩
theorem qn_ne (b : Fin 3) (c : Nat) : qm b c ≠ [] := by
  unfold qm qn; repeat' split
  all_goals exact List.cons_ne_nil _ _
theorem set_ins (b : Fin 3) (it : Item) (ok : ItOk it) (hk : it.1 = .ins) : setP (it.2.flatMap (qm b)) = 91 :: frontOf it ++ (it.2.flatMap (qm b)).flatMap (escBy spB) ++ [93] := by
  unfold setP
  rw [stuff_flat b it.2 ok.mem]
  have hne := ok.ne (.inl hk)
  have hhd := ok.hd hk
  have hm := ok.mem
  obtain ⟨k, l⟩ := it
  dsimp only at hk hne hhd hm ⊢
  subst hk
  cases l with
  | nil => exact absurd rfl hne
  | cons c r =>
    obtain ⟨d, t, e, h1, h2, h3⟩ := head_menu b c (hm c (.head _))
    rw [List.flatMap_cons, List.flatMap_append, e]
    have hc33 : c ≠ 33 := fun q => hhd (by rw [q]; rfl)
    unfold frontT frontOf
    simp only [List.cons_append, List.head?_cons, Option.some.injEq, h2, h3, reduceCtorEq, if_false]
    rw [if_neg (fun q => hc33 (h1 q))]
    split <;> simp
theorem set_out (b : Fin 3) (it : Item) (ok : ItOk it) (hk : it.1 = .out) : setP (33 :: it.2.flatMap (qm b)) = 91 :: frontOf it ++ (it.2.flatMap (qm b)).flatMap (escBy spB) ++ [93] := by
  unfold setP
  rw [show (33 :: it.2.flatMap (qm b)) = [33] ++ it.2.flatMap (qm b) from rfl, stuff_app, stuff_flat b it.2 ok.mem, show stuffOf [33] = [33] by decide]
  unfold frontOf frontT
  rw [if_pos hk]
  simp
theorem set91 (b : Fin 3) : [setP [91]].flatten = 91 :: [92] ++ ([91].flatMap (qm b)).flatMap (escBy spB) ++ [93] := by revert b; decide
theorem relP_item (b : Fin 3) (it : Item) (ok : ItOk it) {ps : List Pc} {st : TSt} (h : RelP ps st) : RelP ((itTok (qm b) it).foldl stepP ps) (stepT (qm b) st it) := by
  unfold stepT
  by_cases hs : it.1 = .star
  · rw [if_pos hs]
    have e : (itTok (qm b) it).foldl stepP ps = if ps.getLast? = some .star then ps else ps ++ [.star] := by unfold itTok; rw [hs]; rfl
    rw [e]
    by_cases hl : st.last = true
    · rw [if_pos (h.last.mpr hl), if_pos hl]; exact h
    · rw [if_neg (fun q => hl (h.last.mp q)), if_neg hl]
      exact ⟨by rw [runs_star, h.runs], by simp⟩
  · rw [if_neg hs]
    by_cases ha : it.1 = .any
    · rw [show itTok (qm b) it = [.any] by unfold itTok; rw [ha], show pieceOf (qm b) it = [46] by unfold pieceOf; rw [if_pos ha]]
      exact relP_lits h [[46]] (List.cons_ne_nil _ _) rfl
    · by_cases hi : it.1 = .is
      · by_cases hb : it.2 = [91]
        · have hf : frontOf it = [92] := by unfold frontOf; rw [hi, hb]; rfl
          rw [show itTok (qm b) it = [.set [91]] by unfold itTok; rw [hi]; exact if_pos hb,
            show pieceOf (qm b) it = 91 :: [92] ++ ([91].flatMap (qm b)).flatMap (escBy spB) ++ [93] by unfold pieceOf; rw [if_neg ha, if_neg (fun q => q.2 hb), hf, hb]]
          exact relP_lits h [setP [91]] (List.cons_ne_nil _ _) (set91 b)
        · obtain ⟨c, hc⟩ := ok.one hi
          have hcm := ok.mem c (by rw [hc]; exact .head _)
          rw [show itTok (qm b) it = (it.2.flatMap (qm b)).map .ch by unfold itTok; rw [hi]; exact if_neg hb,
            show pieceOf (qm b) it = (it.2.flatMap (qm b)).flatMap (escBy spA) by unfold pieceOf; rw [if_neg ha, if_pos ⟨hi, hb⟩]]
          rw [hc] at hb ⊢
          rw [fold_ch]
          have e : ([c].flatMap (qm b)) = qm b c := by simp
          rw [e]
          refine relP_lits h _ (by simp; exact qn_ne b c) ?_
          rw [flat_one]
          exact esc_menu b c hcm fun q => hb (by rw [q])
      · rw [show pieceOf (qm b) it = 91 :: frontOf it ++ (it.2.flatMap (qm b)).flatMap (escBy spB) ++ [93] by unfold pieceOf; rw [if_neg ha, if_neg (fun q => hi q.1)]]
        by_cases hn : it.1 = .ins
        · rw [← set_ins b it ok hn, show itTok (qm b) it = [.set (it.2.flatMap (qm b))] by unfold itTok; rw [hn]]
          exact relP_lits h [setP (it.2.flatMap (qm b))] (List.cons_ne_nil _ _) (by simp)
        · have ho : it.1 = .out := by revert hs ha hi hn; cases it.1 <;> simp
          rw [← set_out b it ok ho, show itTok (qm b) it = [.set (33 :: it.2.flatMap (qm b))] by unfold itTok; rw [ho]]
          exact relP_lits h [setP (33 :: it.2.flatMap (qm b))] (List.cons_ne_nil _ _) (by simp)
theorem relP_fold (b : Fin 3) (its : List Item) : ∀ {ps : List Pc} {st : TSt}, (∀ it ∈ its, ItOk it) → RelP ps st → RelP ((its.flatMap (itTok (qm b))).foldl stepP ps) (its.foldl (stepT (qm b)) st) := by
  induction its with
  | nil => intro ps st _ r; exact r
  | cons it r ih =>
    intro ps st h hr
    rw [List.flatMap_cons, List.foldl_append, List.foldl_cons]
    exact ih (fun x hx => h x (.tail _ hx)) (relP_item b it (h it (.head _)) hr)
theorem js_keep (nm : Nat → List Nat) (its : List Item) : ∀ st : TSt, st.js ≠ [] → (its.foldl (stepT nm) st).js ≠ [] := by
  induction its with
  | nil => intro st h; exact h
  | cons it r ih =>
    intro st h
    refine ih _ ?_
    unfold stepT
    split
    · split
      · exact h
      · simp
    · exact h
theorem js_ne (nm : Nat → List Nat) (its : List Item) (hs : ∃ it ∈ its, it.1 = .star) : ∀ st : TSt, (st.last = true → st.js ≠ []) → (its.foldl (stepT nm) st).js ≠ [] := by
  induction its with
  | nil => obtain ⟨it, h, _⟩ := hs; cases h
  | cons it r ih =>
    intro st h
    rw [List.foldl_cons]
    by_cases hk : it.1 = .star
    · refine js_keep nm r _ ?_
      unfold stepT
      rw [if_pos hk]
      split
      · exact h (by assumption)
      · simp
    · obtain ⟨x, hx, hxs⟩ := hs
      rcases List.mem_cons.mp hx with rfl | hx
      · exact absurd hxs hk
      · refine ih ⟨x, hx, hxs⟩ _ ?_
        unfold stepT
        rw [if_neg hk]
        intro q; cases q
/-- the plain law of translate -/
theorem told_join (b : Fin 3) {m : Nat} (hm : m = 34 ∨ m = 39) (its : List Item) (ok : ∀ it ∈ its, ItOk it) (hs : ∃ it ∈ its, it.1 = .star) : joinP (trP (toksOf (qm b) m its)) = toldOf (qm b) [m] its := by
  have he : escRe m = [m] := by rcases hm with rfl | rfl <;> rfl
  have r := relP_fold b its (ps := [.lit [m]]) (st := ⟨[], [m], false⟩) ok ⟨by show [[m] ++ []] = _; simp, by simp⟩
  have e : trP (toksOf (qm b) m its) = (its.flatMap (itTok (qm b))).foldl stepP [.lit [m]] ++ [.lit [m]] := by
    unfold trP toksOf
    rw [List.foldl_append, List.foldl_append]
    show stepP ((its.flatMap (itTok (qm b))).foldl stepP ([] ++ [.lit (escRe m)])) (.ch m) = _
    rw [he]
    show _ ++ [Pc.lit (escRe m)] = _
    rw [he]; rfl
  have hj := js_ne (qm b) its hs ⟨[], [m], false⟩ fun q => by cases q
  rw [e]
  unfold toldOf toldSt
  generalize its.foldl (stepT (qm b)) ⟨[], [m], false⟩ = st at r hj
  generalize (its.flatMap (itTok (qm b))).foldl stepP [.lit [m]] = ps at r
  cases hjs : st.js with
  | nil => exact absurd hjs hj
  | cons j js =>
    have h2 := runs_lit ps st.js st.cur [m] r.runs
    rw [hjs] at h2
    rw [join_runs h2]
    dsimp only
    rw [hjs]
    rw [show (j :: js ++ [st.cur]).headD [] = j from rfl, show (j :: js ++ [st.cur]).tail = js ++ [st.cur] from rfl, List.dropLast_concat]
    simp
/-- what the join asks of the pieces -/
theorem step_chain (t : PT) (ps : List Pc) (h : ∀ i, ps[i]? = some Pc.star → ps[i + 1]? ≠ some .star) : ∀ i, (stepP ps t)[i]? = some Pc.star → (stepP ps t)[i + 1]? ≠ some .star := by
  have lit : ∀ x, ∀ i, (ps ++ [Pc.lit x])[i]? = some Pc.star → (ps ++ [Pc.lit x])[i + 1]? ≠ some .star := by
    intro x i h1 h2
    rw [List.getElem?_append] at h1 h2
    split at h1
    · split at h2
      · exact h i h1 h2
      · have : (i + 1) - ps.length = 0 := by omega
        rw [this] at h2; cases h2
    · rename_i hi
      cases hd : i - ps.length with
      | zero => rw [hd] at h1; cases h1
      | succ n => rw [hd] at h1; simp at h1
  cases t with
  | ch c => exact lit _
  | any => exact lit _
  | set l => exact lit _
  | star =>
    by_cases hl : ps.getLast? = some .star
    · rw [show stepP ps .star = ps from if_pos hl]; exact h
    · rw [show stepP ps .star = ps ++ [.star] from if_neg hl]
      intro i h1 h2
      rw [List.getElem?_append] at h1 h2
      split at h1
      · rename_i hi
        split at h2
        · exact h i h1 h2
        · apply hl
          rw [List.getLast?_eq_getElem?]
          have : i = ps.length - 1 := by omega
          rw [← this]; exact h1
      · split at h2
        · omega
        · have := (List.getElem?_eq_some_iff.mp h2).1
          simp at this
          omega
theorem tr_chain (ts : List PT) : ∀ (ps : List Pc), (∀ i, ps[i]? = some Pc.star → ps[i + 1]? ≠ some .star) → ∀ i, (ts.foldl stepP ps)[i]? = some Pc.star → (ts.foldl stepP ps)[i + 1]? ≠ some .star := by
  induction ts with
  | nil => intro ps h; exact h
  | cons t r ih => intro ps h; exact ih _ (step_chain t ps h)
theorem escRe_len (c : Nat) : (escRe c).length ≤ 2 := by unfold escRe; split <;> simp
theorem sub1_len (c : Nat) : (sub1 c).length ≤ 2 := by unfold sub1; split <;> simp
theorem dbl1_len (c : Nat) : (dbl1 c).length ≤ 2 := by unfold dbl1; split <;> simp
theorem stuff_len (l : List Nat) : (stuffOf l).length ≤ 4 * l.length := by
  unfold stuffOf
  have h1 := flat_len sub1 (l.flatMap dbl1) 2 fun c _ => sub1_len c
  have h2 := flat_len dbl1 l 2 fun c _ => dbl1_len c
  omega
theorem frontT_len (x : List Nat) : (frontT x).length ≤ x.length + 1 := by
  unfold frontT
  split
  · simp
  · split <;> simp
noncomputable def litSum (ps : List Pc) : Nat := (ps.map litOf).flatten.length
theorem litSum_app (a b : List Pc) : litSum (a ++ b) = litSum a + litSum b := by unfold litSum; rw [List.map_append, List.flatten_append, List.length_append]
theorem step_len (t : PT) (ps : List Pc) : litSum (stepP ps t) ≤ litSum ps + 4 * (showT t).length ∧ (stepP ps t).length ≤ ps.length + (showT t).length := by
  have lit : ∀ x, litSum (ps ++ [Pc.lit x]) = litSum ps + x.length := fun x => by rw [litSum_app]; show _ = _ + x.length; simp [litSum, litOf]
  cases t with
  | ch c => unfold stepP; rw [lit]; have := escRe_len c; simp [showT]; omega
  | any => unfold stepP; rw [lit]; simp [showT]
  | set l =>
    unfold stepP; rw [lit]
    have h1 := stuff_len l
    have h2 := frontT_len (stuffOf l)
    unfold setP
    simp [showT]; omega
  | star =>
    by_cases hl : ps.getLast? = some .star
    · rw [show stepP ps .star = ps from if_pos hl]; simp [showT]
    · rw [show stepP ps .star = ps ++ [.star] from if_neg hl, litSum_app]; simp [litSum, litOf, showT]
theorem tr_len (ts : List PT) : ∀ ps : List Pc, litSum (ts.foldl stepP ps) ≤ litSum ps + 4 * (ts.flatMap showT).length ∧ (ts.foldl stepP ps).length ≤ ps.length + (ts.flatMap showT).length := by
  induction ts with
  | nil => intro ps; simp
  | cons t r ih =>
    intro ps
    have h1 := step_len t ps
    have h2 := ih (stepP ps t)
    rw [List.foldl_cons, List.flatMap_cons, List.length_append]
    omega
theorem tel_len (xs : List (List Nat)) : (tel xs).length ≤ xs.flatten.length + 7 * xs.length := by
  induction xs with
  | nil => simp [tel]
  | cons a r ih =>
    cases r with
    | nil => simp [tel] <;> omega
    | cons b t =>
      show ([40, 63, 62, 46, 42, 63] ++ a ++ [41] ++ tel (b :: t)).length ≤ _
      rw [List.flatten_cons]
      simp only [List.length_append, List.length_cons, List.length_nil] at ih ⊢
      omega
theorem runs_len : ∀ ps : List Pc, (runsR ps).flatten.length = litSum ps ∧ (runsR ps).length ≤ ps.length + 1
  | [] => ⟨rfl, Nat.le_refl _⟩
  | .star :: r => by
    have := runs_len r
    have e : litSum (.star :: r) = litSum r := rfl
    rw [e]
    show (runsR r).flatten.length = _ ∧ (runsR r).length + 1 ≤ r.length + 1 + 1
    omega
  | .lit l :: r => by
    have := runs_len r
    obtain ⟨h, t, e⟩ := runsR_ne r
    have e2 : litSum (.lit l :: r) = l.length + litSum r := by unfold litSum; rw [List.map_cons, List.flatten_cons, List.length_append]; rfl
    have e3 : runsR (.lit l :: r) = (l ++ h) :: t := by show (match runsR r with | h :: t => (l ++ h) :: t | [] => [l]) = _; rw [e]
    rw [e2, e3]
    rw [e, List.flatten_cons, List.length_append, List.length_cons] at this
    rw [List.flatten_cons, List.length_append, List.length_append, List.length_cons, List.length_cons]
    omega
theorem join_len (ps : List Pc) : (lits ps ++ joinG ps.length (ps.dropWhile isLit)).length ≤ litSum ps + 8 * ps.length + 8 := by
  have hr := runs_len ps
  rcases runs_split ps with ⟨h1, h2⟩ | ⟨r', h1, h2, h3⟩
  · rw [h1]
    rw [h2, List.flatten_cons, List.flatten_nil, List.append_nil] at hr
    have e0 : joinG ps.length [] = [] := by cases ps.length <;> rfl
    rw [e0, List.append_nil]
    omega
  · rw [h1, joinG_tel _ _ h3, List.length_append]
    rw [h2, List.flatten_cons, List.length_append, List.length_cons] at hr
    have := tel_len (runsR r')
    omega
end Mine
end

section
open PySem PySem.W PyProof.Rows PySem.Spec PySem.Calls
namespace Mine
noncomputable def s1 (c : Nat) (v : List Nat) (d : Nat) : List Nat := if d = c then v else [d]
theorem rep_one (c : Nat) (v : List Nat) : ∀ l : List Nat, repL [c] v l = l.flatMap (s1 c v)
  | [] => rfl
  | d :: r => by
    have ih := rep_one c v r
    rw [repL_cons (List.cons_ne_nil _ _), List.flatMap_cons]
    by_cases h : d = c
    · rw [if_pos (by simp [List.isPrefixOf, h])]
      show v ++ repL [c] v r = _
      rw [ih]; unfold s1; rw [if_pos h]
    · rw [if_neg (by simp [List.isPrefixOf]; exact fun q => h q.symm), ih]; unfold s1; rw [if_neg h]; rfl
noncomputable def chain : List (Nat × List Nat) → (Nat → List Nat) → Nat → List Nat
  | [], q => q
  | x :: r, q => chain r fun d => (q d).flatMap (s1 x.1 x.2)
noncomputable def bdOk : List (Nat × List Nat) → (Nat → List Nat) → Nat → Bool
  | [], _, _ => true
  | x :: r, q, d => decide ((q d).length ≤ 8) && decide (x.2.length ≤ 8) && bdOk r (fun d => (q d).flatMap (s1 x.1 x.2)) d
theorem replace_one' (l : List Nat) (c : Nat) (v : List Nat) : Txt.replace (S l) (S [c]) (S v) = S (l.flatMap (s1 c v)) := by
  rw [replace_rep l [c] v (List.cons_ne_nil _ _)]
  exact congrArg S (rep_one c v l)
theorem dRep_chain (l : List Nat) : ∀ (xs : List (Nat × List Nat)) (q : Nat → List Nat), dRep (xs.map fun x => (S [x.1], S x.2)) (S (l.flatMap q)) = S (l.flatMap (chain xs q))
  | [], q => rfl
  | x :: r, q => by
    show dRep (r.map fun x => (S [x.1], S x.2)) (Txt.replace (S (l.flatMap q)) (S [x.1]) (S x.2)) = _
    rw [replace_one', List.flatMap_assoc]
    exact dRep_chain l r _
theorem fitR_of {x z : Str} (h1 : x.length ≤ 100000) (h2 : z.length ≤ 100) : fitR x z := by
  unfold fitR
  have : (x.length + 1) * z.length ≤ 100001 * 100 := Nat.mul_le_mul (by omega) h2
  omega
theorem dFit_chain (l : List Nat) (hl : l.length ≤ 10000) (h0 : l ≠ []) : ∀ (xs : List (Nat × List Nat)) (q : Nat → List Nat), (∀ d ∈ l, bdOk xs q d = true) → dFit (xs.map fun x => (S [x.1], S x.2)) (S (l.flatMap q))
  | [], q, _ => trivial
  | x :: r, q, h => by
    have h' : ∀ d ∈ l, (q d).length ≤ 8 ∧ x.2.length ≤ 8 ∧ bdOk r (fun d => (q d).flatMap (s1 x.1 x.2)) d = true := fun d hd => by
      have := h d hd
      unfold bdOk at this
      simp only [Bool.and_eq_true, decide_eq_true_eq] at this
      exact ⟨this.1.1, this.1.2, this.2⟩
    refine ⟨?_, ?_⟩
    · obtain ⟨d, t, e⟩ : ∃ d t, l = d :: t := by cases l with | nil => exact absurd rfl h0 | cons d t => exact ⟨d, t, rfl⟩
      refine fitR_of ?_ ?_
      · rw [sLen]
        have := flat_len q l 8 fun d hd => (h' d hd).1
        omega
      · show (S x.2).length ≤ 100
        rw [sLen]; have := (h' d (by rw [e]; exact .head _)).2.1; omega
    · show dFit (r.map fun x => (S [x.1], S x.2)) (Txt.replace (S (l.flatMap q)) (S [x.1]) (S x.2))
      rw [replace_one', List.flatMap_assoc]
      exact dFit_chain l hl h0 r _ fun d hd => (h' d hd).2.2
noncomputable def cvs6 : List (Nat × List Nat) := [(38, [38, 97, 109, 112, 59]), (62, [38, 103, 116, 59]), (60, [38, 108, 116, 59]), (10, [38, 35, 49, 48, 59]), (13, [38, 35, 49, 51, 59]), (9, [38, 35, 57, 59])]
theorem cvs6_eq : esc3 ++ ws3 = cvs6.map fun x => (S [x.1], S x.2) := by decide +kernel
theorem cvs6_bd : ∀ d, d < 128 → bdOk cvs6 q1 d = true := by decide +kernel
theorem cvs6_chain : ∀ d, d < 128 → chain cvs6 q1 d = qn false d := by decide +kernel
theorem flat_congr {f g : Nat → List Nat} (l : List Nat) (h : ∀ d ∈ l, f d = g d) : l.flatMap f = l.flatMap g := by
  induction l with
  | nil => rfl
  | cons d r ih => rw [List.flatMap_cons, List.flatMap_cons, h d (.head _), ih fun x hx => h x (.tail _ hx)]
theorem flat_q1 (l : List Nat) : l.flatMap q1 = l := by
  induction l with
  | nil => rfl
  | cons d r ih => rw [List.flatMap_cons, ih]; rfl
theorem esc_eq (l : List Nat) (h : ∀ d ∈ l, d < 128) : dRep (esc3 ++ ws3) (S l) = S (l.flatMap (qn false)) := by
  have := dRep_chain l cvs6 q1
  rw [flat_q1] at this
  rw [cvs6_eq, this, flat_congr l fun d hd => cvs6_chain d (h d hd)]
theorem esc_fit (l : List Nat) (h : ∀ d ∈ l, d < 128) (hl : l.length ≤ 10000) (h0 : l ≠ []) : dFit (esc3 ++ ws3) (S l) := by
  have := dFit_chain l hl h0 cvs6 q1 fun d hd => cvs6_bd d (h d hd)
  rw [flat_q1] at this
  rw [cvs6_eq]; exact this
noncomputable def bothOf (l : List Nat) : Bool := decide (34 ∈ l) && decide (39 ∈ l)
noncomputable def markOf (l : List Nat) : Nat := if (decide (34 ∈ l) && !bothOf l) = true then 39 else 34
theorem mark_or (l : List Nat) : markOf l = 34 ∨ markOf l = 39 := by unfold markOf; split <;> simp
theorem mem34 : ∀ d, d < 128 → (34 ∈ qn false d ↔ d = 34) := by decide +kernel
theorem mem39 : ∀ d, d < 128 → (39 ∈ qn false d ↔ d = 39) := by decide +kernel
theorem quot_eq : ∀ d, d < 128 → (qn false d).flatMap (s1 34 [38, 113, 117, 111, 116, 59]) = qn true d := by decide +kernel
theorem mem_flat {l : List Nat} {c : Nat} (h : ∀ d ∈ l, d < 128) (hc : ∀ d, d < 128 → (c ∈ qn false d ↔ d = c)) : c ∈ l.flatMap (qn false) ↔ c ∈ l := by
  rw [List.mem_flatMap]
  constructor
  · rintro ⟨d, hd, hm⟩
    have := (hc d (h d hd)).mp hm
    subst this; exact hd
  · intro hm
    exact ⟨c, hm, (hc c (h c hm)).mpr rfl⟩
theorem noC_S (l : List Nat) (c : Nat) : noC (S l) (S [c]) = !decide (c ∈ l) := empty_S l c
theorem qaS_eq (l : List Nat) (h : ∀ d ∈ l, d < 128) : qaS (S (l.flatMap (qn false))) = S ([markOf l] ++ l.flatMap (qn (bothOf l)) ++ [markOf l]) := by
  have e34 : Str.ofString "\"" = S [34] := by decide +kernel
  have e39 : Str.ofString "'" = S [39] := by decide +kernel
  have eq : Str.ofString "&quot;" = S [38, 113, 117, 111, 116, 59] := by decide +kernel
  unfold qaS
  rw [e34, e39, eq, noC_S, noC_S, replace_one', List.flatMap_assoc, flat_congr l fun d hd => quot_eq d (h d hd)]
  rw [show decide (34 ∈ l.flatMap (qn false)) = decide (34 ∈ l) from decide_eq_decide.mpr (mem_flat h (mem34)), show decide (39 ∈ l.flatMap (qn false)) = decide (39 ∈ l) from decide_eq_decide.mpr (mem_flat h (mem39))]
  unfold markOf bothOf
  by_cases h1 : 34 ∈ l <;> by_cases h2 : 39 ∈ l <;> simp [h1, h2, sApp]
theorem qn_len (b : Bool) (c : Nat) : (qn b c).length ≤ 6 := by
  unfold qn; repeat' split
  all_goals simp
theorem quot_len (l : List Nat) (h : ∀ d ∈ l, d < 128) : (Txt.replace (S (l.flatMap (qn false))) (Str.ofString "\"") (Str.ofString "&quot;")).length ≤ 6 * l.length := by
  rw [show Str.ofString "\"" = S [34] by decide +kernel, show Str.ofString "&quot;" = S [38, 113, 117, 111, 116, 59] by decide +kernel, replace_one', List.flatMap_assoc, flat_congr l fun d hd => quot_eq d (h d hd), sLen]
  exact flat_len _ _ _ fun c _ => qn_len true c
theorem qn_lt (b : Bool) : ∀ d, d < 128 → ∀ e ∈ qn b d, e < 128 := by cases b <;> decide +kernel

/-- unescape by lists -/
theorem dRep_lrep : ∀ (ks : List Kvo), (∀ x ∈ ks, x.2.2 < x.1.length) → ∀ l : List Nat, dRep (ks.map fun x => (S x.1, S x.2.1)) (S l) = S (lrep ks l)
  | [], _, _ => rfl
  | x :: r, h, l => by
    have hk : x.1 ≠ [] := fun e => by have := h x (.head _); rw [e] at this; simp at this
    show dRep (r.map fun x => (S x.1, S x.2.1)) (Txt.replace (S l) (S x.1) (S x.2.1)) = _
    rw [replace_rep l _ _ hk]
    exact dRep_lrep r (fun y hy => h y (.tail _ hy)) _
theorem rep_len {k v : List Nat} (hk : k ≠ []) (hv : v.length ≤ k.length) : ∀ (n : Nat) (l : List Nat), l.length ≤ n → (repL k v l).length ≤ l.length := by
  have hkl : 1 ≤ k.length := List.length_pos_iff.mpr hk
  intro n
  induction n with
  | zero => intro l h; have : l = [] := List.length_eq_zero_iff.mp (by omega); subst this; exact Nat.le_refl _
  | succ n ih =>
    intro l h
    cases l with
    | nil => exact Nat.zero_le _
    | cons c r =>
      rw [repL_cons hk]
      simp only [List.length_cons] at h
      split
      · rename_i hp
        have hp' := (List.isPrefixOf_iff_prefix.mp hp).length_le
        have := ih ((c :: r).drop k.length) (by simp; omega)
        rw [List.length_append]
        rw [List.length_drop] at this
        omega
      · have := ih r (by omega)
        simp only [List.length_cons]; omega
theorem dFit_lrep : ∀ (ks : List Kvo), (∀ x ∈ ks, x.2.2 < x.1.length ∧ x.2.1.length ≤ x.1.length ∧ x.2.1.length ≤ 100) → ∀ l : List Nat, l.length ≤ 100000 → dFit (ks.map fun x => (S x.1, S x.2.1)) (S l)
  | [], _, _, _ => trivial
  | x :: r, h, l, hl => by
    have hx := h x (.head _)
    have hk : x.1 ≠ [] := fun e => by have := hx.1; rw [e] at this; simp at this
    refine ⟨fitR_of (by rw [sLen]; exact hl) (by show (S x.2.1).length ≤ 100; rw [sLen]; exact hx.2.2), ?_⟩
    show dFit (r.map fun x => (S x.1, S x.2.1)) (Txt.replace (S l) (S x.1) (S x.2.1))
    rw [replace_rep l _ _ hk]
    refine dFit_lrep r (fun y hy => h y (.tail _ hy)) _ ?_
    have := rep_len hk hx.2.1 l.length l (Nat.le_refl _)
    exact Nat.le_trans this hl
end Mine
end

section
open PySem PySem.W PyProof.Rows PySem.Spec PySem.Calls
namespace Mine
theorem sign_menu (x : Int) : signOf x ∈ menu := by
  unfold signOf
  have h1 : 0 ≤ x % 64 / 4 := by omega
  have h2 : x % 64 / 4 < 16 := by omega
  generalize x % 64 / 4 = k at h1 h2
  obtain ⟨j, rfl⟩ := Int.eq_ofNat_of_zero_le h1
  have hj : j < 16 := by omega
  have : ∀ j : Nat, j < 16 → menu.getD j 0 ∈ menu := by decide
  exact this j hj
theorem itOk_is {c : Nat} (h : c ∈ menu) : ItOk (.is, [c]) := ⟨fun d hd => by rw [List.mem_singleton] at hd; rw [hd]; exact h, fun h => (by rcases h with h | h <;> cases h), fun _ => ⟨c, rfl⟩, fun h => (by cases h)⟩
theorem itOk_star : ItOk (.star, []) := ⟨fun _ h => (nomatch h), fun h => (by rcases h with h | h <;> cases h), fun h => (nomatch h), fun h => (nomatch h)⟩
theorem itOk_any : ItOk (.any, []) := ⟨fun _ h => (nomatch h), fun h => (by rcases h with h | h <;> cases h), fun h => (nomatch h), fun h => (nomatch h)⟩
theorem itOk_out {l : List Nat} (h : ∀ c ∈ l, c ∈ menu) (h0 : l ≠ []) : ItOk (.out, l) := ⟨h, fun _ => h0, fun h => (nomatch h), fun h => (nomatch h)⟩
theorem itOk_ins {l : List Nat} (h : ∀ c ∈ l, c ∈ menu) (h0 : l ≠ []) (h1 : l.head? ≠ some 33) : ItOk (.ins, l) := ⟨h, fun _ => h0, fun h => (nomatch h), fun _ => h1⟩
theorem itOk_step (its : List Item) (x : Int) (h : ∀ it ∈ its, ItOk it) : ∀ it ∈ stepI its x, ItOk it := by
  intro it hit
  have hm := sign_menu x
  unfold stepI at hit
  dsimp only at hit
  split at hit
  · rcases List.mem_append.mp hit with hi | hi
    · exact h it hi
    · rw [List.mem_singleton] at hi; subst hi; exact itOk_is hm
  · split at hit
    · rcases List.mem_append.mp hit with hi | hi
      · exact h it hi
      · rw [List.mem_singleton] at hi; subst hi
        split
        · exact itOk_star
        · exact itOk_any
    · split at hit
      · rcases List.mem_append.mp hit with hi | hi
        · exact h it hi
        · rw [List.mem_singleton] at hi; subst hi
          exact itOk_out (fun c hc => by rw [List.mem_singleton] at hc; rw [hc]; exact hm) (List.cons_ne_nil _ _)
      · split at hit
        · rename_i l hl
          have h0 := h _ (List.mem_of_getLast? hl)
          rcases List.mem_append.mp hit with hi | hi
          · exact h it (List.dropLast_subset _ hi)
          · rw [List.mem_singleton] at hi; subst hi
            refine itOk_ins (fun c hc => ?_) (by simp) ?_
            · rcases List.mem_append.mp hc with hc | hc
              · exact h0.mem c hc
              · rw [List.mem_singleton] at hc; rw [hc]; exact hm
            · have h1 := h0.ne (.inl rfl)
              have h2 := h0.hd rfl
              dsimp only at h1 h2
              cases l with
              | nil => exact absurd rfl h1
              | cons c r => exact h2
        · rename_i l hl
          have h0 := h _ (List.mem_of_getLast? hl)
          rcases List.mem_append.mp hit with hi | hi
          · exact h it (List.dropLast_subset _ hi)
          · rw [List.mem_singleton] at hi; subst hi
            refine itOk_out (fun c hc => ?_) (by simp)
            rcases List.mem_append.mp hc with hc | hc
            · exact h0.mem c hc
            · rw [List.mem_singleton] at hc; rw [hc]; exact hm
        · rcases List.mem_append.mp hit with hi | hi
          · exact h it hi
          · rw [List.mem_singleton] at hi; subst hi
            split
            · exact itOk_ins (by decide) (by decide) (by decide)
            · rename_i hn
              exact itOk_ins (fun c hc => by rw [List.mem_singleton] at hc; rw [hc]; exact hm) (List.cons_ne_nil _ _) (fun q => hn (by simpa using q))
theorem itOk_fold (xs : List Int) : ∀ its : List Item, (∀ it ∈ its, ItOk it) → ∀ it ∈ xs.foldl stepI its, ItOk it := by
  induction xs with
  | nil => intro its h; exact h
  | cons x r ih => intro its h; exact ih _ (itOk_step its x h)
theorem itOk_0 (n : Nat) : ∀ it ∈ items0 n, ItOk it := by
  intro it h
  unfold items0 at h
  simp only [List.mem_cons, List.not_mem_nil, or_false] at h
  rcases h with rfl | rfl | rfl
  · split
    · exact itOk_is (by decide)
    · exact itOk_is (by decide)
  · exact itOk_star
  · exact itOk_ins (by decide) (by decide) (by decide)
theorem items_ok (ns : List Int) : ∀ it ∈ itemsOf ns, ItOk it := itOk_fold _ _ (itOk_0 _)
theorem star_step (its : List Item) (x : Int) (h : ∃ it ∈ its, it.1 = .star) : ∃ it ∈ stepI its x, it.1 = .star := by
  obtain ⟨it, h1, h2⟩ := h
  have app : ∀ y, ∃ it ∈ its ++ y, it.1 = Kd.star := fun y => ⟨it, List.mem_append_left _ h1, h2⟩
  have drop : ∀ k l y, its.getLast? = some (k, l) → k ≠ .star → ∃ it ∈ its.dropLast ++ y, it.1 = Kd.star := fun k l y hl hk => by
    refine ⟨it, List.mem_append_left _ ?_, h2⟩
    have hne : its ≠ [] := fun e => by rw [e] at h1; cases h1
    have e := List.dropLast_concat_getLast hne
    rw [← e] at h1
    rcases List.mem_append.mp h1 with h | h
    · exact h
    · rw [List.mem_singleton] at h
      have : its.getLast? = some (its.getLast hne) := List.getLast?_eq_some_getLast hne
      rw [this, ← h] at hl
      cases hl
      exact absurd h2 hk
  unfold stepI
  dsimp only
  split
  · exact app _
  · split
    · exact app _
    · split
      · exact app _
      · split
        · exact drop _ _ _ (by assumption) (by decide)
        · exact drop _ _ _ (by assumption) (by decide)
        · exact app _
theorem star_fold (xs : List Int) : ∀ its : List Item, (∃ it ∈ its, it.1 = .star) → ∃ it ∈ xs.foldl stepI its, it.1 = .star := by
  induction xs with
  | nil => intro its h; exact h
  | cons x r ih => intro its h; exact ih _ (star_step its x h)
theorem items_star (ns : List Int) : ∃ it ∈ itemsOf ns, it.1 = .star := star_fold _ _ ⟨(.star, []), by unfold items0; simp, rfl⟩
theorem items_len (ns : List Int) : (itemsOf ns).length ≤ 13 := by
  have := fold_len (ns.take 10) (items0 ns.length)
  have h3 : (items0 ns.length).length = 3 := rfl
  unfold itemsOf
  simp only [List.length_take] at this
  omega
theorem items_sg (ns : List Int) : ∀ it ∈ itemsOf ns, it.2.length ≤ 12 := by
  intro it h
  have := fold_sg (ns.take 10) (items0 ns.length) 2 (Nat.le_refl _) (items0_sg _) it h
  simp only [List.length_take] at this
  omega
theorem menu_lt : ∀ c ∈ menu, c < 128 := by decide
theorem pat_lt (its : List Item) (h : ∀ it ∈ its, ItOk it) : ∀ d ∈ patOf its, d < 128 := by
  intro d hd
  obtain ⟨it, hit, hm⟩ := List.mem_flatMap.mp hd
  have ok := h it hit
  have hx : ∀ c ∈ it.2, c < 128 := fun c hc => menu_lt c (ok.mem c hc)
  unfold itPat at hm
  split at hm
  · rw [List.mem_singleton] at hm; omega
  · rw [List.mem_singleton] at hm; omega
  · split at hm
    · simp only [List.mem_cons, List.not_mem_nil, or_false] at hm; omega
    · exact hx d hm
  · rcases List.mem_append.mp hm with hm | hm
    · rcases List.mem_cons.mp hm with hm | hm
      · omega
      · exact hx d hm
    · rw [List.mem_singleton] at hm; omega
  · rcases List.mem_append.mp hm with hm | hm
    · rcases List.mem_cons.mp hm with hm | hm
      · omega
      · rcases List.mem_cons.mp hm with hm | hm
        · omega
        · exact hx d hm
    · rw [List.mem_singleton] at hm; omega
theorem pat_ne (ns : List Int) : patOf (itemsOf ns) ≠ [] := by
  obtain ⟨it, h1, h2⟩ := items_star ns
  intro e
  have : (42 : Nat) ∈ patOf (itemsOf ns) := List.mem_flatMap.mpr ⟨it, h1, by unfold itPat; rw [h2]; exact .head _⟩
  rw [e] at this; cases this
noncomputable def TokOk : PT → Prop
  | .ch c => c ≠ 42 ∧ c ≠ 63 ∧ c ≠ 91 ∧ c < 128
  | .star => True
  | .any => True
  | .set l => l ≠ [] ∧ l ≠ [33] ∧ ∀ c ∈ l, c ≠ 93 ∧ c ≠ 45 ∧ c < 128
theorem qn_ch (b : Fin 3) : ∀ c ∈ menu, c ≠ 91 → ∀ d ∈ qm b c, d ≠ 42 ∧ d ≠ 63 ∧ d ≠ 91 ∧ d < 128 := by revert b; decide
theorem qn_set (b : Fin 3) : ∀ c ∈ menu, ∀ d ∈ qm b c, d ≠ 93 ∧ d ≠ 45 ∧ d < 128 := by revert b; decide
theorem qn_33 (b : Fin 3) : ∀ c ∈ menu, c ≠ 33 → (qm b c).head? ≠ some 33 := by revert b; decide
theorem flat_ne (b : Fin 3) {l : List Nat} (h : l ≠ []) : l.flatMap (qm b) ≠ [] := by
  cases l with
  | nil => exact absurd rfl h
  | cons c r => rw [List.flatMap_cons]; intro e; exact qn_ne b c (List.append_eq_nil_iff.mp e).1
theorem tokOk_item (b : Fin 3) (it : Item) (ok : ItOk it) : ∀ t ∈ itTok (qm b) it, TokOk t := by
  intro t ht
  obtain ⟨k, l⟩ := it
  have hset : ∀ d ∈ l.flatMap (qm b), d ≠ 93 ∧ d ≠ 45 ∧ d < 128 := fun d hd => by
    obtain ⟨c, hc, hdc⟩ := List.mem_flatMap.mp hd
    exact qn_set b c (ok.mem c hc) d hdc
  cases k
  · unfold itTok at ht; dsimp only at ht
    split at ht
    · rw [List.mem_singleton] at ht; subst ht; exact ⟨by decide, by decide, by decide⟩
    · rename_i hb
      obtain ⟨d, hd, rfl⟩ := List.mem_map.mp ht
      obtain ⟨c, hc, hdc⟩ := List.mem_flatMap.mp hd
      obtain ⟨c', e⟩ := ok.one rfl
      dsimp only at e
      subst e
      rw [List.mem_singleton] at hc; subst hc
      exact qn_ch b c (ok.mem c (.head _)) (fun q => hb (by rw [q])) d hdc
  · unfold itTok at ht; dsimp only at ht; rw [List.mem_singleton] at ht; subst ht; trivial
  · unfold itTok at ht; dsimp only at ht; rw [List.mem_singleton] at ht; subst ht; trivial
  · unfold itTok at ht; dsimp only at ht; rw [List.mem_singleton] at ht; subst ht
    refine ⟨flat_ne b (ok.ne (.inl rfl)), ?_, hset⟩
    have h1 := ok.ne (.inl rfl)
    have h2 := ok.hd rfl
    have h3 := ok.mem
    dsimp only at h1 h2 h3
    cases l with
    | nil => exact absurd rfl h1
    | cons c r =>
      intro e
      have hc : c ≠ 33 := fun q => h2 (by rw [q]; rfl)
      have := qn_33 b c (h3 c (.head _)) hc
      have he := congrArg List.head? e
      rw [List.flatMap_cons, List.head?_append] at he
      cases e2 : (qm b c).head? with
      | none => exact absurd (List.head?_eq_none_iff.mp e2) (qn_ne b c)
      | some d => rw [e2] at he this; simp at he; exact this (by rw [he])
  · unfold itTok at ht; dsimp only at ht; rw [List.mem_singleton] at ht; subst ht
    refine ⟨List.cons_ne_nil _ _, fun e => flat_ne b (ok.ne (.inr rfl)) (List.cons.inj e).2, fun c hc => ?_⟩
    rcases List.mem_cons.mp hc with rfl | hc
    · decide
    · exact hset c hc
theorem toks_ok (b : Fin 3) {m : Nat} (hm : m = 34 ∨ m = 39) (its : List Item) (ok : ∀ it ∈ its, ItOk it) : ∀ t ∈ toksOf (qm b) m its, TokOk t := by
  have h1 : TokOk (.ch m) := by rcases hm with rfl | rfl <;> exact ⟨by decide, by decide, by decide, by decide⟩
  intro t ht
  unfold toksOf at ht
  rcases List.mem_append.mp ht with ht | ht
  · rcases List.mem_append.mp ht with ht | ht
    · rw [List.mem_singleton] at ht; subst ht; exact h1
    · obtain ⟨it, hit, h⟩ := List.mem_flatMap.mp ht
      exact tokOk_item b it (ok it hit) t h
  · rw [List.mem_singleton] at ht; subst ht; exact h1
end Mine
end

section
open PySem PySem.W PyProof.Rows PySem.Spec PySem.Calls Builtin
namespace Mine
open PySem.Builtin.Re
theorem plainAttrs_match : PlainAttrs "re.Match" :=
  ⟨⟨"object.__getattribute__", by rw [typeLookup_type, builtinLookup_eq_fast]; kernel_rfl, by decide +kernel⟩, by rw [typeLookup_type, builtinLookup_eq_fast]; kernel_rfl⟩
theorem plainAttrs_pattern : PlainAttrs "re.Pattern" :=
  ⟨⟨"object.__getattribute__", by rw [typeLookup_type, builtinLookup_eq_fast]; kernel_rfl, by decide +kernel⟩, by rw [typeLookup_type, builtinLookup_eq_fast]; kernel_rfl⟩

noncomputable abbrev lamParams (x : Str) (p : Pos) : Arguments := { posonlyargs := [], args := [{ arg := x, annotation := none, pos := p }], vararg := none, kwonlyargs := [], kw_defaults := [], kwarg := none, defaults := [] }
theorem lam_call {prog : Program} {w : World} {A : Around} {E : Value → Shared → Prop} {s : Shared} {Q : Value → Shared → Prop}
    {p : Program} {loose : List Str} {mean : ExcName → Option Value} {mg mb : Str → Option Value} {name qual : Str} {pp : Pos} {body : Expr} {scope : Scope} {pm ctv v : Value} {c' f : Addr}
    (T : Top p loose mean mg mb s.heap) (ho : s.heap.get? f = some (kla_obj name qual (lamParams (Str.ofString "_m") pp) body scope [] pm c' ctv)) (hcd : s.heap.CodeRec (.ref c') qual) (hroom : A.depth < recursionLimit)
    (hloc : scope.names.lookup (Str.ofString "_m") = some .local) (hco : scope.isCoroutine = false) (hgen : scope.isGenerator = false) (hk : scope.kind = .function) (hcell : ∀ x ∈ scope.names, x.2 ≠ .cell)
    (h : ∀ L' h₁ tk, Fr s.heap L' h₁ (fun y => [(Str.ofString "_m", v)].reverse.lookup y) → 
      wpAny (model prog w) (A.deeper (envX qual scope L' f (.ref c') [])) (eval body (envX qual scope L' f (.ref c') [])) (fun v s' => Q v s') (fun _ _ => False) { s with heap := h₁, toks := tk }) :
    wpAny (model prog w) A (call (.ref f) [v]) Q E s := by
  refine wpAny_call (kla_callFunE hroom ho rfl hco hgen rfl hcd ?_)
  have hb : bindArgs (kla_fn name qual (lamParams (Str.ofString "_m") pp) body scope [] pm (.ref c') ctv) ⟨[v], []⟩ = pure [(Str.ofString "_m", v)] := by rfl
  rw [hb]
  refine wpAny_pure (wpAny_newFunctionEnv hcell (fun y hy => by rw [List.mem_singleton] at hy; subst hy; exact hloc) (fun h₁ hns hsb => ⟨(T.nolimit).fresh _ hsb, ?_⟩) hk)
  show codeAny _ _ (.expr body (envX qual scope s.heap.objs.size f (.ref c') [])) _ _
  have hk₁ : ∀ b o, s.heap.get? b = some o → h₁.get? b = some o := fun b o e => hsb.extBut b o (Nat.ne_of_lt (Heap.lt_size e)) (Heap.get?_push_of_some _ e)
  exact kla_codeExpr (wpAny_mono (h s.heap.objs.size h₁ _ ⟨hns, hk₁, Nat.le_refl _⟩) (fun v s' hl => hl) fun _ _ y => y.elim)

noncomputable abbrev lamScope : Scope := { kind := .function, names := [(Str.ofString "_m", .local)], isGenerator := false, isCoroutine := false, more := [] }
noncomputable abbrev lamBody (p1 p2 p3 p4 p5 p6 p7 p8 : Pos) : Expr :=
  .BinOp (.Constant (.str (Str.ofString "\\")) 0 p1) .Add (.BoolOp .Or [.Call (.Attribute (.Name (Str.ofString "_m") p2) (Str.ofString "group") p3) [.Constant (.int 1) 0 p4] [] p5, .Constant (.str (Str.ofString "")) 0 p6] p7) p8
theorem lam_ok {w : World} {A : Around} {g : Heap} {x : Str} {t : Tok}
    {p : Program} {loose : List Str} {mean : ExcName → Option Value} {mg mb : Str → Option Value} {name qual : Str} {pp p1 p2 p3 p4 p5 p6 p7 p8 : Pos} {pm ctv : Value} {c' f : Addr}
    (X : (Mine.heapK w.params).In g) (T : Top p loose mean mg mb g) (ho : g.get? f = some (kla_obj name qual (lamParams (Str.ofString "_m") pp) (lamBody p1 p2 p3 p4 p5 p6 p7 p8) lamScope [] pm c' ctv)) (hcd : g.CodeRec (.ref c') qual) (hroom : A.depth < recursionLimit)
    (hx : x.length ≤ 10000) {pl : Env → Sem Bool}
    (he : ∀ env, eval (.Call (.Attribute (.Name (Str.ofString "_m") p2) (Str.ofString "group") p3) [.Constant (.int 1) 0 p4] [] p5) env = (do
      let ov ← eval (.Name (Str.ofString "_m") p2) env
      standAt p3.atName
      let (f, first) ← holding [ov] (getMethod ov (Str.ofString "group") (pl env))
      callWith p5 f first (backTo p5 (starEach [.Constant (.int 1) 0 p4] env)) [])) :
    CallOk PySem.Challenge.rw_ij0039_01.row.prog w A g x t (.ref f) := by
  intro s q Tq P Q E kg hq hT hP hret
  refine lam_call (T.keeps kg) (kg _ _ ho) (hcd.keeps kg) hroom rfl rfl rfl rfl (by decide) fun L' h₁ tk F => ?_
  have T' := T.keeps kg
  have X' := X.keeps kg
  have N : News s.heap L' h₁ [] := fun _ h => nomatch h
  have hq' := F.keep _ _ hq
  have hT' := F.keep _ _ hT
  k_steps
  refine MethodCall_ ?_ (he _)
  k_steps
  refine getMethod_builtin (T := "re.Match") ⟨_, hq', rfl⟩ plainAttrs_match slot_re_group type_re_group (fun a e => by cases e; exact ⟨_, hq', rfl⟩) ?_
  k_steps
  refine group_one hq' hT' (Nat.le_trans hx (by decide)) ?_
  have ex : (⟨x.cps.extract P (P + 1)⟩ : Str) = S [x.cps.getD P 0] := by
    show _ = (⟨#[x.cps.getD P 0]⟩ : Str)
    congr 1
    apply Array.ext'
    simp only [Array.toList_extract, List.extract]
    rw [show P + 1 - P = 1 by omega, Array.getD_eq_getD_getElem?, Array.getElem?_eq_getElem hP]
    have hP' : P < x.cps.toList.length := by simpa using hP
    rw [List.drop_eq_getElem_cons hP']
    simp
  rw [ex]
  refine PySem.P.truthy_str (by rw [sLen]; simp) ?_
  dsimp only
  rw [if_pos (show (((S [x.cps.getD P 0]).length : Int) != 0) = true by rw [sLen]; rfl)]
  k_steps
  rw [ofS_bs, sApp]
  exact hret _ _ _ (fun b o e => F.keep b o e)
end Mine
end

section
open PySem PySem.W PyProof.Rows PySem.Spec PySem.Calls Builtin
namespace Mine
open PySem.Builtin.Re
theorem slot_re_sub : Slot "re.Pattern" "sub" "re.Pattern.sub" :=
  .of (owner := "re.Pattern") (n := "sub") (by rw [typeLookup_type, builtinLookup_eq_fast]; kernel_rfl) (by decide +kernel) (by decide +kernel) (by decide +kernel)
    (by first | exact .inl (by decide +kernel) | exact .inr (by decide +kernel)) (by rw [isSubtype_type]; kernel_rfl)
theorem entry_re_sub : entryFor table "re.Pattern.sub" = some Builtin.«re.Pattern.sub» := entryFor_of_tree (by kernel_rfl)
theorem args_re_sub (a b c : Value) : argsOk "re.Pattern.sub" ⟨[a, b, c], []⟩ := by unfold argsOk; kernel_rfl
theorem type_re_sub : typeOf (.builtin "re.Pattern.sub") = pure (.type "method_descriptor") := by show builtinType _ = _; rw [builtinType_eq_fast]; kernel_rfl
theorem lk_fun_call : typeLookup (.type "function") (Str.ofString "__call__") = pure (some (.builtin "function.__call__")) := by rw [typeLookup_type, builtinLookup_eq_fast]; kernel_rfl
theorem sub_str_bytearray : isSubtype (.type "str") (.type "bytearray") = pure false := by rw [isSubtype_type]; kernel_rfl
theorem pat_at {w : World} {h : Heap} (X : (Mine.heapK w.params).In h) : PatAt h ∧ ∃ o, h.get? 70 = some o ∧ o.cls = .type "re.Pattern" ∧ o.dict = none := by
  have dum : PySem.Challenge.rw_ij0039_01.row.prog = PySem.Challenge.rw_ij0039_01.row.prog := rfl
  revert X dum; k_fill; intro X dum
  refine ⟨⟨_, _, _, _, _, _, X 70 _ (by k_is), rfl, rfl, rfl, rfl, _, _, X 69 _ (by k_is), rfl, by decide +kernel⟩, _, X 70 _ (by k_is), rfl, rfl⟩
theorem named3 (a b : Value) : reNamed "re.Pattern.sub" "sub" ["repl", "string", "count"] 2 [a, b] [] = pure [some a, some b, none] := by rfl
theorem sub_k {w : World} {A : Around} {E : Value → Shared → Prop} {s : Shared} {Q : Value → Shared → Prop} {x : Str} {t : Tok} {f : Addr} {o : Obj}
    (X : (Mine.heapK w.params).In s.heap) (ho : s.heap.get? f = some o) (hc : o.cls = .type "function") (hx : x.length ≤ 10000) (htx : ∀ j, j < x.cps.size → x.cps.getD j 0 < 128)
    (hcall : CallOk PySem.Challenge.rw_ij0039_01.row.prog w A.in1 s.heap x t (.ref f))
    (ret : ∀ t' h' tk, Keeps s.heap h' → Q (.str (S (x.cps.toList.flatMap subOne)) t') { s with heap := h', toks := tk }) :
    wpAny (model PySem.Challenge.rw_ij0039_01.row.prog w) A (call (.builtin "re.Pattern.sub") [.ref 70, .ref f, .str x t]) Q E s := by
  obtain ⟨hp, o70, h70, hc70, _⟩ := pat_at X
  have hT : s.TypeIs (.ref 70) "re.Pattern" := ⟨_, h70, hc70⟩
  refine wpAny_call (codeAny_call_builtin slot_re_sub.plain entry_re_sub (slot_re_sub.check _ _ _ _ _ _ _ _ hT (args_re_sub _ _ _) ?_))
  unfold Builtin.«re.Pattern.sub» reSubstitute
  dsimp only
  rw [named3]
  refine wpAny_bind (wpAny_pure ?_)
  dsimp only
  refine wpAny_bind (wpAny_pure ?_)
  refine wpAny_bind (wpAny_specialOf (T := "function") (v := .ref f) ⟨o, ho, hc⟩ lk_fun_call ?_)
  refine if_yes_' (by rfl) ?_
  refine wpAny_bind (wpAny_pure ?_)
  refine if_yes_' (by rfl) ?_
  refine wpAny_bind (wpAny_pure ?_)
  refine wpAny_bind (wpAny_holding (target_k hp ?_))
  refine if_yes_' (by rfl) ?_
  unfold reNotHeld
  refine wpAny_bind (wpAny_bind (wpAny_isInstance (b := false) (T := "str") (typeIs_str _ _ _) sub_str_bytearray ?_))
  simp only [Bool.false_eq_true, if_false]
  refine wpAny_pure ?_
  refine wpAny_bind (wpAny_newList ?_)
  refine wpAny_pure ⟨Code.quiet_builtin _ (by decide +kernel), ?_⟩
  have hL : s.heap.get? s.heap.objs.size = none := Heap.get?_none_of_le (Nat.le_refl _)
  refine loop_k (s := s) (L := s.heap.objs.size) hx htx hp hL hcall ?_ x.cps.size 0 0 false _ _ 0 [] [] (by omega) (Nat.zero_le _) (fun b o e => Heap.get?_push_of_some _ e) (Heap.get?_push_size _ rfl) .nil (by simp) (Nat.zero_le _)
  intro t' h' tk k
  exact ret t' h' tk k
end Mine
end

section
open PySem PySem.W PyProof.Rows PySem.Spec PySem.Calls Builtin
namespace Mine
/-- a code object that bears the name -/
noncomputable def CodAt (qual : Str) (oc : Obj) : Prop := ∃ vs t, oc.data = .fields vs ∧ vs[1]? = some (.str qual t)
/-- the table of the codes of the lambdas, the rest of the ledger behind it -/
noncomputable def TabIn (qual : Str) (CS : List (Addr × Obj)) (R : List (Addr × Obj)) : Prop :=
  ∃ ps R₂, R = (91, tabObj ps) :: R₂ ∧ (∀ p ∈ R₂, p.1 ≠ 91) ∧ TriplesOk ps.toList ∧ ∀ pos v, codeAmong pos ps.toList = some v → ∃ c' oc, v = .ref c' ∧ ((c', oc) ∈ R₂ ∨ (c', oc) ∈ CS) ∧ CodAt qual oc
theorem codeAmong_app {pos : Pos} {a b : Int} {c v : Value} (l : List Value) (h : TriplesOk l) : codeAmong pos (l ++ [rawInt a, rawInt b, c]) = some v → codeAmong pos l = some v ∨ v = c := by
  fun_induction TriplesOk l with
  | case1 =>
    intro e
    simp only [List.nil_append, codeAmong, rawInt] at e
    split at e
    · cases e; exact .inr rfl
    · cases e
  | case2 a' t b' u x rest ih =>
    intro e
    simp only [List.cons_append, codeAmong] at e ⊢
    split at e
    · rename_i hc; rw [if_pos hc]; exact .inl e
    · rename_i hc; rw [if_neg hc]; exact ih h e
  | case3 l h1 h2 => exact h.elim
theorem updF_pre {d : Addr} {o : Obj} {r : List (Addr × Obj)} (hr : ∀ p ∈ r, p.1 ≠ d) : ∀ pre : List (Addr × Obj), (∀ p ∈ pre, p.1 ≠ d) → UpdF d o (pre ++ (d, o) :: r) (fun o' => pre ++ (d, o') :: r)
  | [], _ => .head hr
  | p :: pre, h => .tail (h p (.head _)) (updF_pre hr pre fun q hq => h q (.tail _ hq))
theorem lam_make {M : Model} {A : Around} {E : Value → Shared → Prop} {s : Shared} {h₀ : Heap} {L a c : Addr} {m mg mb : Str → Option Value} {cn : Str} {cs : Scope} {ccd : Value} {cl : List (Str × Addr)} {pre R CS : List (Addr × Obj)}
    {p : Program} {loose : List Str} {mean : ExcName → Option Value} {name qual : Str} {params : Arguments} {body : Expr} {scope : Scope} {pos : Pos} {firstLine : Nat} {clos : List (Str × Addr)} {Q : Value → Shared → Prop}
    (F : Fr h₀ L s.heap m) (N : News h₀ L s.heap (pre ++ R)) (T : Top p loose mean mg mb h₀) (C : CodeHd h₀ c 91) (hcd : ccd = .ref c) (hpre : ∀ p ∈ pre, p.1 ≠ 91) (hCS : ∀ p ∈ CS, h₀.get? p.1 = some p.2) (tab : TabIn qual CS R)
    (hcl : closureFor scope (envX cn cs L a ccd cl) = pure clos)
    (h : ∀ f c' ctv h' tk R', Fr h₀ L h' m → News h₀ L h' ((f, kla_obj name qual params body scope clos ((mg "__name__").getD .none) c' ctv) :: (pre ++ R')) → TabIn qual CS R' → h'.CodeRec (.ref c') qual →
      (∀ p ∈ R', p.1 = 91 ∨ p ∈ R ∨ ∀ q ∈ pre, q.1 < p.1) → Q (.ref f) { s with heap := h', toks := tk }) :
    wpAny M A (makeFunction name qual params (.expr body) scope (envX cn cs L a ccd cl) [] [] [] pos firstLine) Q E s := by
  obtain ⟨ps, R₂, rfl, hR₂, ht, hcod⟩ := tab
  cases hf : codeAmong pos ps.toList with
  | none =>
    refine kla_nest F N T C hcd (updF_pre hR₂ pre hpre) ht hf hcl fun f c' oc vs t ctv h' tk F' N' d1 d2 l1 l2 => ?_
    refine h f c' ctv h' tk ((91, tabObj (ps ++ #[rawInt pos.line, rawInt pos.col, .ref c'])) :: (c', oc) :: R₂) F' (fun q hq => N' q ?_) ⟨_, _, rfl, ?_, ?_, ?_⟩ ⟨c', oc, vs, t, rfl, (N' (c', oc) (.tail _ (.head _))).1, d1, d2⟩ ?_
    · simp only [List.mem_cons, List.mem_append] at hq ⊢
      rcases hq with h | h | h | h | h
      · exact .inl h
      · exact .inr (.inr (.inl h))
      · exact .inr (.inr (.inr (.inl h)))
      · exact .inr (.inl h)
      · exact .inr (.inr (.inr (.inr h)))
    · intro q hq
      rcases List.mem_cons.mp hq with rfl | hq
      · exact Nat.ne_of_gt (l1 (91, tabObj ps) (List.mem_append_right _ (.head _)))
      · exact hR₂ q hq
    · rw [Array.toList_append]; exact TriplesOk_snoc _ _ _ _ ht
    · intro pos' v hv
      rw [Array.toList_append] at hv
      rcases codeAmong_app _ ht hv with hv | rfl
      · obtain ⟨c₂, o₂, e, hm, hc⟩ := hcod pos' v hv
        refine ⟨c₂, o₂, e, ?_, hc⟩
        rcases hm with hm | hm
        · exact .inl (.tail _ hm)
        · exact .inr hm
      · exact ⟨c', oc, rfl, .inl (.head _), vs, t, d1, d2⟩
    · intro q hq
      rcases List.mem_cons.mp hq with rfl | hq
      · exact .inl rfl
      · rcases List.mem_cons.mp hq with rfl | hq
        · exact .inr (.inr fun q hq => l1 q (List.mem_append_left _ hq))
        · exact .inr (.inl (.tail _ hq))
  | some v =>
    obtain ⟨c', oc, rfl, hm, vs, t, d1, d2⟩ := hcod pos v hf
    refine kla_hit F N T C hcd (List.mem_append_right _ (.head _)) ht hf hcl fun f ctv h' tk F' N' l1 => ?_
    refine h f c' ctv h' tk _ F' N' ⟨ps, R₂, rfl, hR₂, ht, hcod⟩ ⟨c', oc, vs, t, rfl, ?_, d1, d2⟩ fun q hq => .inr (.inl hq)
    rcases hm with hm | hm
    · exact (N' (c', oc) (.tail _ (List.mem_append_right _ (.tail _ hm)))).1
    · exact F'.keep _ _ (hCS _ hm)
end Mine
end

section
open PySem PySem.W PyProof.Rows PySem.Spec PySem.Calls
namespace Mine
local macro_rules | `(tactic| walk_at "execs cons") => `(tactic| (k_here; (fail_if_success (fail_if_success k_gentoks)); refine gen_toks (by (try dsimp only); omega) ?_; intro tk htk))
local macro_rules | `(tactic| walk_at "execs nil") => `(tactic| (k_here; (fail_if_success (fail_if_success k_gentoks)); refine gen_toks (by (try dsimp only); omega) ?_; intro tk htk))
local macro_rules | `(tactic| walk_at "exec While") => `(tactic| (k_here; refine stop ?_))
local macro_rules | `(tactic| walk_at "getAttr") => `(tactic| (k_here; (with_reducible show wpAny _ _ (getAttr (Value.ref _) _ _) _ _ _); refine append_attr_K (by assumption) (by assumption) (by k_mem) ?_; intro q' h' F' N' l1; (try k_lt l1); (try k_sweep)))
local macro_rules | `(tactic| k_all) => `(tactic| assumption)
local macro_rules | `(tactic| k_mem) => `(tactic| assumption)
local macro_rules | `(tactic| walk_at "call ref") => `(tactic| (k_here; refine' bound_append_K ?F ?N ?q ?U ?_ ?z; (case F => k_asm); (case N => k_asm); (case q => exact .head _); (case U => k_upd); (case z => rw [sizeLine_eq]; simp only [Array.size_push, List.size_toArray]; omega); k_whole; intro h' F' N'; (try k_sweep)))
local macro_rules | `(tactic| walk_at "callWith") => `(tactic| (k_here; (with_reducible show wpAny _ _ (callWith _ (Value.ref _) _ _ _) _ _ _); refine callWith_B (by assumption) (by first | exact .head _ | exact .tail _ (.head _)) ?_))
local macro_rules | `(tactic| walk_at "callWith ref") => `(tactic| (k_here; (with_reducible show wpAny _ _ (callWith _ (Value.ref _) _ _ _) _ _ _); refine callWith_B (by assumption) (by first | exact .head _ | exact .tail _ (.head _)) ?_))
local macro_rules | `(tactic| walk_at "And") => `(tactic| ((with_reducible show BndP _ _ _ ∧ _); refine And.intro (bndP (by assumption) (by first | exact .head _ | exact .tail _ (.head _))) ?_))
local macro_rules | `(tactic| walk_at "BndP") => `(tactic| (exact bndP (by assumption) (by first | exact .head _ | exact .tail _ (.head _))))

local macro_rules | `(tactic| walk_at "compareOp IsNot") => `(tactic| (k_here; first | refine wpAny_isNot_ref_self ?_ | refine wpAny_isNot_other (by rfl) (by intro x; cases x) ?_))
local macro_rules | `(tactic| walk_at "compareOp IsNot ref ref") => `(tactic| (k_here; first | refine wpAny_isNot_ref_self ?_ | refine wpAny_isNot_other (by rfl) (by intro x; cases x) ?_))
local macro_rules | `(tactic| walk_at "compareOp IsNot str ref") => `(tactic| (k_here; first | refine wpAny_isNot_ref_self ?_ | refine wpAny_isNot_other (by rfl) (by intro x; cases x) ?_))
local macro_rules | `(tactic| walk_at "subscriptTail") => `(tactic| (k_here; (with_reducible show wpAny _ _ (subscriptTail _ _ (Value.ref _) (Value.int (-1) _)) _ _ _); k_dflt (refine' last_get ?N ?m ?_ ?s; (case N => k_asm); (case m => k_mem); (case s => with_unfolding_all rfl); k_whole)))
local macro_rules | `(tactic| walk_at "subscriptTail Name UnaryOp ref int") => `(tactic| (k_here; (with_reducible show wpAny _ _ (subscriptTail _ _ (Value.ref _) (Value.int (-1) _)) _ _ _); k_dflt (refine' last_get ?N ?m ?_ ?s; (case N => k_asm); (case m => k_mem); (case s => with_unfolding_all rfl); k_whole)))
noncomputable def itemN (txt : List Nat) (k : Int) : Option Nat := txt[k.toNat]?
theorem itemN_nat {txt : List Nat} {j c : Nat} {k : Int} (h : txt[j]? = some c) (e : k = (j : Int)) : itemN txt k = some c := by subst e; exact h
theorem str_get {prog : Program} {w : World} {A : Around} {E : Value → Shared → Prop} {s : Shared} {txt : List Nat} {c : Nat} {k : Int} {t u : Tok} {value slice : Expr} {Q : Value → Shared → Prop} (hlen : txt.length ≤ 1000000)
    (hv : itemN txt k = some c) (h0 : 0 ≤ k) (h : Q (.str (S [c]) s.toks) { s with toks := s.toks + 1 })
    (hs : subscripted slice false (.str (S txt) t) (.int k u) = operate [.str (S txt) t, .int k u] (getItem (.str (S txt) t) (.int k u)) := by with_unfolding_all rfl)
    (ht : ∀ r, letTemporaryGo value (.str (S txt) t) r = pure () := by intro _; with_unfolding_all rfl) :
    wpAny (model prog w) A (subscriptTail value slice (.str (S txt) t) (.int k u)) Q E s := by
  have hlt : k.toNat < txt.length := (List.getElem?_eq_some_iff.mp hv).1
  have e : Txt.item (S txt) k = S [c] := item_meets h0 (by unfold itemN at hv; simpa using hv)
  refine item_str (by unfold fitsSsize; simp; omega) (by rw [sLen]; omega) (by rw [sLen]; omega) ?_ hs ht
  intro _
  rw [e]; exact h
local macro_rules | `(tactic| walk_at "subscriptTail Name Name str int") => `(tactic| (k_here; (with_reducible show wpAny _ _ (subscriptTail _ _ (Value.str (S _) _) (Value.int _ _)) _ _ _); refine str_get (by omega) (by assumption) (by omega) ?_))
local macro_rules | `(tactic| walk_at "call ref") => `(tactic| (k_here; (with_reducible show wpAny _ _ (call (Value.ref 89) _) _ _ _); refine stop ?_))

theorem truthy_snoc {prog : Program} {w : World} {A : Around} {E : Value → Shared → Prop} {s : Shared} {h₀ : Heap} {L D : Addr} {news : List (Addr × Obj)} {ws : List Value} {v : Value} {n : Nat} {Q : Bool → Shared → Prop} (N : News h₀ L s.heap news) (hm : (D, W.listOf (ws ++ [v]).toArray n) ∈ news) (hlen : (ws ++ [v]).length ≤ 1000000)
    (h : Q true { s with toks := s.toks + 1 + 1 }) : wpAny (model prog w) A (truthy (.ref D)) Q E s := by
  have hl : s.heap.IsList D (ws ++ [v]).toArray := PySem.IsL.isList (n := n) (N _ hm).1
  refine wpAny_truthy_list hl (by simp only [List.size_toArray]; omega) ?_
  have e : (!(ws ++ [v]).toArray.isEmpty) = true := by simp
  rw [e]; exact h
local macro_rules | `(tactic| walk_at "truthy ref") => `(tactic| (k_here; refine truthy_snoc (by assumption) (.tail _ (.head _)) (by omega) ?_))
noncomputable abbrev Bnd (q D : Addr) : Addr × Obj := (q, bObj (.builtin "list.append") (.ref D))
noncomputable def JT (qual : Str) (CS : List (Addr × Obj)) (D q sa : Addr) (txt : List Nat) (t u : Tok) (dn : List PT) (m : Str → Option Value) (nw : List (Addr × Obj)) : Prop :=
  ∃ (v : Str → Option Value) (ti tn : Tok) (ws : List Value) (kk : Nat) (R : List (Addr × Obj)), m = (fun z => if z = Str.ofString "i" then some (.int ((dn.flatMap showT).length : Int) ti) else if z = Str.ofString "n" then some (.int (txt.length : Int) tn) else
    if z = Str.ofString "add" then some (.ref q) else if z = Str.ofString "res" then some (.ref D) else if z = Str.ofString "pat" then some (.str (S txt) t) else if z = Str.ofString "STAR" then some (.ref sa) else if z = Str.ofString "QUESTION_MARK" then some (.str (S [46]) u) else v z) ∧
    nw = Bnd q D :: (D, W.listOf ws.toArray kk) :: R ∧ PAre sa ws (trP dn) ∧ TabIn qual CS R ∧ ∀ p ∈ R, p.1 ≠ D
theorem tr_snoc (dn : List PT) (x : PT) : trP (dn ++ [x]) = stepP (trP dn) x := by unfold trP; rw [List.foldl_append]; rfl
theorem jt_next {qual : Str} {h₀ h' : Heap} {L sa D q : Addr} {s : Shared} {ts dn rs : List PT} {x : PT} {txt : List Nat} {t u : Tok} {m' : Str → Option Value} {arr : Array Value} {wsN : List Value} {k' tk : Nat} {ti tn : Tok} {ii : Int} {R CS : List (Addr × Obj)} {Q : Flow → Shared → Prop}
    (F : Fr h₀ L h' m') (N : News h₀ L h' (Bnd q D :: (D, W.listOf arr k') :: R))
    (h1 : m' (Str.ofString "i") = some (.int ii ti)) (hii : ii = (((dn ++ [x]).flatMap showT).length : Int)) (h2 : m' (Str.ofString "n") = some (.int (txt.length : Int) tn)) (h3 : m' (Str.ofString "add") = some (.ref q)) (h4 : m' (Str.ofString "res") = some (.ref D))
    (h5 : m' (Str.ofString "pat") = some (.str (S txt) t)) (h6 : m' (Str.ofString "STAR") = some (.ref sa)) (h7 : m' (Str.ofString "QUESTION_MARK") = some (.str (S [46]) u)) (harr : arr = wsN.toArray) (hws : PAre sa wsN (stepP (trP dn) x))
    (tab : TabIn qual CS R) (hoff : ∀ p ∈ R, p.1 ≠ D) (hts : ts = dn ++ x :: rs) :
    WEnd h₀ L s (fun n m nw => ∃ dn rs, ts = dn ++ rs ∧ n = rs.length ∧ JT qual CS D q sa txt t u dn m nw) (x :: rs).length Q .next { s with heap := h', toks := tk } := by
  subst hii harr
  refine WEnd.next (n' := rs.length) F N (by simp) ⟨dn ++ [x], rs, by rw [hts]; simp, rfl, m', ti, tn, wsN, k', R, frame7 h1 h2 h3 h4 h5 h6 h7, rfl, ?_, tab, hoff⟩
  rw [tr_snoc]; exact hws
theorem PAre.lastOf {sa : Addr} {vs ps} (h : PAre sa vs ps) : (vs = [] ∧ ps = []) ∨ (∃ ws, vs = ws ++ [.ref sa] ∧ ps.getLast? = some .star) ∨ ∃ ws l t, vs = ws ++ [.str (S l) t] ∧ ps.getLast? = some (.lit l) := by
  induction h with
  | nil => exact .inl ⟨rfl, rfl⟩
  | @star vs ps r ih =>
    rcases ih with ⟨rfl, rfl⟩ | ⟨ws, rfl, e⟩ | ⟨ws, l, t, rfl, e⟩
    · exact .inr (.inl ⟨[], rfl, rfl⟩)
    · exact .inr (.inl ⟨.ref sa :: ws, rfl, by rw [List.getLast?_cons, e]; rfl⟩)
    · exact .inr (.inr ⟨.ref sa :: ws, l, t, rfl, by rw [List.getLast?_cons, e]; rfl⟩)
  | @lit l t vs ps r ih =>
    rcases ih with ⟨rfl, rfl⟩ | ⟨ws, rfl, e⟩ | ⟨ws, l', t', rfl, e⟩
    · exact .inr (.inr ⟨[], l, t, rfl, rfl⟩)
    · exact .inr (.inl ⟨.str (S l) t :: ws, rfl, by rw [List.getLast?_cons, e]; rfl⟩)
    · exact .inr (.inr ⟨.str (S l) t :: ws, l', t', rfl, by rw [List.getLast?_cons, e]; rfl⟩)
theorem one_ne {c d : Nat} {x : Str} (h : c ≠ d) (e : x = S [d]) : (S [c] == x) = false := by rw [e]; simpa using h
theorem app_at {A B : List Nat} {c : Nat} {r : List Nat} (j : Nat) (h : r[j]? = some c) : (A ++ (r ++ B))[A.length + j]? = some c := by
  rw [List.getElem?_append_right (by omega), show A.length + j - A.length = j by omega, List.getElem?_append_left (List.getElem?_eq_some_iff.mp h).1]; exact h

theorem slice_asS {prog : Program} {w : World} {A : Around} {E : Value → Shared → Prop} {s : Shared} {h₀ : Heap} {L : Addr} {m : Str → Option Value} {news : List (Addr × Obj)} {x y : Str} {i j : Int} {t ui uj : Tok} {value slice : Expr} {Q : Value → Shared → Prop} (hF : Fr h₀ L s.heap m) (hN : News h₀ L s.heap news) (e : Txt.slice x (some i) (some j) = y) (hsz : x.length ≤ 1000000)
    (h : ∀ h' t' k, Fr h₀ L h' m → News h₀ L h' news → Q (.str y t') { s with heap := h', toks := k })
    (hs : subscripted slice false (.str x t) (.ref s.heap.objs.size) = operate [.ref s.heap.objs.size, .str x t] (getItem (.str x t) (.ref s.heap.objs.size)) := by with_unfolding_all rfl)
    (ht : ∀ r, letTemporaryGo value (.str x t) r = pure () := by intro _; with_unfolding_all rfl) :
    wpAny (model prog w) A (subscriptTail value slice (.str x t) (.ref s.heap.objs.size)) Q E { s with heap := s.heap.push { cls := .type "slice", data := .fields #[.int i ui, .int j uj, .none] } } :=
  slice_strN_ss hF hN (by subst e; exact h) hs ht (by rw [sizeLine_eq]; omega)
theorem slice_asN {prog : Program} {w : World} {A : Around} {E : Value → Shared → Prop} {s : Shared} {h₀ : Heap} {L : Addr} {m : Str → Option Value} {news : List (Addr × Obj)} {x y : Str} {i : Int} {t ui : Tok} {value slice : Expr} {Q : Value → Shared → Prop} (hF : Fr h₀ L s.heap m) (hN : News h₀ L s.heap news) (e : Txt.slice x (some i) none = y) (hsz : x.length ≤ 1000000)
    (h : ∀ h' t' k, Fr h₀ L h' m → News h₀ L h' news → Q (.str y t') { s with heap := h', toks := k })
    (hs : subscripted slice false (.str x t) (.ref s.heap.objs.size) = operate [.ref s.heap.objs.size, .str x t] (getItem (.str x t) (.ref s.heap.objs.size)) := by with_unfolding_all rfl)
    (ht : ∀ r, letTemporaryGo value (.str x t) r = pure () := by intro _; with_unfolding_all rfl) :
    wpAny (model prog w) A (subscriptTail value slice (.str x t) (.ref s.heap.objs.size)) Q E { s with heap := s.heap.push { cls := .type "slice", data := .fields #[.int i ui, .none, .none] } } :=
  slice_strN_sn hF hN (by subst e; exact h) hs ht (by rw [sizeLine_eq]; omega)
local macro_rules | `(tactic| walk_at "subscriptTail Name Slice str ref") => `(tactic| (k_here; (with_reducible show wpAny _ _ (subscriptTail _ (Expr.Slice (some _) (some _) none _) _ _) _ _ _); (with_reducible rename Fr _ _ _ _ => F'); (with_reducible rename News _ _ _ _ => N'); (refine slice_asS (s := ⟨_, _, _, _, _⟩) F' N' (by assumption) (by first | assumption | omega) ?_); clear F' N'; intro h' t' k' F' N'))
local macro_rules | `(tactic| walk_at "subscriptTail Name Slice str ref") => `(tactic| (k_here; (with_reducible show wpAny _ _ (subscriptTail _ (Expr.Slice (some _) none none _) _ _) _ _ _); (with_reducible rename Fr _ _ _ _ => F'); (with_reducible rename News _ _ _ _ => N'); (refine slice_asN (s := ⟨_, _, _, _, _⟩) F' N' (by assumption) (by first | assumption | omega) ?_); clear F' N'; intro h' t' k' F' N'))
local macro_rules | `(tactic| walk_at "subscriptTail Name Constant str int") => `(tactic| (k_here; (with_reducible show wpAny _ _ (subscriptTail _ _ (Value.str (S _) _) (Value.int _ _)) _ _ _); refine str_get (by omega) (by assumption) (by omega) ?_))
theorem replace_as {prog : Program} {w : World} {A : Around} {E : Value → Shared → Prop} {s : Shared} {x y z r : Str} {t u v : Tok} {Q : Value → Shared → Prop} (e : Txt.replace x y z = r) (hu : u ≠ 0) (hv : v ≠ 0) (huv : u ≠ v) (hyz : (y == z) = false) (hb : x.length + (x.length + 1) * z.length ≤ 16777216)
    (h : ∀ t' k, s.toks ≤ k → Q (.str r t') { s with toks := k }) : wpAny (model prog w) A (call (.builtin "str.replace") [.str x t, .str y u, .str z v]) Q E s := by
  subst e
  exact replace_k hu hv huv hyz hb h
local macro_rules | `(tactic| walk_at "call builtin:str.replace") => `(tactic| (k_here; refine replace_as (by assumption) ?_ ?_ ?_ ?_ ?_ ?_; rotate_left 5; intro t' k' hk'; (try dsimp only at hk'); rotate_right 5; (first | assumption | ((show @Ne Nat _ _); (try dsimp only); omega)); (first | assumption | ((show @Ne Nat _ _); (try dsimp only); omega)); (first | assumption | ((show @Ne Nat _ _); (try dsimp only); omega)); (first | assumption | decide +kernel); assumption))
theorem truthy_pos {prog : Program} {w : World} {A : Around} {E : Value → Shared → Prop} {s : Shared} {x : List Nat} {t : Tok} {Q : Bool → Shared → Prop} (h1 : 1 ≤ x.length) (h2 : x.length ≤ 1000000) (h : Q true { s with toks := s.toks + 1 + 1 }) : wpAny (model prog w) A (truthy (.str (S x) t)) Q E s := by
  refine PySem.P.truthy_str (by rw [sLen]; omega) ?_
  rw [sLen, show ((x.length : Int) != 0) = true from bne_iff_ne.mpr (by omega)]
  exact h
local macro_rules | `(tactic| walk_at "truthy str") => `(tactic| (k_here; refine truthy_pos (by omega) (by omega) ?_))
local macro_rules | `(tactic| walk_at "eval Lambda") => `(tactic| (k_here; refine stop ?_))
local macro_rules | `(tactic| walk_at "getMethod ref") => `(tactic| (k_here; (with_reducible show wpAny _ _ (getMethod (Value.ref 70) _ _) _ _ _); refine stop ?_))
local macro_rules | `(tactic| walk_at "call builtin:re.Pattern.sub") => `(tactic| (k_here; refine stop ?_))
theorem stuff_head (a : Nat) (l : List Nat) : ∃ d r, stuffOf (a :: l) = d :: r ∧ (d = 33 ↔ a = 33) ∧ (d = 94 ↔ a = 94) ∧ (d = 91 ↔ a = 91) ∧ (a = 33 → r = stuffOf l) := by
  rw [show a :: l = [a] ++ l from rfl, stuff_app]
  by_cases h92 : a = 92
  · subst h92; exact ⟨92, 92 :: stuffOf l, rfl, by decide, by decide, by decide, fun h => (by cases h)⟩
  · have e1 : [a].flatMap dbl1 = [a] := by simp [dbl1, h92]
    have e2 : [a].flatMap sub1 = sub1 a := by simp
    by_cases hh : (a == 38 || a == 124 || a == 126) = true
    · have e : stuffOf [a] = [92, a] := by unfold stuffOf; rw [e1, e2]; exact if_pos hh
      have hn : a ≠ 33 ∧ a ≠ 94 ∧ a ≠ 91 := by refine ⟨?_, ?_, ?_⟩ <;> (rintro rfl; revert hh; decide)
      refine ⟨92, a :: stuffOf l, by rw [e]; rfl, ⟨fun h => (by cases h), fun h => absurd h hn.1⟩, ⟨fun h => (by cases h), fun h => absurd h hn.2.1⟩, ⟨fun h => (by cases h), fun h => absurd h hn.2.2⟩, fun h => absurd h hn.1⟩
    · have e : stuffOf [a] = [a] := by unfold stuffOf; rw [e1, e2]; exact if_neg hh
      exact ⟨a, stuffOf l, by rw [e]; rfl, Iff.rfl, Iff.rfl, Iff.rfl, fun _ => rfl⟩
theorem sub_lt (l : List Nat) (h : ∀ c ∈ l, c < 128) : ∀ j, j < (S (l.flatMap dbl1)).cps.size → (S (l.flatMap dbl1)).cps.getD j 0 < 128 := by
  intro j hj
  have hm : (S (l.flatMap dbl1)).cps.getD j 0 ∈ l.flatMap dbl1 := by
    rw [Array.getD_eq_getD_getElem?, Array.getElem?_eq_getElem hj]
    simp
  generalize (S (l.flatMap dbl1)).cps.getD j 0 = e at hm ⊢
  obtain ⟨c, hc, hd⟩ := List.mem_flatMap.mp hm
  have := h c hc
  unfold dbl1 at hd
  split at hd
  · simp at hd; omega
  · simp at hd; omega
theorem news_tail {h₀ h : Heap} {L : Addr} {p : Addr × Obj} {news : List (Addr × Obj)} (N : News h₀ L h (p :: news)) : News h₀ L h news := fun q hq => N q (.tail _ hq)
theorem frame8 {m' : Str → Option Value} {a b c d e f g k : Str} {va vb vc vd ve vf vg vk : Option Value} (h0 : m' k = vk) (h1 : m' a = va) (h2 : m' b = vb) (h3 : m' c = vc) (h4 : m' d = vd) (h5 : m' e = ve) (h6 : m' f = vf) (h7 : m' g = vg) :
    m' = fun z => if z = k then vk else if z = a then va else if z = b then vb else if z = c then vc else if z = d then vd else if z = e then ve else if z = f then vf else if z = g then vg else m' z := by
  funext z
  by_cases h : z = k
  · rw [if_pos h, h, h0]
  · rw [if_neg h]; exact congrFun (frame7 h1 h2 h3 h4 h5 h6 h7) z
noncomputable def JI (D q sa : Addr) (txt : List Nat) (t u : Tok) (ws : List Value) (kk : Nat) (R : List (Addr × Obj)) (i jn : Nat) (m : Str → Option Value) (nw : List (Addr × Obj)) : Prop :=
  ∃ (v : Str → Option Value) (tj ti tn : Tok), m = (fun z => if z = Str.ofString "j" then some (.int (jn : Int) tj) else if z = Str.ofString "i" then some (.int ((i : Int) + 1) ti) else if z = Str.ofString "n" then some (.int (txt.length : Int) tn) else
    if z = Str.ofString "add" then some (.ref q) else if z = Str.ofString "res" then some (.ref D) else if z = Str.ofString "pat" then some (.str (S txt) t) else if z = Str.ofString "STAR" then some (.ref sa) else if z = Str.ofString "QUESTION_MARK" then some (.str (S [46]) u) else v z) ∧
    nw = Bnd q D :: (D, W.listOf ws.toArray kk) :: R
theorem ji_intro {D q sa : Addr} {txt : List Nat} {t u : Tok} {ws : List Value} {kk : Nat} {R : List (Addr × Obj)} {i jn : Nat} {m' : Str → Option Value} {tj ti tn : Tok} {jj ii : Int}
    (h0 : m' (Str.ofString "j") = some (.int jj tj)) (hjj : jj = (jn : Int)) (h1 : m' (Str.ofString "i") = some (.int ii ti)) (hii : ii = (i : Int) + 1) (h2 : m' (Str.ofString "n") = some (.int (txt.length : Int) tn)) (h3 : m' (Str.ofString "add") = some (.ref q)) (h4 : m' (Str.ofString "res") = some (.ref D))
    (h5 : m' (Str.ofString "pat") = some (.str (S txt) t)) (h6 : m' (Str.ofString "STAR") = some (.ref sa)) (h7 : m' (Str.ofString "QUESTION_MARK") = some (.str (S [46]) u)) :
    JI D q sa txt t u ws kk R i jn m' (Bnd q D :: (D, W.listOf ws.toArray kk) :: R) := by
  subst hjj hii
  exact ⟨m', tj, ti, tn, frame8 h0 h1 h2 h3 h4 h5 h6 h7, rfl⟩
noncomputable abbrev lamQ : Str := ((Str.ofString "_translate" ++ ".<locals>." : Str) ++ "<lambda>" : Str)
theorem trl_c {w : World} {E : Value → Shared → Prop} {s : Shared} {Q : Value → Shared → Prop}
    {p : Program} {loose : List Str} {mean : ExcName → Option Value} {mg mb : Str → Option Value}
    (X : (Mine.heapK w.params).In (hideAll s.heap [91])) (T : Top p loose mean mg mb (hideAll s.heap [91])) (htk : 1 ≤ s.toks) {ps : Array Value} (h91 : s.heap.get? 91 = some (tabObj ps)) {CS : List (Addr × Obj)} (hCS : ∀ p ∈ CS, (hideAll s.heap [91]).get? p.1 = some p.2) (tab : TabIn lamQ CS [(91, tabObj ps)])
    {ts : List PT} {t u : Tok} {sa : Addr} (hts : ∀ t ∈ ts, TokOk t) (hlen : (ts.flatMap showT).length ≤ 5000) {so : Obj} (hsa : s.heap.get? sa = some so)
    (ret : ∀ D ws kk h' tk' R, PAre sa ws (trP ts) → h'.get? D = some (W.listOf ws.toArray kk) → (hideAll s.heap [91]).get? D = none → D ≠ 91 → Keeps (hideAll s.heap [91]) h' → TabIn lamQ CS R → (∀ p ∈ R, h'.get? p.1 = some p.2 ∧ (hideAll s.heap [91]).get? p.1 = none) → (∀ p ∈ R, p.1 ≠ D) → Q (.ref D) { s with heap := h', toks := tk' }) :
    wpAny (model PySem.Challenge.rw_ij0039_01.row.prog w) (AtD 600 6000) (call (.ref 96) [.str (S (ts.flatMap showT)) t, .ref sa, .str (S [46]) u]) Q E s := by
  revert X; k_fill; intro X
  refine' call_c (binds := [(Str.ofString "pat", .str (S (ts.flatMap showT)) t), (Str.ofString "STAR", .ref sa), (Str.ofString "QUESTION_MARK", .str (S [46]) u)]) [(91, tabObj ps)] ?hg ?hm ?hX ?hT ?ho ?hcd ?hroom ?hbind ?hB ?hSc ?hloc ?_ ?c1 ?c2 ?c3 ?c4
  (case hg => exact rfl)
  (case hm => intro q hq; rw [List.mem_singleton] at hq; subst hq; exact h91)
  (case hX => exact X)
  (case hT => exact T)
  (case ho => k_is)
  (case hcd => k_is)
  (case hroom => decide)
  (case hbind => first | exact BindsTo.of_eq rfl | exact binds_K X rfl (by k_is) rfl rfl rfl)
  (case hB => conv => lhs; whnf)
  (case hSc => conv => lhs; whnf)
  (case hloc => exact locs rfl)
  (case c1 => exact rfl)
  (case c2 => exact rfl)
  (case c3 => exact rfl)
  (case c4 => decide)
  intro L' h₁ tk htk₀ F N X' T'
  replace htk : 1 ≤ tk := Nat.le_trans htk htk₀
  generalize htxt : ts.flatMap showT = txt at hlen F
  have htl : (S txt).length ≤ 5000 := by rw [sLen]; exact hlen
  k_steps
  unfold Stop
  (with_reducible rename Fr _ _ _ _ => F')
  (with_reducible rename News _ _ _ _ => N')
  rename_i D _ lT _ _ _ q _ lDq _ _ _ _ _ _ _ tkw htkw
  have hg : hideAll s.heap (List.map (fun x : Addr × Obj => x.fst) [(91, tabObj ps)]) = hideAll s.heap [91] := rfl
  rw [hg] at F' N'
  generalize hideAll s.heap [91] = g at *
  refine wpAny_mono (wpAny_toks_of htkw (while_k (Q := LoopOut g L' s fun m nw => JT lamQ CS D q sa txt t u ts m nw) (fun n m nw => ∃ dn rs, ts = dn ++ rs ∧ n = rs.length ∧ JT lamQ CS D q sa txt t u dn m nw) (n₀ := ts.length)
    htkw F' (fun q hq => N' q (.tail _ hq)) ⟨[], ts, rfl, rfl, _, _, _, [], 0, _, frame7 rfl rfl rfl rfl rfl rfl rfl, rfl, .nil, tab, ?hoff⟩ ?turn)) ?rest fun _ _ e => e.2
  (case hoff => intro p hp; rw [List.mem_singleton] at hp; subst hp; exact Nat.ne_of_lt (by assumption))
  (case turn =>
    rintro n m₁ news₁ h₂ tk₂ htk₂ F₂ N₂ ⟨dn, rs, hsp, rfl, v, ti, tn, ws, kk, R, rfl, rfl, hws, hR, hoff⟩
    clear F' N'
    have hwl : ws.length ≤ 5000 := by
      have h1 := (tr_len dn []).2
      have h2 := hws.length
      have h3 : (dn.flatMap showT).length ≤ txt.length := by rw [← htxt, hsp, List.flatMap_append, List.length_append]; omega
      unfold trP at h2
      simp only [List.length_nil, Nat.zero_add] at h1
      omega
    cases rs with
    | nil =>
      have hi : (dn.flatMap showT).length = txt.length := by rw [← htxt, hsp, List.append_nil]
      rw [List.append_nil] at hsp
      subst hsp
      rw [hi] at F₂
      k_steps
      exact WTest.no' (by first | rfl | (simp only [decide_eq_false_iff_not]; omega)) (LoopOut.intro F₂ N₂ ⟨v, ti, tn, ws, kk, R, by rw [hi], rfl, hws, hR, hoff⟩)
    | cons x rs =>
      have htx : txt = dn.flatMap showT ++ (showT x ++ rs.flatMap showT) := by rw [← htxt, hsp, List.flatMap_append, List.flatMap_cons]
      have hnx : ((dn ++ [x]).flatMap showT).length = (dn.flatMap showT).length + (showT x).length := by simp
      have hle : (dn.flatMap showT).length + (showT x).length ≤ txt.length := by rw [htx]; simp
      have hat : ∀ j c, (showT x)[j]? = some c → txt[(dn.flatMap showT).length + j]? = some c := fun j c h => by rw [htx]; exact app_at j h
      have hdr : txt.drop (dn.flatMap showT).length = showT x ++ rs.flatMap showT := by rw [htx, List.drop_left]
      clear htx htxt
      generalize hA : (dn.flatMap showT).length = i at *
      have hok := hts x (by rw [hsp]; simp)
      cases x with
      | star =>
        have hc : itemN txt (i : Int) = some 42 := itemN_nat (hat 0 42 rfl) rfl
        have f1 : (S [42] == Str.ofString "*") = true := by decide +kernel
        have hi : i < txt.length := (List.getElem?_eq_some_iff.mp (hat 0 42 rfl)).1
        k_steps
        refine WTest.yes' (by first | rfl | (simp only [decide_eq_true_eq]; omega)) ?_
        have hnx' : (((dn ++ [PT.star]).flatMap showT).length : Int) = (i : Int) + 1 := by rw [hnx]; rfl
        rcases hws.lastOf with ⟨rfl, hp⟩ | ⟨ws, rfl, hp⟩ | ⟨ws, l, tl, rfl, hp⟩
        · have hst : stepP (trP dn) .star = trP dn ++ [.star] := if_neg (by rw [hp]; decide)
          k_steps
          exact jt_next (by assumption) (by assumption) rfl hnx'.symm rfl rfl rfl rfl rfl rfl (List.push_toArray ..) (by rw [hst]; exact hws.append (.star .nil)) hR hoff hsp
        · have hst : stepP (trP dn) .star = trP dn := if_pos hp
          k_steps
          exact jt_next (by assumption) (by assumption) rfl hnx'.symm rfl rfl rfl rfl rfl rfl rfl (by rw [hst]; exact hws) hR hoff hsp
        · have hst : stepP (trP dn) .star = trP dn ++ [.star] := if_neg (by rw [hp]; simp)
          k_steps
          exact jt_next (by assumption) (by assumption) rfl hnx'.symm rfl rfl rfl rfl rfl rfl (List.push_toArray ..) (by rw [hst]; exact hws.append (.star .nil)) hR hoff hsp
      | any =>
        have hc : itemN txt (i : Int) = some 63 := itemN_nat (hat 0 63 rfl) rfl
        have f1 : (S [63] == Str.ofString "*") = false := by decide +kernel
        have f2 : (S [63] == Str.ofString "?") = true := by decide +kernel
        have hi : i < txt.length := (List.getElem?_eq_some_iff.mp (hat 0 63 rfl)).1
        have hnx' : (((dn ++ [PT.any]).flatMap showT).length : Int) = (i : Int) + 1 := by rw [hnx]; rfl
        k_steps
        refine WTest.yes' (by first | rfl | (simp only [decide_eq_true_eq]; omega)) ?_
        k_steps
        exact jt_next (by assumption) (by assumption) rfl hnx'.symm rfl rfl rfl rfl rfl rfl (List.push_toArray ..) (hws.append (.lit _ _ .nil)) hR hoff hsp
      | ch c =>
        obtain ⟨g1, g2, g3, g4⟩ := hok
        have hc : itemN txt (i : Int) = some c := itemN_nat (hat 0 c rfl) rfl
        have f1 : (S [c] == Str.ofString "*") = false := one_ne g1 ofS_star
        have f2 : (S [c] == Str.ofString "?") = false := one_ne g2 ofS_q
        have f3 : (S [c] == Str.ofString "[") = false := one_ne g3 ofS_br
        have hi : i < txt.length := (List.getElem?_eq_some_iff.mp (hat 0 c rfl)).1
        have hnx' : (((dn ++ [PT.ch c]).flatMap showT).length : Int) = (i : Int) + 1 := by rw [hnx]; rfl
        k_steps
        refine WTest.yes' (by first | rfl | (simp only [decide_eq_true_eq]; omega)) ?_
        k_steps
        unfold Stop
        (with_reducible rename Fr _ _ _ _ => F')
        (with_reducible rename News _ _ _ _ => N')
        refine wp_weaken (er_c (X.keeps F'.keep) (T.keeps F'.keep) (by first | assumption | omega | (dsimp only; omega)) g4 fun t' h' tk' k' htk' => ?_) rfl (Nat.le_of_ble_eq_true rfl) (Nat.le_of_ble_eq_true rfl)
        have F'' := fr_keeps F' k'
        have N'' := news_keeps N' k'
        clear F' N'
        k_steps
        exact jt_next (by assumption) (by assumption) rfl hnx'.symm rfl rfl rfl rfl rfl rfl (List.push_toArray ..) (hws.append (.lit (escRe c) _ .nil)) hR hoff hsp
      | set l =>
        obtain ⟨g1, g2, g3⟩ := hok
        have hc : itemN txt (i : Int) = some 91 := itemN_nat (hat 0 91 rfl) rfl
        have f1 : (S [91] == Str.ofString "*") = false := by decide +kernel
        have f2 : (S [91] == Str.ofString "?") = false := by decide +kernel
        have f3 : (S [91] == Str.ofString "[") = true := by decide +kernel
        have hsl : (showT (.set l)).length = l.length + 2 := by simp [showT]
        have hnx' : (((dn ++ [PT.set l]).flatMap showT).length : Int) = ((i + 1 + l.length : Nat) : Int) + 1 := by rw [hnx, hsl]; omega
        rw [hsl] at hle
        have hl0 : 1 ≤ l.length := List.length_pos_iff.mpr g1
        have hin : ∀ j c, l[j]? = some c → txt[i + 1 + j]? = some c := fun j c h => by
          have := hat (j + 1) c (by simp only [showT, List.cons_append, List.getElem?_cons_succ]; rw [List.getElem?_append_left (List.getElem?_eq_some_iff.mp h).1]; exact h)
          rw [show i + 1 + j = i + (j + 1) by omega]; exact this
        have hend : txt[i + 1 + l.length]? = some 93 := by
          have := hat (l.length + 1) 93 (by simp only [showT, List.cons_append, List.getElem?_cons_succ]; rw [List.getElem?_append_right (by omega)]; simp)
          rw [show i + 1 + l.length = i + (l.length + 1) by omega]; exact this
        obtain ⟨a, ha⟩ : ∃ a, l[0]? = some a := ⟨l[0], List.getElem?_eq_getElem (by omega)⟩
        have hj1 : itemN txt ((i : Int) + 1) = some a := itemN_nat (hin 0 a ha) (by omega)
        have hga := g3 a (List.mem_of_getElem? ha)
        have hsl2 : Txt.slice (S txt) (some ((i : Int) + 1)) (some ((i + 1 + l.length : Nat) : Int)) = S l := by
          have h1 := slice_closes (x := S txt) (i := (i : Int) + 1) (j := ((i + 1 + l.length : Nat) : Int)) ⟨by omega, by omega, by show _ ≤ (txt.length : Int); omega⟩
          rw [eq_of_beq h1]
          show S ((txt.drop ((i : Int) + 1).toNat).take _) = S l
          congr 1
          rw [show ((i : Int) + 1).toNat = i + 1 by omega, show (((i + 1 + l.length : Nat) : Int) - ((i : Int) + 1)).toNat = l.length by omega, ← List.drop_drop, hdr]
          simp [showT]
        have hin45 : (Builtin.Str.occurrences (S l) (Str.ofString "-") 0 (S l).length 1).isEmpty = true := by
          rw [show Str.ofString "-" = S [45] by decide +kernel, empty_S, decide_eq_false (fun h => (g3 45 h).2.1 rfl)]; rfl
        have hll : l.length ≤ 5000 := by omega
        have hfit : (S l).length + ((S l).length + 1) * (Str.ofString "\\\\").length ≤ 16777216 := fitR_of (x := S l) (z := Str.ofString "\\\\") (by rw [sLen]; omega) (by decide +kernel)
        have hrep : Txt.replace (S l) (Str.ofString "\\") (Str.ofString "\\\\") = S (l.flatMap dbl1) := by
          rw [ofS_bs, show Str.ofString "\\\\" = S [92, 92] by decide +kernel, replace_one']; rfl
        by_cases h33 : a = 33
        · have f4 : (S [a] == Str.ofString "!") = true := by rw [h33]; decide +kernel
          obtain ⟨b1, hb1⟩ : ∃ b, l[1]? = some b := by
            have : 1 < l.length := by
              rcases Nat.lt_or_ge 1 l.length with h | h
              · exact h
              · exfalso
                cases l with
                | nil => exact g1 rfl
                | cons c l' =>
                  cases l' with
                  | nil => cases ha; exact g2 (by rw [h33])
                  | cons d l'' => simp at h
            exact ⟨l[1], List.getElem?_eq_getElem this⟩
          have hl1 : 1 < l.length := (List.getElem?_eq_some_iff.mp hb1).1
          have hj2 : itemN txt ((i : Int) + 1 + 1) = some b1 := itemN_nat (hin 1 b1 hb1) (by omega)
          have f5 : (S [b1] == Str.ofString "]") = false := one_ne (g3 b1 (List.mem_of_getElem? hb1)).1 ofS_cl
          k_steps
          refine WTest.yes' (by first | rfl | (simp only [decide_eq_true_eq]; omega)) ?_
          k_steps
          unfold Stop
          (with_reducible rename Fr _ _ _ _ => F')
          (with_reducible rename News _ _ _ _ => N')
          rename_i tk3 htk3
          refine wpAny_mono (wpAny_toks_of htk3 (while_k (Q := LoopOut g L' s fun m nw => JI D q sa txt t u ws kk R i (i + 1 + l.length) m nw) (fun n m nw => ∃ c, n = l.length - c ∧ c ≤ l.length ∧ JI D q sa txt t u ws kk R i (i + 1 + c) m nw) (n₀ := l.length - 1)
            htk3 F' N' ⟨1, rfl, by omega, ji_intro rfl (by omega) rfl rfl rfl rfl rfl rfl rfl rfl⟩ ?turn3)) ?rest3 fun _ _ e => e.2
          (case turn3 =>
            rintro n m₁ news₁ h₄ tk₄ htk₄ F₄ N₄ ⟨c, rfl, hcl, v₄, tj, ti4, tn4, rfl, rfl⟩
            clear F' N' f1 f2 f3 f4 f5
            by_cases hlt : c < l.length
            · obtain ⟨b, hb⟩ : ∃ b, l[c]? = some b := ⟨l[c], List.getElem?_eq_getElem hlt⟩
              have hjb : itemN txt ((i + 1 + c : Nat) : Int) = some b := itemN_nat (hin c b hb) rfl
              have hne : (S [b] != Str.ofString "]") = true := by rw [bne, one_ne (g3 b (List.mem_of_getElem? hb)).1 ofS_cl]; rfl
              k_steps
              refine WTest.yes' (by first | rfl | (simp only [decide_eq_true_eq]; omega)) ?_
              k_steps
              exact WEnd.next (n' := l.length - (c + 1)) (by assumption) (by assumption) (by omega) ⟨c + 1, rfl, by omega, ji_intro rfl (by omega) rfl rfl rfl rfl rfl rfl rfl rfl⟩
            · have hce : c = l.length := by omega
              subst hce
              have hjb : itemN txt ((i + 1 + l.length : Nat) : Int) = some 93 := itemN_nat hend rfl
              have hne : (S [93] != Str.ofString "]") = false := by decide +kernel
              k_steps
              exact WTest.no' (by first | rfl | (simp only [decide_eq_false_iff_not]; omega)) (LoopOut.intro F₄ N₄ ⟨v₄, tj, ti4, tn4, rfl, rfl⟩))
          (case rest3 =>
            rintro f3 s' ⟨htk', rfl, h', tk', m', nw', rfl, F₄, N₄, ⟨v₄, tj, ti4, tn4, rfl, rfl⟩⟩
            clear F' N' f1 f2 f3 f4 f5
            dsimp only at htk'
            dsimp only
            k_steps
            unfold Stop
            (with_reducible rename Fr _ _ _ _ => F')
            obtain ⟨o70, h70, hc70, hd70⟩ := (pat_at (X.keeps F'.keep)).2
            refine getMethod_builtin (T := "re.Pattern") ⟨o70, h70, hc70⟩ plainAttrs_pattern slot_re_sub type_re_sub (fun a e => by cases e; exact ⟨o70, h70, hd70⟩) ?_
            clear h70
            k_steps
            unfold Stop
            (with_reducible rename News _ _ _ _ => N')
            refine kla_eval rfl ?_
            refine lam_make (pre := [Bnd q D, (D, W.listOf ws.toArray kk)]) (R := R) (qual := lamQ) (c := 95) (clos := []) F' N' T ?C ?cd ?pre hCS hR ?cl ?_
            (case C => exact codeHd_of_K X (by kernel_rfl))
            (case cd => exact rfl)
            (case pre =>
              intro p hp
              simp only [List.mem_cons, List.not_mem_nil, or_false] at hp
              rcases hp with rfl | rfl
              · exact Nat.ne_of_gt lDq.2
              · exact Nat.ne_of_gt lT)
            (case cl => exact rfl)
            intro f c' ctv h5 tk5 R' F5 N5 hR' hcod hRp
            clear F' N'
            k_steps
            unfold Stop
            have hdl : (S (l.flatMap dbl1)).length ≤ 10000 := by rw [sLen]; have := flat_len dbl1 l 2 fun c _ => dbl1_len c; omega
            refine sub_k (X.keeps F5.keep) (N5 _ (.head _)).1 rfl hdl (sub_lt l fun c hc => (g3 c hc).2.2) (lam_ok (X.keeps F5.keep) (T.keeps F5.keep) (N5 _ (.head _)).1 hcod (Nat.le_of_ble_eq_true rfl) hdl (pl := _) (fun env => by rfl)) fun t6 h6 tk6 k6 => ?_
            have F6 := fr_keeps F5 k6
            have N6 : News g L' h6 (Bnd q D :: (D, W.listOf ws.toArray kk) :: R') := fun p hp => (news_keeps N5 k6) p (.tail _ hp)
            have hoff' : ∀ p ∈ R', p.1 ≠ D := fun p hp => by
              rcases hRp p hp with h | h | h
              · rw [h]; exact Nat.ne_of_lt lT
              · exact hoff p h
              · exact Nat.ne_of_gt (h _ (.tail _ (.head _)))
            clear F5 N5 k6 hcod hRp
            have hxe : S ((S (l.flatMap dbl1)).cps.toList.flatMap subOne) = S (stuffOf l) := rfl
            rw [hxe]
            clear hxe
            obtain ⟨l', rfl⟩ : ∃ l', l = a :: l' := by cases l with | nil => exact absurd rfl g1 | cons b l' => cases ha; exact ⟨l', rfl⟩
            obtain ⟨d, r, ex, e33, e94, e91, er⟩ := stuff_head a l'
            have hx2 := stuff_len (a :: l')
            have hset : setP (a :: l') = 91 :: frontT (stuffOf (a :: l')) ++ [93] := rfl
            generalize stuffOf (a :: l') = x at *
            have hx1 : 1 ≤ x.length := by rw [ex]; simp
            have hxS : (S x).length ≤ 20000 := by rw [sLen]; omega
            have hx0 : itemN x 0 = some d := by rw [ex]; rfl
            have hd33 : d = 33 := e33.mpr h33
            have p1 : (S x == Str.ofString "!") = false := by
              rw [ofS_ex, beq_eq_false_iff_ne]
              intro e
              have e2 : x = [33] := by have := congrArg (fun z : Str => z.cps.toList) e; exact this
              rw [ex, er h33] at e2
              have e3 := (List.cons.inj e2).2
              cases l' with
              | nil => exact g2 (by rw [h33])
              | cons b l'' =>
                obtain ⟨d', r', ex', _⟩ := stuff_head b l''
                rw [ex'] at e3; cases e3
            have p2 : (S [d] == Str.ofString "!") = true := by rw [hd33]; decide +kernel
            have p3 : Txt.slice (S x) (some 1) none = S (x.drop 1) := by
              rw [slice_from_eq (x := S x) (i := 1) (b := (x.length : Int)) (by decide) (by rw [sLen]; omega) (by rw [sLen])]
              show S ((x.drop 1).take _) = _
              congr 1
              exact List.take_of_length_le (by rw [List.length_drop]; omega)
            have hfr : Str.empty ++ Str.ofString "[" ++ (Str.ofString "^" ++ S (x.drop 1)) ++ Str.ofString "]" = S (setP (a :: l')) := by
              rw [hset, ofS_br, ofS_cl, show Str.ofString "^" = S [94] by decide +kernel, show Str.empty = S [] from rfl, sApp, sApp, sApp, sApp]
              have : frontT x = 94 :: x.drop 1 := by unfold frontT; rw [if_pos (by rw [ex, hd33]; rfl)]
              rw [this]; rfl
            have hxD : (S (x.drop 1)).length ≤ 20000 := by rw [sLen, List.length_drop]; omega
            have hbig : (Str.ofString "^" ++ S (x.drop 1)).length ≤ 20010 := by rw [show Str.ofString "^" = S [94] by decide +kernel, sApp, sLen]; simp; omega
            clear hset ex e33 e94 e91 er hin hend hdr hnx hat g3 g1 g2 ha hga hj1 hc
            k_steps
            exact jt_next (by assumption) (by assumption) rfl hnx'.symm rfl rfl rfl rfl rfl rfl (List.push_toArray ..) (by rw [hfr]; exact hws.append (.lit _ _ .nil)) hR' hoff' hsp)
        · have f4 : (S [a] == Str.ofString "!") = false := one_ne h33 ofS_ex
          have f5 : (S [a] == Str.ofString "]") = false := one_ne hga.1 ofS_cl
          k_steps
          refine WTest.yes' (by first | rfl | (simp only [decide_eq_true_eq]; omega)) ?_
          k_steps
          unfold Stop
          (with_reducible rename Fr _ _ _ _ => F')
          (with_reducible rename News _ _ _ _ => N')
          rename_i tk3 htk3
          refine wpAny_mono (wpAny_toks_of htk3 (while_k (Q := LoopOut g L' s fun m nw => JI D q sa txt t u ws kk R i (i + 1 + l.length) m nw) (fun n m nw => ∃ c, n = l.length - c ∧ c ≤ l.length ∧ JI D q sa txt t u ws kk R i (i + 1 + c) m nw) (n₀ := l.length - 0)
            htk3 F' N' ⟨0, rfl, by omega, ji_intro rfl (by omega) rfl rfl rfl rfl rfl rfl rfl rfl⟩ ?turn3)) ?rest3 fun _ _ e => e.2
          (case turn3 =>
            rintro n m₁ news₁ h₄ tk₄ htk₄ F₄ N₄ ⟨c, rfl, hcl, v₄, tj, ti4, tn4, rfl, rfl⟩
            clear F' N' f1 f2 f3 f4 f5
            by_cases hlt : c < l.length
            · obtain ⟨b, hb⟩ : ∃ b, l[c]? = some b := ⟨l[c], List.getElem?_eq_getElem hlt⟩
              have hjb : itemN txt ((i + 1 + c : Nat) : Int) = some b := itemN_nat (hin c b hb) rfl
              have hne : (S [b] != Str.ofString "]") = true := by rw [bne, one_ne (g3 b (List.mem_of_getElem? hb)).1 ofS_cl]; rfl
              k_steps
              refine WTest.yes' (by first | rfl | (simp only [decide_eq_true_eq]; omega)) ?_
              k_steps
              exact WEnd.next (n' := l.length - (c + 1)) (by assumption) (by assumption) (by omega) ⟨c + 1, rfl, by omega, ji_intro rfl (by omega) rfl rfl rfl rfl rfl rfl rfl rfl⟩
            · have hce : c = l.length := by omega
              subst hce
              have hjb : itemN txt ((i + 1 + l.length : Nat) : Int) = some 93 := itemN_nat hend rfl
              have hne : (S [93] != Str.ofString "]") = false := by decide +kernel
              k_steps
              exact WTest.no' (by first | rfl | (simp only [decide_eq_false_iff_not]; omega)) (LoopOut.intro F₄ N₄ ⟨v₄, tj, ti4, tn4, rfl, rfl⟩))
          (case rest3 =>
            rintro f3 s' ⟨htk', rfl, h', tk', m', nw', rfl, F₄, N₄, ⟨v₄, tj, ti4, tn4, rfl, rfl⟩⟩
            clear F' N' f1 f2 f3 f4 f5
            dsimp only at htk'
            dsimp only
            k_steps
            unfold Stop
            (with_reducible rename Fr _ _ _ _ => F')
            obtain ⟨o70, h70, hc70, hd70⟩ := (pat_at (X.keeps F'.keep)).2
            refine getMethod_builtin (T := "re.Pattern") ⟨o70, h70, hc70⟩ plainAttrs_pattern slot_re_sub type_re_sub (fun a e => by cases e; exact ⟨o70, h70, hd70⟩) ?_
            clear h70
            k_steps
            unfold Stop
            (with_reducible rename News _ _ _ _ => N')
            refine kla_eval rfl ?_
            refine lam_make (pre := [Bnd q D, (D, W.listOf ws.toArray kk)]) (R := R) (qual := lamQ) (c := 95) (clos := []) F' N' T ?C ?cd ?pre hCS hR ?cl ?_
            (case C => exact codeHd_of_K X (by kernel_rfl))
            (case cd => exact rfl)
            (case pre =>
              intro p hp
              simp only [List.mem_cons, List.not_mem_nil, or_false] at hp
              rcases hp with rfl | rfl
              · exact Nat.ne_of_gt lDq.2
              · exact Nat.ne_of_gt lT)
            (case cl => exact rfl)
            intro f c' ctv h5 tk5 R' F5 N5 hR' hcod hRp
            clear F' N'
            k_steps
            unfold Stop
            have hdl : (S (l.flatMap dbl1)).length ≤ 10000 := by rw [sLen]; have := flat_len dbl1 l 2 fun c _ => dbl1_len c; omega
            refine sub_k (X.keeps F5.keep) (N5 _ (.head _)).1 rfl hdl (sub_lt l fun c hc => (g3 c hc).2.2) (lam_ok (X.keeps F5.keep) (T.keeps F5.keep) (N5 _ (.head _)).1 hcod (Nat.le_of_ble_eq_true rfl) hdl (pl := _) (fun env => by rfl)) fun t6 h6 tk6 k6 => ?_
            have F6 := fr_keeps F5 k6
            have N6 : News g L' h6 (Bnd q D :: (D, W.listOf ws.toArray kk) :: R') := fun p hp => (news_keeps N5 k6) p (.tail _ hp)
            have hoff' : ∀ p ∈ R', p.1 ≠ D := fun p hp => by
              rcases hRp p hp with h | h | h
              · rw [h]; exact Nat.ne_of_lt lT
              · exact hoff p h
              · exact Nat.ne_of_gt (h _ (.tail _ (.head _)))
            clear F5 N5 k6 hcod hRp
            have hxe : S ((S (l.flatMap dbl1)).cps.toList.flatMap subOne) = S (stuffOf l) := rfl
            rw [hxe]
            clear hxe
            obtain ⟨l', rfl⟩ : ∃ l', l = a :: l' := by cases l with | nil => exact absurd rfl g1 | cons b l' => cases ha; exact ⟨l', rfl⟩
            obtain ⟨d, r, ex, e33, e94, e91, er⟩ := stuff_head a l'
            have hx2 := stuff_len (a :: l')
            have hset : setP (a :: l') = 91 :: frontT (stuffOf (a :: l')) ++ [93] := rfl
            generalize stuffOf (a :: l') = x at *
            have hx1 : 1 ≤ x.length := by rw [ex]; simp
            have hxS : (S x).length ≤ 20000 := by rw [sLen]; omega
            have hx0 : itemN x 0 = some d := by rw [ex]; rfl
            have hd33 : d ≠ 33 := fun h => h33 (e33.mp h)
            have p1 : (S x == Str.ofString "!") = false := by
              rw [ofS_ex, beq_eq_false_iff_ne]
              intro e
              have e2 : x = [33] := by have := congrArg (fun z : Str => z.cps.toList) e; exact this
              rw [ex] at e2
              exact hd33 (List.cons.inj e2).1
            have p2 : (S [d] == Str.ofString "!") = false := one_ne hd33 ofS_ex
            by_cases h9 : d = 94 ∨ d = 91
            · have p3 : ([Str.ofString "^", Str.ofString "["].any fun x => x == S [d]) = true := by rcases h9 with rfl | rfl <;> decide +kernel
              have hfr : Str.empty ++ Str.ofString "[" ++ (Str.ofString "\\" ++ S x) ++ Str.ofString "]" = S (setP (a :: l')) := by
                rw [hset, ofS_br, ofS_bs, ofS_cl, show Str.empty = S [] from rfl, sApp, sApp, sApp, sApp]
                have : frontT x = 92 :: x := by unfold frontT; rw [ex]; rw [if_neg (by simpa using hd33), if_pos (by simpa using h9)]
                rw [this]; rfl
              have hbig : (Str.ofString "\\" ++ S x).length ≤ 20010 := by rw [ofS_bs, sApp, sLen]; simp; omega
              clear hset ex e33 e94 e91 er hin hend hdr hnx hat g3 g1 g2 ha hga hj1 hc
              k_steps
              (with_reducible rename News _ _ _ _ => N9)
              have N8 := news_tail N9
              clear N9
              k_steps
              exact jt_next (by assumption) (by assumption) rfl hnx'.symm rfl rfl rfl rfl rfl rfl (List.push_toArray ..) (by rw [hfr]; exact hws.append (.lit _ _ .nil)) hR' hoff' hsp
            · have p3 : ([Str.ofString "^", Str.ofString "["].any fun x => x == S [d]) = false := by
                show ((Str.ofString "^" == S [d]) || ((Str.ofString "[" == S [d]) || false)) = false
                rw [show Str.ofString "^" = S [94] by decide +kernel, ofS_br, beq_eq_false_iff_ne.mpr (fun e => h9 (.inl (by simpa using e.symm))), beq_eq_false_iff_ne.mpr (fun e => h9 (.inr (by simpa using e.symm)))]
                rfl
              have hfr : Str.empty ++ Str.ofString "[" ++ S x ++ Str.ofString "]" = S (setP (a :: l')) := by
                rw [hset, ofS_br, ofS_cl, show Str.empty = S [] from rfl, sApp, sApp, sApp]
                have : frontT x = x := by unfold frontT; rw [ex]; rw [if_neg (by simpa using hd33), if_neg (by simpa using h9)]
                rw [this]; rfl
              clear hset ex e33 e94 e91 er hin hend hdr hnx hat g3 g1 g2 ha hga hj1 hc
              k_steps
              (with_reducible rename News _ _ _ _ => N9)
              have N8 := news_tail N9
              clear N9
              k_steps
              exact jt_next (by assumption) (by assumption) rfl hnx'.symm rfl rfl rfl rfl rfl rfl (List.push_toArray ..) (by rw [hfr]; exact hws.append (.lit _ _ .nil)) hR' hoff' hsp))
  (case rest =>
    rintro f s' ⟨htk', rfl, h', tk', m', nw', rfl, F₂, N₂, ⟨v, ti, tn, ws, kk, R, rfl, rfl, hws, hR, hoff⟩⟩
    clear F' N'
    rw [htxt] at F₂
    dsimp only at htk'
    dsimp only
    k_steps
    (with_reducible rename Fr _ _ _ _ => F9)
    (with_reducible rename News _ _ _ _ => N9)
    exact ret D ws kk _ _ R hws (N9 _ (.tail _ (.head _))).1 (N9 _ (.tail _ (.head _))).2.2 (Nat.ne_of_gt lT) (fun b o e => F9.keep b o e) hR (fun p hp => ⟨(N9 p (.tail _ (.tail _ hp))).1, (N9 p (.tail _ (.tail _ hp))).2.2⟩) hoff)
end Mine
end

section
open PySem PySem.W PyProof.Rows PySem.Spec PySem.Calls
namespace Mine
theorem slot_object_init : Slot "object" "__init__" "object.__init__" :=
  .of (owner := "object") (n := "__init__") (by rw [typeLookup_type, builtinLookup_eq_fast]; kernel_rfl) (by decide +kernel) (by decide +kernel) (by decide +kernel)
    (by first | exact .inl (by decide +kernel) | exact .inr (by decide +kernel)) (by rw [isSubtype_type]; kernel_rfl)
theorem mroObj : mroOf (.type "object") = pure [.type "object"] := by kernel_rfl
theorem lk_object_new : typeLookup (.type "object") "__new__" = pure (some (.builtin "object.__new__")) := by rw [typeLookup_type, builtinLookup_eq_fast]; kernel_rfl
theorem lk_object_init : typeLookup (.type "object") "__init__" = pure (some (.builtin "object.__init__")) := by rw [typeLookup_type, builtinLookup_eq_fast]; kernel_rfl
theorem made_object : Bind.madeBy (.type "object") = pure (some "object.__new__") := madeBy_type mroObj lk_object_new (by decide +kernel)
theorem tc_object : TypeCalled "object" "object.__new__" "object.__init__" :=
  ⟨by decide, by decide +kernel, ⟨_, _, mroObj⟩, made_object, by decide +kernel, PySem.F.sub_object_object, slot_object_init⟩
theorem no_ {α : Type} {M : Model} {A : Around} {E : Value → Shared → Prop} {s : Shared} {c : Prop} [Decidable c] {a b : Sem α} {Q : α → Shared → Prop} (hc : decide c = false) (h : wpAny M A b Q E s) : wpAny M A (if c then a else b) Q E s := by rw [if_neg (of_decide_eq_false hc)]; exact h
theorem made_here : Bind.madeHere "object.__new__" (.type "object") = pure () := by
  have e : Bind.staticBase (.type "object") = pure (.type "object") := by kernel_rfl
  unfold Bind.madeHere
  rw [e]
  show (Bind.madeBy (.type "object") >>= fun x => _) = _
  rw [made_object]
  kernel_rfl
noncomputable abbrev oObj : Obj := { cls := .type "object", data := .plain }
theorem meets_new : Meets (Builtin.«object.__new__» ⟨[.type "object"], []⟩) (fun _ R s => R (.ok (.ret (.ref s.heap.objs.size))) { s with heap := s.heap.push oObj }) := by
  refine .of_wp fun prog w A R s hs => ?_
  unfold Builtin.«object.__new__»
  dsimp only
  refine wpAny_bind (wpAny_of_eq (a := true) (by kernel_rfl) ?_)
  refine no_ (by rfl) ?_
  refine no_ (by decide +kernel) ?_
  refine wpAny_bind (wpAny_of_eq (a := ()) made_here ?_)
  refine no_ (by rfl) ?_
  refine no_ (by decide +kernel) ?_
  refine wpAny_bind (wpAny_pure ?_)
  refine wpAny_bind (wpAny_newObj_type ?_)
  refine no_ (by decide +kernel) ?_
  exact wpAny_pure ⟨_, rfl, hs⟩
theorem meets_init (obj : Value) : Meets (Builtin.«object.__init__» ⟨[obj], []⟩) (fun _ R s => R (.ok (.ret .none)) s) := by
  refine .of_wp fun prog w A R s hs => ?_
  exact wpAny_pure ⟨_, rfl, hs⟩
theorem call_object {prog : Program} {w : World} {A : Around} {E : Value → Shared → Prop} {s : Shared} {Q : Value → Shared → Prop} (h : Q (.ref s.heap.objs.size) { s with heap := s.heap.push oObj }) : wpAny (model prog w) A (call (.type "object") []) Q E s := by
  refine callType_meets (Q₁ := fun v s₁ => v = .ref s.heap.objs.size ∧ s₁ = { s with heap := s.heap.push oObj }) tc_object (by kernel_rfl) (by kernel_rfl) PySem.F.entry_object_new PySem.F.entry_object_init meets_new ⟨rfl, rfl⟩ ?_
  rintro obj s₁ ⟨rfl, rfl⟩
  refine ⟨⟨_, Heap.get?_push_size _ rfl, rfl⟩, by unfold argsOk; kernel_rfl, _, meets_init _, rfl, h⟩
end Mine
end

section
open PySem PySem.W PyProof.Rows PySem.Spec PySem.Calls
namespace Mine
local macro_rules | `(tactic| walk_at "execs cons") => `(tactic| (k_here; (fail_if_success (fail_if_success k_gentoks)); refine gen_toks (by (try dsimp only); omega) ?_; intro tk htk))
local macro_rules | `(tactic| walk_at "execs nil") => `(tactic| (k_here; (fail_if_success (fail_if_success k_gentoks)); refine gen_toks (by (try dsimp only); omega) ?_; intro tk htk))
local macro_rules | `(tactic| walk_at "call ref") => `(tactic| (k_here; (with_reducible show wpAny _ _ (call (Value.ref 96) _) _ _ _); refine stop ?_))
local macro_rules | `(tactic| walk_at "call ref") => `(tactic| (k_here; (with_reducible show wpAny _ _ (call (Value.ref 103) _) _ _ _); refine stop ?_))
theorem keeps_hide {g h : Heap} (k : Keeps g h) (h91 : g.get? 91 = none) : Keeps g (hideAll h [91]) := fun b o e => hideAll_get _ (k b o e) (by rw [List.mem_singleton]; intro q; rw [q, h91] at e; cases e)
theorem fresh_of {g h : Heap} {L a : Addr} {m : Str → Option Value} (F : Fr g L h m) (k : Keeps g (hideAll h [91])) (hL : L ≠ 91) (hf : (hideAll h [91]).get? a = none) : a ≠ L ∧ g.get? a = none := by
  constructor
  · obtain ⟨oL, _, _, e, _⟩ := F.ns
    intro q
    have e2 := hideAll_get [91] e (by rw [List.mem_singleton]; exact hL)
    rw [← q, hf] at e2; cases e2
  · cases e : g.get? a with
    | none => rfl
    | some o => have := k _ _ e; rw [hf] at this; cases this
theorem fr_hide {g h h' : Heap} {L : Addr} {m : Str → Option Value} (F : Fr g L h m) (k : Keeps g (hideAll h [91])) (hL : L ≠ 91) (kp : Keeps (hideAll h [91]) h') : Fr g L h' m :=
  ⟨F.ns.at' fun o e => kp _ o (hideAll_get _ e (by rw [List.mem_singleton]; exact hL)), fun b o e => kp b o (k b o e), F.above⟩
theorem tl_c {w : World} {E : Value → Shared → Prop} {s : Shared} {Q : Value → Shared → Prop}
    {p : Program} {loose : List Str} {mean : ExcName → Option Value} {mg mb : Str → Option Value}
    (X : (Mine.heapK w.params).In (hideAll s.heap [91])) (T : Top p loose mean mg mb (hideAll s.heap [91])) (htk : 1 ≤ s.toks) {ps : Array Value} (h91 : s.heap.get? 91 = some (tabObj ps)) {CS : List (Addr × Obj)} (hCS : ∀ p ∈ CS, (hideAll s.heap [91]).get? p.1 = some p.2) (tab : TabIn lamQ CS [(91, tabObj ps)])
    {ts : List PT} {t : Tok} (hts : ∀ t ∈ ts, TokOk t) (hlen : (ts.flatMap showT).length ≤ 5000)
    (ret : ∀ t' h' tk' R, Keeps (hideAll s.heap [91]) h' → TabIn lamQ CS R → (∀ p ∈ R, h'.get? p.1 = some p.2 ∧ (hideAll s.heap [91]).get? p.1 = none) → Q (.str (S (joinP (trP ts))) t') { s with heap := h', toks := tk' }) :
    wpAny (model PySem.Challenge.rw_ij0039_01.row.prog w) (AtD 500 5000) (call (.ref 77) [.str (S (ts.flatMap showT)) t]) Q E s := by
  revert X; k_fill; intro X
  refine' call_c (binds := [(Str.ofString "pat", .str (S (ts.flatMap showT)) t)]) [(91, tabObj ps)] ?hg ?hm ?hX ?hT ?ho ?hcd ?hroom ?hbind ?hB ?hSc ?hloc ?_ ?c1 ?c2 ?c3 ?c4
  (case hg => exact rfl)
  (case hm => intro q hq; rw [List.mem_singleton] at hq; subst hq; exact h91)
  (case hX => exact X)
  (case hT => exact T)
  (case ho => k_is)
  (case hcd => k_is)
  (case hroom => decide)
  (case hbind => first | exact BindsTo.of_eq rfl | exact binds_K X rfl (by k_is) rfl rfl rfl)
  (case hB => conv => lhs; whnf)
  (case hSc => conv => lhs; whnf)
  (case hloc => exact locs rfl)
  (case c1 => exact rfl)
  (case c2 => exact rfl)
  (case c3 => exact rfl)
  (case c4 => decide)
  intro L' h₁ tk htk₀ F N X' T'
  replace htk : 1 ≤ tk := Nat.le_trans htk htk₀
  have hg : hideAll s.heap (List.map (fun x : Addr × Obj => x.fst) [(91, tabObj ps)]) = hideAll s.heap [91] := rfl
  rw [hg] at F N X' T'
  have hg91 : (hideAll s.heap [91]).get? 91 = none := hideAll_none _ (.head _)
  generalize htxt : ts.flatMap showT = txt at *
  generalize hideAll s.heap [91] = g at *
  have hL : L' ≠ 91 := (N _ (.head _)).2.1.symm
  k_steps
  refine call_object ?_
  dsimp only
  have F1 := F.push oObj
  have N1 := N.push F oObj
  have hs91 : h₁.objs.size ≠ 91 := fun q => by
    have := Heap.lt_size (N _ (.head _)).1
    rw [q] at this; exact Nat.lt_irrefl _ this
  generalize h₁.objs.size = sa at F1 N1 hs91 ⊢
  generalize h₁.push oObj = h₂ at F1 N1 ⊢
  clear F N
  k_steps
  unfold Stop
  (with_reducible rename Fr _ _ _ _ => F2)
  (with_reducible rename News _ _ _ _ => N2)
  rename_i h3 tk3 htk3
  have kh := keeps_hide (fun b o e => F2.keep b o e) hg91
  rw [show Str.ofString "." = S [46] by decide +kernel]
  subst htxt
  refine wp_weaken (trl_c (s := { s with heap := h3, toks := _ }) (X.keeps kh) (T.keeps kh) ?tk (N2 _ (.tail _ (.head _))).1 (CS := CS) (fun p hp => kh _ _ (hCS p hp)) tab hts hlen (N2 _ (.head _)).1 fun D ws kk h' tk' R hws hD hDf hD91 kp hR hRm hRD => ?_) rfl (Nat.le_of_ble_eq_true rfl) (Nat.le_of_ble_eq_true rfl)
  (case tk => first | assumption | (dsimp only; omega))
  dsimp only at hDf kp hRm ⊢
  have F3 := fr_hide F2 kh hL kp
  have N3 : News g L' h' ((D, W.listOf ws.toArray kk) :: (sa, oObj) :: R) := by
    intro p hp
    rcases List.mem_cons.mp hp with rfl | hp
    · exact ⟨hD, fresh_of F2 kh hL hDf⟩
    · rcases List.mem_cons.mp hp with rfl | hp
      · exact ⟨kp _ _ (hideAll_get _ (N2 _ (.head _)).1 (by rw [List.mem_singleton]; exact hs91)), (N2 _ (.head _)).2⟩
      · exact ⟨(hRm p hp).1, fresh_of F2 kh hL (hRm p hp).2⟩
  clear F2 N2 kh kp hRm hD hDf
  have hpl := hws.length
  have hl1 := tr_len ts []
  have hl2 := join_len (trP ts)
  have hl3 : litSum (trP ts) ≤ 20000 ∧ (trP ts).length ≤ 5000 := by
    unfold trP
    have e : litSum [] = 0 := rfl
    rw [e] at hl1
    simp only [List.length_nil, Nat.zero_add] at hl1
    omega
  have hwl : ws.length ≤ 5000 := by omega
  k_steps
  unfold Stop
  (with_reducible rename Fr _ _ _ _ => F4)
  (with_reducible rename News _ _ _ _ => N4)
  refine wp_weaken (join_c0 (X.keeps F4.keep) (T.keeps F4.keep) ?tk (News.isList N4 (.head _)) hws (by omega) (tr_chain ts [] (by intro i h; simp at h)) (by omega) (by unfold litSum at hl3; omega) fun t5 h5 tk5 k5 => ?_) rfl (Nat.le_of_ble_eq_true rfl) (Nat.le_of_ble_eq_true rfl)
  (case tk => first | assumption | (dsimp only; omega))
  dsimp only at k5 ⊢
  have F5 := fr_keeps F4 k5
  have N5 := news_keeps N4 k5
  clear F4 N4 k5
  k_steps
  exact ret _ _ _ R (fun b o e => F5.keep b o e) hR fun p hp => ⟨(N5 p (.tail _ (.tail _ hp))).1, (N5 p (.tail _ (.tail _ hp))).2.2⟩
end Mine
end

section
open PySem PySem.W PyProof.Rows PySem.Spec PySem.Calls
namespace Mine
local macro_rules | `(tactic| walk_at "execs cons") => `(tactic| (k_here; (fail_if_success (fail_if_success k_gentoks)); refine gen_toks (by (try dsimp only); omega) ?_; intro tk htk))
local macro_rules | `(tactic| walk_at "execs nil") => `(tactic| (k_here; (fail_if_success (fail_if_success k_gentoks)); refine gen_toks (by (try dsimp only); omega) ?_; intro tk htk))
local macro_rules | `(tactic| walk_at "call ref") => `(tactic| (k_here; refine stop ?_))
theorem ents_tab {prog : Program} {w : World} {h : Heap} {d : Addr} {es : List DictEntry} {ep : Nat} {kvs : List (Str × Str)} (he : Ents w es kvs) (ho : h.get? d = some (dObj es ep)) (hn : (kvs.map (·.1)).Nodup) (hS : (d == sysModules) = false) : StrTab prog w h d (tabOfL kvs) := by
  refine ⟨hS, es.map fun e => (match e.key with | .str k _ => k | _ => Str.empty, e.val), Heap.DictAt.dictOf (ep := ep) ⟨_, es.toArray, ho, ⟨rfl, rfl, rfl⟩, rfl, he.keysOf, ?_, ?_⟩, ?_⟩
  · clear ho hn
    induction he with
    | nil => exact .nil
    | cons h1 h2 h3 _ ih => exact .cons (strKind_is prog w _ _) rfl ih
  · have : (es.map fun e => ((match e.key with | .str k _ => k | _ => Str.empty : Str), e.val)).map (·.1) = kvs.map (·.1) := by
      clear ho hn
      induction he with
      | nil => rfl
      | cons h1 h2 h3 _ ih => simpa using ih
    rw [this]; exact hn
  · clear ho hn
    induction he with
    | nil => exact .nil
    | cons h1 h2 h3 _ ih => exact .cons (.str _ _) ih
theorem nm_names (b : Bool) : ∀ c ∈ menu, NmOk (namesL b) (qn b) c := by
  intro c hc
  unfold menu at hc
  simp only [List.mem_cons, List.not_mem_nil, or_false] at hc
  rcases hc with rfl | rfl | rfl | rfl | rfl | rfl | rfl | rfl | rfl | rfl | rfl | rfl | rfl | rfl | rfl | rfl <;> cases b <;> exact ⟨by kernel_rfl, by decide⟩
theorem nm_none (c : Nat) : NmOk [] q1 c := ⟨rfl, by unfold q1; simp⟩

local macro_rules | `(tactic| walk_at "eval Dict") => `(tactic| (k_here; (with_reducible rename Fr _ _ _ _ => kF); (with_reducible rename News _ _ _ _ => kN); refine star0 rfl (by decide +kernel) (by decide +kernel) (by decide +kernel) (by first | assumption | omega | (dsimp only; omega)) ?_; intro D' es' ep' h' tk' he' hD' hD0' hDz' hk' htk'; (dsimp only at hD0' hDz' hk' htk'); (have F' := fr_keeps kF hk'); (have N' := news_add kF kN hk' hD' hD0'); (try (have hDS' := sysne kF (by assumption) hDz')); clear kF kN))
theorem keeps_hide' {g h : Heap} {L : Addr} {m : Str → Option Value} (F : Fr g L h m) (h91 : g.get? 91 = none) : Keeps g (hideAll h [91]) := keeps_hide (fun b o e => F.keep b o e) h91
theorem news_after {g h h' : Heap} {L : Addr} {m : Str → Option Value} {news nwI R : List (Addr × Obj)} (F : Fr g L h m) (N : News g L h news) (h91 : g.get? 91 = none) (hL : L ≠ 91) (kp : Keeps (hideAll h [91]) h')
    (hR : ∀ p ∈ R, h'.get? p.1 = some p.2 ∧ (hideAll h [91]).get? p.1 = none) (hI : ∀ p ∈ nwI, p ∈ news ∧ p.1 ≠ 91) : News g L h' (R ++ nwI) := by
  intro p hp
  rcases List.mem_append.mp hp with hp | hp
  · exact ⟨(hR p hp).1, fresh_of F (keeps_hide' F h91) hL (hR p hp).2⟩
  · obtain ⟨h1, h2⟩ := hI p hp
    exact ⟨kp _ _ (hideAll_get _ (N p h1).1 (by rw [List.mem_singleton]; exact h2)), (N p h1).2⟩
theorem tabIn_91 {CS R : List (Addr × Obj)} (h : TabIn lamQ CS R) : ∃ ps R₂, R = (91, tabObj ps) :: R₂ := let ⟨ps, R₂, e, _⟩ := h; ⟨ps, R₂, e⟩
theorem add_S {prog : Program} {w : World} {A : Around} {E : Value → Shared → Prop} {s : Shared} {a b : List Nat} {t u : Tok} {Q : Value → Shared → Prop} (ht : 1 ≤ s.toks) (hsz : a.length + b.length ≤ 1000000) (h : ∀ t' tk, 1 ≤ tk → Q (.str (S (a ++ b)) t') { s with toks := tk }) : wpAny (model prog w) A (binaryOp .Add (.str (S a) t) (.str (S b) u)) Q E s :=
  wpAny_mono (wpAny_toks_of ht (add_str (Q := fun v s' => ∃ t' tk, v = .str (S (a ++ b)) t' ∧ s' = { s with toks := tk }) (fun t' tk => ⟨t', tk, by rw [sApp], rfl⟩) (by rw [sLen, sLen, sizeLine_eq]; omega))) (fun v s' ⟨ht', t', tk, e1, e2⟩ => by subst e1 e2; exact h t' tk ht') fun _ _ e => e.2
local macro_rules | `(tactic| walk_at "binaryOp Add str str") => `(tactic| (k_here; (with_reducible show wpAny _ _ (binaryOp Operator.Add (Value.str (S _) _) (Value.str (S _) _)) _ _ _); refine add_S (by first | assumption | (dsimp only; omega)) (by simp only [List.length_append, List.length_cons, List.length_nil]; omega) ?_; intro t' tk' htk'))
noncomputable def kOf (b : Bool) : Fin 3 := if b = true then 1 else 0
theorem qm_k (b : Bool) : qm (kOf b) = qn b := by funext c; cases b <;> rfl
theorem qm_2 : qm 2 = q1 := rfl
theorem toks_len (b : Fin 3) (m : Nat) (its : List Item) (h : (patOf its).length ≤ 300) : ((toksOf (qm b) m its).flatMap showT).length ≤ 5000 := by
  rw [tok_show, List.length_append, List.length_append]
  have : ((patOf its).flatMap (qm b)).length ≤ 6 * (patOf its).length := flat_len _ _ _ fun c _ => by unfold qm; split; simp; exact qn_len _ c
  simp only [List.length_cons, List.length_nil]; omega
theorem told_len (b : Fin 3) {m : Nat} (hm : m = 34 ∨ m = 39) (its : List Item) (ok : ∀ it ∈ its, ItOk it) (hs : ∃ it ∈ its, it.1 = .star) (h : (patOf its).length ≤ 300) : (toldOf (qm b) [m] its).length ≤ 100000 := by
  rw [← told_join b hm its ok hs]
  have h1 := toks_len b m its h
  have h2 := tr_len (toksOf (qm b) m its) []
  have h3 := join_len (trP (toksOf (qm b) m its))
  have h4 : (joinP (trP (toksOf (qm b) m its))).length = 7 + (lits (trP (toksOf (qm b) m its)) ++ joinG (trP (toksOf (qm b) m its)).length ((trP (toksOf (qm b) m its)).dropWhile isLit)).length := by
    unfold joinP; simp only [List.length_append, List.length_cons, List.length_nil]; omega
  rw [h4]
  have e : litSum [] = 0 := rfl
  rw [e] at h2
  unfold trP at h3 ⊢
  simp only [List.length_nil, Nat.zero_add] at h2
  omega
theorem tab_start : TabIn lamQ [] [(91, tabObj #[])] := ⟨#[], [], rfl, fun _ h => (nomatch h), trivial, fun pos v h => (by cases h)⟩
theorem tab_again {ps : Array Value} {R₂ : List (Addr × Obj)} (h : TabIn lamQ [] ((91, tabObj ps) :: R₂)) : (∀ p ∈ R₂, p.1 ≠ 91) ∧ TabIn lamQ R₂ [(91, tabObj ps)] := by
  obtain ⟨ps', R', e, h1, h2, h3⟩ := h
  cases e
  refine ⟨h1, ps, [], rfl, fun _ h => (nomatch h), h2, fun pos v hv => ?_⟩
  obtain ⟨c', oc, e, hm, hc⟩ := h3 pos v hv
  refine ⟨c', oc, e, .inr ?_, hc⟩
  rcases hm with hm | hm
  · exact hm
  · cases hm
noncomputable def MarkB : Prop := True
local macro_rules | `(tactic| walk_at "eval BoolOp") => `(tactic| (k_here; (with_reducible rename MarkB => hMk); refine stop ?_))
local macro_rules | `(tactic| walk_at "eval IfExp") => `(tactic| (k_here; (with_reducible rename MarkB => hMk); refine stop ?_))
noncomputable def PostV (P : Value → Prop) (s : Shared) (v : Value) (s' : Shared) : Prop := P v ∧ ∃ tk, s' = { s with toks := tk }
theorem val_mono {M : Model} {A : Around} {E : Value → Shared → Prop} {s : Shared} {t : Sem Value} {Q : Value → Shared → Prop} (P : Value → Prop) (ht : 1 ≤ s.toks) (h : wpAny M A t (PostV P s) E s) (hQ : ∀ v tk, 1 ≤ tk → P v → Q v { s with toks := tk }) : wpAny M A t Q E s :=
  wpAny_mono (wpAny_toks_of ht h) (fun v s' ⟨ht', hp, tk, e⟩ => by subst e; exact hQ v tk ht' hp) fun _ _ e => e.2
theorem news_adds {h₀ h h' : Heap} {L : Addr} {m : Str → Option Value} {news : List (Addr × Obj)} (F : Fr h₀ L h m) (N : News h₀ L h news) (k : Keeps h h') (R : List (Addr × Obj)) (hR : ∀ q ∈ R, h'.get? q.1 = some q.2 ∧ h.get? q.1 = none) : News h₀ L h' (R ++ news) := by
  intro p hp
  rcases List.mem_append.mp hp with hp | hp
  · exact news_add F N k (hR p hp).1 (hR p hp).2 _ (.head _)
  · exact news_keeps N k p hp
theorem law_c {w : World} {E : Value → Shared → Prop} {s : Shared} {Q : Value → Shared → Prop}
    {p : Program} {loose : List Str} {mean : ExcName → Option Value} {mg mb : Str → Option Value}
    (X : (Mine.heapK w.params).In (hideAll s.heap [91])) (T : Top p loose mean mg mb (hideAll s.heap [91])) (h91 : s.heap.get? 91 = some (tabObj #[]))
    {l : Addr} {vs : List Value} {ns : List Int} (hl : (hideAll s.heap [91]).IsList l vs.toArray) (hI : IntsAre vs ns) (hlen : ns.length ≤ 63)
    (ret : ∀ h' tk' ps, Keeps (hideAll s.heap [91]) h' → h'.get? 91 = some (tabObj ps) → Q (.bool true) { s with heap := h', toks := tk' }) :
    wpAny (model PySem.Challenge.rw_ij0039_01.row.prog w) (AtD 400 4000) (call (.ref 148) [.ref l]) Q E s := by
  revert X; k_fill; intro X
  refine' call_c (binds := [(Str.ofString "script", .ref l)]) [(91, tabObj #[])] ?hg ?hm ?hX ?hT ?ho ?hcd ?hroom ?hbind ?hB ?hSc ?hloc ?_ ?c1 ?c2 ?c3 ?c4
  (case hg => exact rfl)
  (case hm => intro q hq; rw [List.mem_singleton] at hq; subst hq; exact h91)
  (case hX => exact X)
  (case hT => exact T)
  (case ho => k_is)
  (case hcd => k_is)
  (case hroom => decide)
  (case hbind => first | exact BindsTo.of_eq rfl | exact binds_K X rfl (by k_is) rfl rfl rfl)
  (case hB => conv => lhs; whnf)
  (case hSc => conv => lhs; whnf)
  (case hloc => exact locs rfl)
  (case c1 => exact rfl)
  (case c2 => exact rfl)
  (case c3 => exact rfl)
  (case c4 => decide)
  intro L' h₁ tk htk₀ F N X' T'
  have hg : hideAll s.heap (List.map (fun x : Addr × Obj => x.fst) [(91, tabObj #[])]) = hideAll s.heap [91] := rfl
  rw [hg] at F N X' T'
  have hg91 : (hideAll s.heap [91]).get? 91 = none := hideAll_none _ (.head _)
  generalize hideAll s.heap [91] = g at *
  have hL : L' ≠ 91 := (N _ (.head _)).2.1.symm
  clear X' T' hg
  have low : 1 < g.objs.size := Nat.lt_trans (by decide) (Heap.lt_size (X 57 _ (by k_is)))
  k_steps
  unfold Stop
  (with_reducible rename Fr _ _ _ _ => F')
  (with_reducible rename News _ _ _ _ => N')
  refine wp_weaken (items_c1 (X.keeps F'.keep) (T.keeps F'.keep) (F'.lst hl) hI hlen fun D ws R n h' tk' hIt hR hD hDf k htk' => ?_) rfl (Nat.le_of_ble_eq_true rfl) (Nat.le_of_ble_eq_true rfl)
  dsimp only at hDf hR k htk' ⊢
  have F1 := fr_keeps F' k
  have N1 := news_adds F' N' k ((D, W.listOf ws.toArray n) :: R) (by
    intro q hq
    rcases List.mem_cons.mp hq with rfl | hq
    · exact ⟨hD, hDf⟩
    · exact hR q hq)
  have hb91 : ∀ p ∈ (D, W.listOf ws.toArray n) :: R, p.1 ≠ 91 := by
    have h := (N' _ (.head _)).1
    intro q hq e
    rcases List.mem_cons.mp hq with rfl | hq
    · rw [← e, hDf] at h; cases h
    · have := (hR q hq).2; rw [e, h] at this; cases this
  obtain ⟨nwI, hnw⟩ : ∃ nwI, nwI = (D, W.listOf ws.toArray n) :: R := ⟨_, rfl⟩
  rw [← hnw] at N1 hb91
  have hbD : (D, W.listOf ws.toArray n) ∈ nwI := by rw [hnw]; exact .head _
  have hbR : ∀ p ∈ R, p ∈ nwI := fun p hp => by rw [hnw]; exact .tail _ hp
  clear F' N' hR hD hDf k hnw
  have hok := items_ok ns
  have hstar := items_star ns
  have hl13 := items_len ns
  have hsg := items_sg ns
  have hpn := pat_ne ns
  generalize itemsOf ns = its at hIt hok hstar hl13 hsg hpn
  have hplt := pat_lt its hok
  have hplen := patOf_len its (fun it h => Nat.le_trans (hsg it h) (by decide))
  k_steps
  unfold Stop
  (with_reducible rename Fr _ _ _ _ => F')
  (with_reducible rename News _ _ _ _ => N')
  refine wp_weaken (pat_c (X.keeps F'.keep) (T.keeps F'.keep) (by first | assumption | (dsimp only; omega)) (PySem.IsL.isList (n := n) (N' _ (List.mem_append_left _ hbD)).1) (ItsAt.of hIt fun q hq => (N' q (List.mem_append_left _ (hbR q hq))).1) (by omega) (fun it h => Nat.le_trans (hsg it h) (by decide)) fun t2 h2 tk2 k2 htk2 => ?_) rfl (Nat.le_of_ble_eq_true rfl) (Nat.le_of_ble_eq_true rfl)
  dsimp only at k2 ⊢
  have F2 := fr_keeps F' k2
  have N2 := news_keeps N' k2
  clear F' N' k2
  generalize hpt : patOf its = pt at *
  have hMk : MarkB := trivial
  have hpt2 : pt.length ≤ 300 := by omega
  have hptS : (S pt).length ≤ 300 := by rw [sLen]; omega
  k_steps
  unfold Stop
  (with_reducible rename Fr _ _ _ _ => F3)
  (with_reducible rename News _ _ _ _ => N3)
  refine val_mono (fun v => v = .bool (bothOf pt)) (by first | assumption | (dsimp only; omega)) ?both ?rest1
  (case both =>
    (with_reducible rename MarkB => hZ)
    clear hZ
    have i34 : (Builtin.Str.occurrences (S pt) (Str.ofString "\"") 0 (S pt).length 1).isEmpty = !decide (34 ∈ pt) := by rw [show Str.ofString "\"" = S [34] by decide +kernel]; exact empty_S pt 34
    have i39 : (Builtin.Str.occurrences (S pt) (Str.ofString "'") 0 (S pt).length 1).isEmpty = !decide (39 ∈ pt) := by rw [show Str.ofString "'" = S [39] by decide +kernel]; exact empty_S pt 39
    by_cases h1 : 34 ∈ pt <;> by_cases h2 : 39 ∈ pt
    all_goals (have hbo : bothOf pt = (decide (34 ∈ pt) && decide (39 ∈ pt)) := rfl); simp only [h1, h2, decide_true, decide_false, Bool.not_true, Bool.not_false, Bool.and_true, Bool.and_false, Bool.true_and, Bool.false_and] at i34 i39 hbo
    all_goals k_steps
    all_goals refine ⟨?_, _, rfl⟩
    all_goals first | (rw [hbo, i39]; rfl) | (rw [hbo, i34]; rfl) | (rw [hbo]))
  rintro _ tk4 htk4 rfl
  k_steps
  unfold Stop
  (with_reducible rename Fr _ _ _ _ => F3)
  (with_reducible rename News _ _ _ _ => N3)
  refine val_mono (fun v => ∃ t, v = .str (S [markOf pt]) t) (by first | assumption | (dsimp only; omega)) ?mark ?rest2
  (case mark =>
    (with_reducible rename MarkB => hZ)
    clear hZ
    have i34 : (Builtin.Str.occurrences (S pt) (Str.ofString "\"") 0 (S pt).length 1).isEmpty = !decide (34 ∈ pt) := by rw [show Str.ofString "\"" = S [34] by decide +kernel]; exact empty_S pt 34
    have hmo : markOf pt = if (decide (34 ∈ pt) && !bothOf pt) = true then 39 else 34 := rfl
    have e34 : Str.ofString "\"" = S [34] := by decide +kernel
    have e39 : Str.ofString "'" = S [39] := by decide +kernel
    by_cases h1 : 34 ∈ pt <;> cases hbo : bothOf pt
    all_goals simp only [h1, hbo, decide_true, decide_false, Bool.not_true, Bool.not_false, Bool.and_true, Bool.and_false, Bool.true_and, Bool.false_and, Bool.false_eq_true, if_true, if_false] at i34 hmo
    all_goals k_steps
    all_goals first | exact ⟨⟨_, congrArg (fun z => Value.str z _) (e34.trans (congrArg (fun c => S [c]) hmo.symm))⟩, _, rfl⟩ | exact ⟨⟨_, congrArg (fun z => Value.str z _) (e39.trans (congrArg (fun c => S [c]) hmo.symm))⟩, _, rfl⟩)
  rintro _ tk5 htk5 ⟨t5, rfl⟩
  (with_reducible rename MarkB => hZ)
  clear hZ
  have hmk := mark_or pt
  have hqa := qaS_eq pt hplt
  generalize markOf pt = m at *
  generalize bothOf pt = b at *
  rw [show ([m] ++ pt.flatMap (qn b) ++ [m]) = (toksOf (qm (kOf b)) m its).flatMap showT by rw [tok_show, qm_k, hpt]] at hqa
  have hyl : (S (pt.flatMap (qn false))).length ≤ 1800 := by rw [sLen]; have := flat_len (qn false) pt 6 fun c _ => qn_len false c; omega
  k_steps
  unfold Stop
  (with_reducible rename Fr _ _ _ _ => F3)
  (with_reducible rename News _ _ _ _ => N3)
  refine wp_weaken (qa_c (X.keeps F3.keep) (T.keeps F3.keep) (by first | assumption | (dsimp only; omega)) (esc_fit pt hplt (by omega) hpn) (esc_eq pt hplt) (Nat.le_trans hyl (by decide)) (fitR_of (Nat.le_trans hyl (by decide)) (by decide +kernel)) (Nat.le_trans (quot_len pt hplt) (by omega)) fun t6 h6 tk6 k6 htk6 => ?_) rfl (Nat.le_of_ble_eq_true rfl) (Nat.le_of_ble_eq_true rfl)
  dsimp only at k6 ⊢
  rw [hqa]
  have F6 := fr_keeps F3 k6
  have N6 := news_keeps N3 k6
  clear F3 N3 k6
  k_steps
  unfold Stop
  (with_reducible rename Fr _ _ _ _ => F7)
  (with_reducible rename News _ _ _ _ => N7)
  have hpl3 : (patOf its).length ≤ 300 := by rw [hpt]; exact hpt2
  have htj : joinP (trP (toksOf (qm (kOf b)) m its)) = toldOf (qn b) [m] its := by rw [told_join (kOf b) hmk its hok hstar, qm_k]
  have htl1 := told_len (kOf b) hmk its hok hstar hpl3
  have htl2 := told_len 2 hmk its hok hstar hpl3
  have htj2 : joinP (trP (toksOf (qm 2) m its)) = toldOf q1 [m] its := by rw [told_join 2 hmk its hok hstar, qm_2]
  rw [qm_k] at htl1
  rw [qm_2] at htl2
  have hgood : ∀ it ∈ its, it.1 = .is ∨ it.1 = .ins ∨ it.1 = .out → it.2 ≠ [] := fun it hi h => by
    rcases h with h | h
    · obtain ⟨c, e⟩ := (hok it hi).one h; rw [e]; exact List.cons_ne_nil _ _
    · exact (hok it hi).ne h
  have hun : lrep ks12 (toldOf (qn b) [m] its) = toldOf q1 [m] its := une_told b (by rcases hmk with rfl | rfl <;> decide) its fun it hi => (hok it hi).mem
  refine wp_weaken (tl_c (X.keeps (keeps_hide' F7 hg91)) (T.keeps (keeps_hide' F7 hg91)) (by first | assumption | (dsimp only; omega)) (N7 _ (List.mem_append_right _ (.head _))).1 (CS := []) (fun _ h => (nomatch h)) tab_start (toks_ok (kOf b) hmk its hok) (toks_len _ _ _ hpl3) fun t8 h8 tk8 R8 k8 tab8 hR8 => ?_) rfl (Nat.le_of_ble_eq_true rfl) (Nat.le_of_ble_eq_true rfl)
  dsimp only at k8 hR8 ⊢
  rw [htj]
  have F8 := fr_hide F7 (keeps_hide' F7 hg91) hL k8
  have N8 := news_after F7 N7 hg91 hL k8 hR8 (nwI := nwI) fun p hp => ⟨List.mem_append_left _ hp, hb91 p hp⟩
  obtain ⟨ps8, R9, rfl⟩ := tabIn_91 tab8
  obtain ⟨hR9, tab9⟩ := tab_again tab8
  clear F7 N7 k8 hR8 tab8
  have hne1 : (S (toldOf (qn b) [m] its) != S (toldOf (qn b) [m] its)) = false := by simp
  have hne2 : (S (toldOf q1 [m] its) != S (toldOf q1 [m] its)) = false := by simp
  k_steps
  unfold Stop
  (with_reducible rename Fr _ _ _ _ => F9)
  (with_reducible rename News _ _ _ _ => N9)
  refine wp_weaken (names_c (X.keeps F9.keep) (T.keeps F9.keep) (by first | assumption | (dsimp only; omega)) fun Dn es ep h10 tk10 he hDn hDn0 hDnz k10 htk10 => ?_) rfl (Nat.le_of_ble_eq_true rfl) (Nat.le_of_ble_eq_true rfl)
  dsimp only at hDn0 hDnz k10 ⊢
  have F10 := fr_keeps F9 k10
  have N10 := news_add F9 N9 k10 hDn hDn0
  have hSn := sysne F9 low hDnz
  clear F9 N9 k10 hDn hDn0 hDnz
  k_steps
  unfold Stop
  (with_reducible rename Fr _ _ _ _ => F11)
  (with_reducible rename News _ _ _ _ => N11)
  refine wp_weaken (told_c (mark := [m]) (X.keeps F11.keep) (T.keeps F11.keep) (by first | assumption | (dsimp only; omega)) (PySem.IsL.isList (n := n) (N11 _ (.tail _ (List.mem_append_right _ hbD))).1) (ItsAt.of hIt fun q hq => (N11 q (.tail _ (List.mem_append_right _ (hbR q hq)))).1) (by omega) (fun it h => Nat.le_trans (hsg it h) (by decide)) (Nat.le_refl 1) (ents_tab he (N11 _ (.head _)).1 (by cases b <;> decide +kernel) hSn) (fun it hi c hc => nm_names b c ((hok it hi).mem c hc)) hgood fun t12 h12 tk12 k12 htk12 => ?_) rfl (Nat.le_of_ble_eq_true rfl) (Nat.le_of_ble_eq_true rfl)
  dsimp only at k12 ⊢
  have F12 := fr_keeps F11 k12
  have N12 := news_keeps N11 k12
  clear F11 N11 k12 he hSn
  k_steps
  unfold Stop
  (with_reducible rename Fr _ _ _ _ => F13)
  (with_reducible rename News _ _ _ _ => N13)
  have hbt : m :: (pt ++ [m]) = (toksOf (qm 2) m its).flatMap showT := by rw [tok_show, hpt, qm_2, flat_q1]; rfl
  rw [hbt]
  refine wp_weaken (tl_c (X.keeps (keeps_hide' F13 hg91)) (T.keeps (keeps_hide' F13 hg91)) (by first | assumption | (dsimp only; omega)) (N13 _ (.tail _ (.head _))).1 (CS := R9) (fun p hp => hideAll_get _ (N13 _ (.tail _ (.tail _ (List.mem_append_left _ hp)))).1 (by rw [List.mem_singleton]; exact hR9 p hp)) tab9 (toks_ok 2 hmk its hok) (toks_len _ _ _ hpl3) fun t14 h14 tk14 R14 k14 tab14 hR14 => ?_) rfl (Nat.le_of_ble_eq_true rfl) (Nat.le_of_ble_eq_true rfl)
  dsimp only at k14 hR14 ⊢
  rw [htj2]
  have F14 := fr_hide F13 (keeps_hide' F13 hg91) hL k14
  have N14 := news_after F13 N13 hg91 hL k14 hR14 (nwI := nwI) fun p hp => ⟨.tail _ (.tail _ (List.mem_append_right _ hp)), hb91 p hp⟩
  obtain ⟨ps14, R15, rfl⟩ := tabIn_91 tab14
  clear F13 N13 k14 hR14 tab14
  k_steps
  unfold Stop
  (with_reducible rename Fr _ _ _ _ => F15)
  (with_reducible rename News _ _ _ _ => N15)
  (with_reducible rename Obj.IsDictOf (PySem.strKind _ _) _ _ => hdo)
  (with_reducible rename (_ == sysModules) = false => hds)
  refine wp_weaken (told_c (mark := [m]) (kvs := []) (nm := q1) (X.keeps F15.keep) (T.keeps F15.keep) (by first | assumption | (dsimp only; omega)) (PySem.IsL.isList (n := n) (N15 _ (.tail _ (List.mem_append_right _ hbD))).1) (ItsAt.of hIt fun q hq => (N15 q (.tail _ (List.mem_append_right _ (hbR q hq)))).1) (by omega) (fun it h => Nat.le_trans (hsg it h) (by decide)) (Nat.le_refl 1) ⟨hds, [], Heap.dictOf_iff.mpr ⟨_, (N15 _ (.head _)).1, hdo⟩, .nil⟩ (fun it hi c hc => nm_none c) hgood fun t16 h16 tk16 k16 htk16 => ?_) rfl (Nat.le_of_ble_eq_true rfl) (Nat.le_of_ble_eq_true rfl)
  dsimp only at k16 ⊢
  have F16 := fr_keeps F15 k16
  have N16 := news_tail (news_keeps N15 k16)
  clear F15 N15 k16 hdo hds
  k_steps
  unfold Stop
  (with_reducible rename Fr _ _ _ _ => F17)
  (with_reducible rename News _ _ _ _ => N17)
  refine wp_weaken (back_c (X.keeps F17.keep) (T.keeps F17.keep) (by first | assumption | (dsimp only; omega)) fun Db es ep h18 tk18 he hDb hDb0 hDbz k18 htk18 => ?_) rfl (Nat.le_of_ble_eq_true rfl) (Nat.le_of_ble_eq_true rfl)
  dsimp only at hDb0 hDbz k18 ⊢
  have F18 := fr_keeps F17 k18
  have N18 := news_add F17 N17 k18 hDb hDb0
  have hSb := sysne F17 low hDbz
  clear F17 N17 k18 hDb hDb0 hDbz
  k_steps
  unfold Stop
  (with_reducible rename Fr _ _ _ _ => F19)
  (with_reducible rename News _ _ _ _ => N19)
  have hfit : dFit (une2 ++ (back3 ++ ins3 ++ oth3) ++ une1) (S (toldOf (qn b) [m] its)) := by
    rw [ks12_kvs]
    exact dFit_lrep ks12 (by decide) _ htl1
  have hres : dRep (une2 ++ (back3 ++ ins3 ++ oth3) ++ une1) (S (toldOf (qn b) [m] its)) = S (toldOf q1 [m] its) := by
    rw [ks12_kvs, dRep_lrep ks12 (by decide), hun]
  refine wp_weaken (une_c (X.keeps F19.keep) (T.keeps F19.keep) (by first | assumption | (dsimp only; omega)) (N19 _ (.head _)).1 he (by decide +kernel) (by decide +kernel) rfl (by decide) hfit hSb fun t20 h20 tk20 k20 htk20 => ?_) rfl (Nat.le_of_ble_eq_true rfl) (Nat.le_of_ble_eq_true rfl)
  dsimp only at k20 ⊢
  rw [hres]
  have F20 := fr_keeps F19 k20
  have N20 := news_keeps N19 k20
  clear F19 N19 k20
  k_steps
  (with_reducible rename Fr _ _ _ _ => F21)
  (with_reducible rename News _ _ _ _ => N21)
  rw [show (S (toldOf q1 [m] its) == S (toldOf q1 [m] its)) = true from beq_self_eq_true _]
  exact ret _ _ ps14 (fun b o e => F21.keep b o e) (N21 _ (.tail _ (.head _))).1
end Mine
end

open PySem PySem.W PyProof.Rows
theorem Mine.wsK : OpenLaw.wellSaid PySem.Challenge.rw_ij0039_01 = true := by
  rw [PySem.W.Fast.te9446332074065402090]
  kernel_rfl
theorem PySem.Challenge.cw_ij0039_01_holds : PySem.Challenge.rw_ij0039_01.Holds := by
  w_on
  refine holds_law Mine.wsK fun said => ?_
  refine holds_open (q := Mine.viewK) (loose := Mine.looseK) (Xt := Mine.xtK) (XP := XL Mine.viewK []) (Yf := Hook.obs Mine.HH) (Ya := Hook.val Mine.HH) (YP := Hook.says Mine.HH) (N := 3880)
    Mine.topAll (Hook.of Mine.HH) (Hook.keeps Mine.HH) (fun s e => xl_of s (Bool.and_eq_true_iff.mp e).1) XL.keeps (by rfl) (by rfl) (by rfl) (fun s e => recFacts_of (Bool.and_eq_true_iff.mp e).2) (by rfl) (by first | assumption | decide +kernel) (by decide +kernel) ⟨rfl, rfl, rfl, rfl, rfl, by decide +kernel⟩ ?hw ?hc
  (case hw => w_witness2)
  k_fill
  intro w s₀ s₁ mg mb G Y fa o pm cd doc dV kV ho hd hcd hD hmg hg args vals as hpre hlay hrd hwl hlo
  have KX := km_in_of Y
  km_tabs Y
  refine Ground.open G ?_
  intro T B D TE TW
  clear hD hd
  wrow_args hpre hlay hrd hwl hlo
  rename_i ns _ _ _ _ _ _ _ l vs _ hl _ _ _ hI _ hc _
  have hT9 : TabsAt [(95, 91)] s₁.heap := List.forall_mem_cons.mpr ⟨⟨codeHd_of_K (c := 95) (P := 91) KX (by kernel_rfl), hT8 91 (.head _)⟩, fun _ h => nomatch h⟩
  have X' := ghost_K hT9 KX (by kernel_rfl)
  have T' := ghost_top hT9 T
  have hl' := ghost_list hT9 hl
  have e148 := mg_of KX T.g (n := Str.ofString "law") (v := .ref 148) (by kernel_rfl)
  have hmg' : mg (Str.ofString "law") = some (.ref fa) := hmg
  rw [e148] at hmg'
  cases hmg'
  show wpAny _ callerA (call (.ref 148) [.ref l]) _ _ s₁
  refine Mine.wp_weaken (Mine.law_c X' T' (hT8 91 (.head _)) hl' hI (by omega) fun h' tk' ps k h91 => ?_) rfl (Nat.le_of_ble_eq_true rfl) (Nat.le_of_ble_eq_true rfl)
  have hold : OldK s₁.heap h' := by
    have h0 := hT8 91 (.head _)
    refine ⟨fun b o e => ?_, fun b o e => ?_⟩
    · by_cases hb : b = 91
      · subst hb
        rw [h0] at e; cases e
        exact .inr (.inl ⟨((hT9 _ (.head _)).1.tab h0).isCodeTable, rfl, #[], ps, rfl, by rw [h91]; simp⟩)
      · exact .inl (k _ _ (hideAll_get _ e (by simpa using hb)))
    · by_cases hb : b = 91
      · exact ⟨_, hb ▸ h91⟩
      · exact ⟨o, k _ _ (hideAll_get _ e (by simpa using hb))⟩
  refine ⟨.inl ⟨.bool true, .bool true, [], rfl, fun _ => rfl, .bool true, ?post, unshared_nil⟩, hold, rfl, .of_eq hg⟩
  (case post => first | (with_unfolding_all rfl) | kernel_rfl | (simp only [RowW.claim]; trace_state; rfl))
