import PyProof.Rows.All
import Wide.All
import OpenK.AllK
import Wide.FinOn
import PyProof.FactsAll.str_8
import PyProof.IsiH_list
import PyProof.ObjNew
import PyProof.StrLawsIn
import PyProof.StrLawsChain
import PyProof.Rows.CatFin
import PyProof.Rows.StrClose
import Lean
import PySem.Challenge.RW_ij0163_01
section
open PySem PySem.W PyProof.Rows
set_option Elab.async false
namespace Mine
@[reducible] noncomputable def thePw : Program := PySem.Challenge.pw_ij0163_01
noncomputable def argsOf : Stmt → Arguments | .FunctionDef _ a _ _ _ _ _ _ _ _ => a | _ => { posonlyargs := [], args := [], vararg := none, kwonlyargs := [], kw_defaults := [], kwarg := none, defaults := [] }
noncomputable def bodyOf : Stmt → List Stmt | .FunctionDef _ _ b _ _ _ _ _ _ _ => b | _ => []
noncomputable def scopeOf : Stmt → Scope | .FunctionDef _ _ _ _ _ _ s _ _ _ => s | _ => { kind := .function, names := [], isGenerator := false, isCoroutine := false }
noncomputable def posOf : Stmt → Pos | .FunctionDef _ _ _ _ _ _ _ _ _ p => p | _ => { line := 0, col := 0, endLine := 0, endCol := 0 }
noncomputable def cellAt (i : Nat) : Stmt := thePw.main.body.getD i (.Pass { line := 0, col := 0, endLine := 0, endCol := 0 })
set_option maxRecDepth 100000
@[reducible] noncomputable def ce0 : {s : Stmt // cellAt 0 = s} := ⟨_, by conv => lhs; whnf⟩
@[reducible] noncomputable def ce2 : {s : Stmt // cellAt 2 = s} := ⟨_, by conv => lhs; whnf⟩
@[reducible] noncomputable def ce3 : {s : Stmt // cellAt 3 = s} := ⟨_, by conv => lhs; whnf⟩
@[reducible] noncomputable def ce4 : {s : Stmt // cellAt 4 = s} := ⟨_, by conv => lhs; whnf⟩
@[reducible] noncomputable def ce5 : {s : Stmt // cellAt 5 = s} := ⟨_, by conv => lhs; whnf⟩
@[reducible] noncomputable def ce7 : {s : Stmt // cellAt 7 = s} := ⟨_, by conv => lhs; whnf⟩
@[reducible] noncomputable def ce8 : {s : Stmt // cellAt 8 = s} := ⟨_, by conv => lhs; whnf⟩
@[reducible] noncomputable def ce10 : {s : Stmt // cellAt 10 = s} := ⟨_, by conv => lhs; whnf⟩
@[reducible] noncomputable def ce11 : {s : Stmt // cellAt 11 = s} := ⟨_, by conv => lhs; whnf⟩
@[reducible] noncomputable def ce13 : {s : Stmt // cellAt 13 = s} := ⟨_, by conv => lhs; whnf⟩
@[reducible] noncomputable def ce14 : {s : Stmt // cellAt 14 = s} := ⟨_, by conv => lhs; whnf⟩
@[reducible] noncomputable def ce16 : {s : Stmt // cellAt 16 = s} := ⟨_, by conv => lhs; whnf⟩
@[reducible] noncomputable def ce17 : {s : Stmt // cellAt 17 = s} := ⟨_, by conv => lhs; whnf⟩
@[reducible] noncomputable def ce18 : {s : Stmt // cellAt 18 = s} := ⟨_, by conv => lhs; whnf⟩
@[reducible] noncomputable def ce19 : {s : Stmt // cellAt 19 = s} := ⟨_, by conv => lhs; whnf⟩
@[reducible] noncomputable def ar5 : {s : Arguments // argsOf (cellAt 5) = s} := ⟨_, by conv => lhs; whnf⟩
@[reducible] noncomputable def bo5 : {s : List Stmt // bodyOf (cellAt 5) = s} := ⟨_, by conv => lhs; whnf⟩
@[reducible] noncomputable def sc5 : {s : Scope // scopeOf (cellAt 5) = s} := ⟨_, by conv => lhs; whnf⟩
@[reducible] noncomputable def ar8 : {s : Arguments // argsOf (cellAt 8) = s} := ⟨_, by conv => lhs; whnf⟩
@[reducible] noncomputable def bo8 : {s : List Stmt // bodyOf (cellAt 8) = s} := ⟨_, by conv => lhs; whnf⟩
@[reducible] noncomputable def sc8 : {s : Scope // scopeOf (cellAt 8) = s} := ⟨_, by conv => lhs; whnf⟩
@[reducible] noncomputable def ar11 : {s : Arguments // argsOf (cellAt 11) = s} := ⟨_, by conv => lhs; whnf⟩
@[reducible] noncomputable def bo11 : {s : List Stmt // bodyOf (cellAt 11) = s} := ⟨_, by conv => lhs; whnf⟩
@[reducible] noncomputable def sc11 : {s : Scope // scopeOf (cellAt 11) = s} := ⟨_, by conv => lhs; whnf⟩
@[reducible] noncomputable def ar13 : {s : Arguments // argsOf (cellAt 13) = s} := ⟨_, by conv => lhs; whnf⟩
@[reducible] noncomputable def bo13 : {s : List Stmt // bodyOf (cellAt 13) = s} := ⟨_, by conv => lhs; whnf⟩
@[reducible] noncomputable def sc13 : {s : Scope // scopeOf (cellAt 13) = s} := ⟨_, by conv => lhs; whnf⟩
@[reducible] noncomputable def ar14 : {s : Arguments // argsOf (cellAt 14) = s} := ⟨_, by conv => lhs; whnf⟩
@[reducible] noncomputable def bo14 : {s : List Stmt // bodyOf (cellAt 14) = s} := ⟨_, by conv => lhs; whnf⟩
@[reducible] noncomputable def sc14 : {s : Scope // scopeOf (cellAt 14) = s} := ⟨_, by conv => lhs; whnf⟩
@[reducible] noncomputable def ar16 : {s : Arguments // argsOf (cellAt 16) = s} := ⟨_, by conv => lhs; whnf⟩
@[reducible] noncomputable def bo16 : {s : List Stmt // bodyOf (cellAt 16) = s} := ⟨_, by conv => lhs; whnf⟩
@[reducible] noncomputable def sc16 : {s : Scope // scopeOf (cellAt 16) = s} := ⟨_, by conv => lhs; whnf⟩
@[reducible] noncomputable def ar17 : {s : Arguments // argsOf (cellAt 17) = s} := ⟨_, by conv => lhs; whnf⟩
@[reducible] noncomputable def bo17 : {s : List Stmt // bodyOf (cellAt 17) = s} := ⟨_, by conv => lhs; whnf⟩
@[reducible] noncomputable def sc17 : {s : Scope // scopeOf (cellAt 17) = s} := ⟨_, by conv => lhs; whnf⟩
@[reducible] noncomputable def ar18 : {s : Arguments // argsOf (cellAt 18) = s} := ⟨_, by conv => lhs; whnf⟩
@[reducible] noncomputable def bo18 : {s : List Stmt // bodyOf (cellAt 18) = s} := ⟨_, by conv => lhs; whnf⟩
@[reducible] noncomputable def sc18 : {s : Scope // scopeOf (cellAt 18) = s} := ⟨_, by conv => lhs; whnf⟩
@[reducible] noncomputable def ar19 : {s : Arguments // argsOf (cellAt 19) = s} := ⟨_, by conv => lhs; whnf⟩
@[reducible] noncomputable def bo19 : {s : List Stmt // bodyOf (cellAt 19) = s} := ⟨_, by conv => lhs; whnf⟩
@[reducible] noncomputable def sc19 : {s : Scope // scopeOf (cellAt 19) = s} := ⟨_, by conv => lhs; whnf⟩
@[reducible] noncomputable def po19 : {s : Pos // posOf (cellAt 19) = s} := ⟨_, by conv => lhs; whnf⟩
noncomputable def VW : Program := { thePw with main := { thePw.main with body := [ce0.1, ce2.1, ce3.1, ce4.1, ce5.1, ce7.1, ce8.1, ce10.1, ce11.1, ce13.1, ce14.1, ce16.1, ce17.1, ce18.1, ce19.1] } }
noncomputable def KF : Params → Frag := fun P => (nat_lit 2, { cls := Value.none, data := Data.dict #[{ hash := PyData.keyHash P (Str.ofString "\x69mport.loaded._sre"), key := Value.str (Str.ofString "\x69mport.loaded._sre") 183, val := Value.bool true }, { hash := PyData.keyHash P (Str.ofString "class._frozen_importlib.BuiltinImporter"), key := Value.str (Str.ofString "class._frozen_importlib.BuiltinImporter") 185, val := Value.ref 14 }, { hash := PyData.keyHash P (Str.ofString "watched.\x69mport"), key := Value.str (Str.ofString "watched.\x69mport") 206, val := Value.ref 18 }, { hash := PyData.keyHash P (Str.ofString "class._frozen_importlib.ModuleSpec"), key := Value.str (Str.ofString "class._frozen_importlib.ModuleSpec") 216, val := Value.ref 22 }, { hash := PyData.keyHash P (Str.ofString "sys.modules.booked-epoch"), key := Value.str (Str.ofString "sys.modules.booked-epoch") 245, val := Value.int 3 0 }, { hash := PyData.keyHash P (Str.ofString "\x69mport.later-laid._sre"), key := Value.str (Str.ofString "\x69mport.later-laid._sre") 270, val := Value.bool true }, { hash := PyData.keyHash P (Str.ofString "watched.library"), key := Value.str (Str.ofString "watched.library") 272, val := Value.ref 27 }, { hash := PyData.keyHash P (Str.ofString "watched.library-objects"), key := Value.str (Str.ofString "watched.library-objects") 0, val := Value.str (Str.ofString "\x0c") 0 }, { hash := PyData.keyHash P (Str.ofString "watched.library-deep._sre"), key := Value.str (Str.ofString "watched.library-deep._sre") 273, val := Value.str (Str.ofString "\x04\x00\x00\x0b\x04\x00\x00\x0b\x04\x00\x00\x03\x04\x00\x00\x0b\x08\x04dict\x02") 0 }] 9 }) :: (nat_lit 3, { cls := Value.type "dict", data := Data.dict #[{ hash := PyData.keyHash P (Str.ofString "__name__"), key := Value.str (Str.ofString "__name__") 165, val := Value.str (Str.ofString "law_ij0163_01") 589 }, { hash := PyData.keyHash P (Str.ofString "__doc__"), key := Value.str (Str.ofString "__doc__") 166, val := Value.none }, { hash := PyData.keyHash P (Str.ofString "__package__"), key := Value.str (Str.ofString "__package__") 167, val := Value.none }, { hash := PyData.keyHash P (Str.ofString "__loader__"), key := Value.str (Str.ofString "__loader__") 168, val := Value.builtin "__main__.__loader__#opaque" }, { hash := PyData.keyHash P (Str.ofString "__spec__"), key := Value.str (Str.ofString "__spec__") 169, val := Value.none }, { hash := PyData.keyHash P (Str.ofString "__annotations__"), key := Value.str (Str.ofString "__annotations__") 170, val := Value.ref 6 }, { hash := PyData.keyHash P (Str.ofString "__builtins__"), key := Value.str (Str.ofString "__builtins__") 171, val := Value.ref 4 }, { hash := PyData.keyHash P (Str.ofString "__file__"), key := Value.str (Str.ofString "__file__") 173, val := Value.str (Str.ofString "/claim/cut.py") 172 }, { hash := PyData.keyHash P (Str.ofString "__cached__"), key := Value.str (Str.ofString "__cached__") 174, val := Value.none }, { hash := PyData.keyHash P (Str.ofString "_sre"), key := Value.str (Str.ofString "_sre") 275, val := Value.ref 12 }, { hash := PyData.keyHash P (Str.ofString "twin_re_1_smtplib"), key := Value.str (Str.ofString "twin_re_1_smtplib") 299, val := Value.ref 36 }, { hash := PyData.keyHash P (Str.ofString "_twin_re_2"), key := Value.str (Str.ofString "_twin_re_2") 341, val := Value.ref 41 }, { hash := PyData.keyHash P (Str.ofString "CRLF"), key := Value.str (Str.ofString "CRLF") 343, val := Value.str (Str.ofString "\x0d\n") 342 }, { hash := PyData.keyHash P (Str.ofString "quotedata"), key := Value.str (Str.ofString "quotedata") 350, val := Value.ref 48 }, { hash := PyData.keyHash P (Str.ofString "twin_re_1_fnmatch"), key := Value.str (Str.ofString "twin_re_1_fnmatch") 390, val := Value.ref 53 }, { hash := PyData.keyHash P (Str.ofString "translate"), key := Value.str (Str.ofString "translate") 399, val := Value.ref 60 }, { hash := PyData.keyHash P (Str.ofString "_special_chars_map"), key := Value.str (Str.ofString "_special_chars_map") 547, val := Value.ref 62 }, { hash := PyData.keyHash P (Str.ofString "escape"), key := Value.str (Str.ofString "escape") 554, val := Value.ref 72 }, { hash := PyData.keyHash P (Str.ofString "_translate"), key := Value.str (Str.ofString "_translate") 575, val := Value.ref 79 }, { hash := PyData.keyHash P (Str.ofString "_join_translated_parts"), key := Value.str (Str.ofString "_join_translated_parts") 588, val := Value.ref 86 }, { hash := PyData.keyHash P (Str.ofString "_law_piece"), key := Value.str (Str.ofString "_law_piece") 600, val := Value.ref 93 }, { hash := PyData.keyHash P (Str.ofString "_law_plan"), key := Value.str (Str.ofString "_law_plan") 615, val := Value.ref 100 }, { hash := PyData.keyHash P (Str.ofString "_law_text"), key := Value.str (Str.ofString "_law_text") 621, val := Value.ref 105 }, { hash := PyData.keyHash P (Str.ofString "law"), key := Value.str (Str.ofString "law") 627, val := Value.ref 110 }] 24 }) :: (nat_lit 6, { cls := Value.type "dict", data := Data.dict #[] }) :: (nat_lit 11, { cls := Value.type "dict", data := Data.dict #[{ hash := PyData.keyHash P (Str.ofString "__name__"), key := Value.str (Str.ofString "__name__") 247, val := Value.str (Str.ofString "_sre") 246 }, { hash := PyData.keyHash P (Str.ofString "__doc__"), key := Value.str (Str.ofString "__doc__") 248, val := Value.none }, { hash := PyData.keyHash P (Str.ofString "__package__"), key := Value.str (Str.ofString "__package__") 250, val := Value.str (Str.ofString "") 249 }, { hash := PyData.keyHash P (Str.ofString "__loader__"), key := Value.str (Str.ofString "__loader__") 251, val := Value.builtin "off-the-table:_sre.__loader__:shared#opaque" }, { hash := PyData.keyHash P (Str.ofString "__spec__"), key := Value.str (Str.ofString "__spec__") 252, val := Value.builtin "off-the-table:_sre.__spec__:shared#opaque" }, { hash := PyData.keyHash P (Str.ofString "compile"), key := Value.str (Str.ofString "compile") 253, val := Value.builtin "_sre.compile" }, { hash := PyData.keyHash P (Str.ofString "template"), key := Value.str (Str.ofString "template") 254, val := Value.builtin "off-the-table:_sre.template:shared#opaque" }, { hash := PyData.keyHash P (Str.ofString "getcodesize"), key := Value.str (Str.ofString "getcodesize") 255, val := Value.builtin "off-the-table:_sre.getcodesize:shared#opaque" }, { hash := PyData.keyHash P (Str.ofString "ascii_iscased"), key := Value.str (Str.ofString "ascii_iscased") 256, val := Value.builtin "off-the-table:_sre.ascii_iscased:shared#opaque" }, { hash := PyData.keyHash P (Str.ofString "unicode_iscased"), key := Value.str (Str.ofString "unicode_iscased") 257, val := Value.builtin "off-the-table:_sre.unicode_iscased:shared#opaque" }, { hash := PyData.keyHash P (Str.ofString "ascii_tolower"), key := Value.str (Str.ofString "ascii_tolower") 258, val := Value.builtin "off-the-table:_sre.ascii_tolower:shared#opaque" }, { hash := PyData.keyHash P (Str.ofString "unicode_tolower"), key := Value.str (Str.ofString "unicode_tolower") 259, val := Value.builtin "off-the-table:_sre.unicode_tolower:shared#opaque" }, { hash := PyData.keyHash P (Str.ofString "MAGIC"), key := Value.str (Str.ofString "MAGIC") 261, val := Value.int 20230612 260 }, { hash := PyData.keyHash P (Str.ofString "CODESIZE"), key := Value.str (Str.ofString "CODESIZE") 263, val := Value.int 4 262 }, { hash := PyData.keyHash P (Str.ofString "MAXREPEAT"), key := Value.str (Str.ofString "MAXREPEAT") 265, val := Value.int 4294967295 264 }, { hash := PyData.keyHash P (Str.ofString "MAXGROUPS"), key := Value.str (Str.ofString "MAXGROUPS") 267, val := Value.int 1073741823 266 }, { hash := PyData.keyHash P (Str.ofString "copyright"), key := Value.str (Str.ofString "copyright") 269, val := Value.str (Str.ofString " SRE 2.2.2 Copyright (c) 1997-2002 by Secret Labs AB ") 268 }] 17 }) :: (nat_lit 12, { cls := Value.type "module", dict := some 11 }) :: (nat_lit 35, { cls := Value.type "tuple", data := Data.seq #[Value.int 14 0, Value.int 4 0, Value.int 0 0, Value.int 1 0, Value.int 1 0, Value.int 6 0, Value.int 1 0, Value.int 16 0, Value.int 46 0, Value.int 1 0] }) :: (nat_lit 36, { cls := Value.type "re.Pattern", data := Data.fields #[Value.str (Str.ofString "(?m)^\\.") 285, Value.int 40 298, Value.int 0 0, Value.none, Value.none, Value.ref 35, Value.int 0 0] }) :: (nat_lit 40, { cls := Value.type "tuple", data := Data.seq #[Value.int 14 0, Value.int 9 0, Value.int 4 0, Value.int 1 0, Value.int 2 0, Value.int 16 0, Value.int 10 0, Value.int 16 0, Value.int 13 0, Value.int 0 0, Value.int 7 0, Value.int 7 0, Value.int 16 0, Value.int 13 0, Value.int 16 0, Value.int 10 0, Value.int 15 0, Value.int 18 0, Value.int 5 0, Value.int 16 0, Value.int 10 0, Value.int 15 0, Value.int 13 0, Value.int 11 0, Value.int 16 0, Value.int 13 0, Value.int 5 0, Value.int 5 0, Value.int 0 0, Value.int 16 0, Value.int 10 0, Value.int 1 0, Value.int 15 0, Value.int 2 0, Value.int 0 0, Value.int 1 0] }) :: (nat_lit 41, { cls := Value.type "re.Pattern", data := Data.fields #[Value.str (Str.ofString "(?:\\r\\n|\\n|\\r(?!\\n))") 301, Value.int 32 340, Value.int 0 0, Value.none, Value.none, Value.ref 40, Value.int 0 0] }) :: (nat_lit 42, { cls := Value.type "tuple", data := Data.seq #[] }) :: (nat_lit 44, { cls := Value.type "tuple", data := Data.seq #[Value.str (Str.ofString "data") 347] }) :: (nat_lit 45, { cls := Value.type "tuple", data := Data.seq #[] }) :: (nat_lit 47, { cls := Value.type "code", data := Data.fields #[Value.str (Str.ofString "quotedata") 344, Value.str (Str.ofString "quotedata") 345, Value.str (Str.ofString "/claim/cut.py") 346, Value.int 6 0, Value.int 1 0, Value.int 0 0, Value.int 0 0, Value.int 3 0, Value.ref 42, Value.bool true, Value.int 276 0, Value.ref 43, Value.none, Value.ref 44, Value.ref 45, Value.ref 46, Value.int 348 0, Value.int 6 0, Value.str (Str.ofString "/claim/cut.py") 349] }) :: (nat_lit 48, { cls := Value.type "function", data := Data.func { name := Str.ofString "quotedata", qualname := Str.ofString "quotedata", params := ar5.1, body := FuncBody.stmts (bo5.1), scope := sc5.1, globals := 3, closure := [], defaults := Value.none, kwdefaults := Value.none, pyModule := Value.str (Str.ofString "cpy313.smtplib") 282, code := Value.ref 47 } }) :: (nat_lit 52, { cls := Value.type "tuple", data := Data.seq #[Value.int 14 0, Value.int 14 0, Value.int 4 0, Value.int 1 0, Value.int 1 0, Value.int 9 0, Value.int 0 0, Value.int 64 0, Value.int 0 0, Value.int 1342177280 0, Value.int 0 0, Value.int 0 0, Value.int 0 0, Value.int 0 0, Value.int 0 0, Value.int 17 0, Value.int 0 0, Value.int 13 0, Value.int 11 0, Value.int 9 0, Value.int 0 0, Value.int 64 0, Value.int 0 0, Value.int 1342177280 0, Value.int 0 0, Value.int 0 0, Value.int 0 0, Value.int 0 0, Value.int 0 0, Value.int 17 0, Value.int 1 0, Value.int 1 0] }) :: (nat_lit 53, { cls := Value.type "re.Pattern", data := Data.fields #[Value.str (Str.ofString "([&~|])") 354, Value.int 32 389, Value.int 1 0, Value.none, Value.none, Value.ref 52, Value.int 0 0] }) :: (nat_lit 54, { cls := Value.type "tuple", data := Data.seq #[] }) :: (nat_lit 56, { cls := Value.type "tuple", data := Data.seq #[Value.str (Str.ofString "pat") 394, Value.str (Str.ofString "STAR") 395, Value.str (Str.ofString "parts") 396] }) :: (nat_lit 57, { cls := Value.type "tuple", data := Data.seq #[] }) :: (nat_lit 59, { cls := Value.type "code", data := Data.fields #[Value.str (Str.ofString "translate") 391, Value.str (Str.ofString "translate") 392, Value.str (Str.ofString "/claim/cut.py") 393, Value.int 10 0, Value.int 1 0, Value.int 0 0, Value.int 0 0, Value.int 3 0, Value.ref 54, Value.bool true, Value.int 276 0, Value.ref 55, Value.none, Value.ref 56, Value.ref 57, Value.ref 58, Value.int 397 0, Value.int 10 0, Value.str (Str.ofString "/claim/cut.py") 398] }) :: (nat_lit 60, { cls := Value.type "function", data := Data.func { name := Str.ofString "translate", qualname := Str.ofString "translate", params := ar8.1, body := FuncBody.stmts (bo8.1), scope := sc8.1, globals := 3, closure := [], defaults := Value.none, kwdefaults := Value.none, pyModule := Value.str (Str.ofString "cpy313.fnmatch") 351, code := Value.ref 59 } }) :: (nat_lit 62, { cls := Value.type "dict", data := Data.dict #[{ hash := 40, key := Value.int 40 403, val := Value.str (Str.ofString "\\(") 407 }, { hash := 41, key := Value.int 41 409, val := Value.str (Str.ofString "\\)") 413 }, { hash := 91, key := Value.int 91 415, val := Value.str (Str.ofString "\\[") 419 }, { hash := 93, key := Value.int 93 421, val := Value.str (Str.ofString "\\]") 425 }, { hash := 123, key := Value.int 123 427, val := Value.str (Str.ofString "\\{") 431 }, { hash := 125, key := Value.int 125 433, val := Value.str (Str.ofString "\\}") 437 }, { hash := 63, key := Value.int 63 439, val := Value.str (Str.ofString "\\?") 443 }, { hash := 42, key := Value.int 42 445, val := Value.str (Str.ofString "\\*") 449 }, { hash := 43, key := Value.int 43 451, val := Value.str (Str.ofString "\\+") 455 }, { hash := 45, key := Value.int 45 457, val := Value.str (Str.ofString "\\-") 461 }, { hash := 124, key := Value.int 124 463, val := Value.str (Str.ofString "\\|") 467 }, { hash := 94, key := Value.int 94 469, val := Value.str (Str.ofString "\\^") 473 }, { hash := 36, key := Value.int 36 475, val := Value.str (Str.ofString "\\$") 479 }, { hash := 92, key := Value.int 92 481, val := Value.str (Str.ofString "\\\\") 485 }, { hash := 46, key := Value.int 46 487, val := Value.str (Str.ofString "\\.") 491 }, { hash := 38, key := Value.int 38 493, val := Value.str (Str.ofString "\\&") 497 }, { hash := 126, key := Value.int 126 499, val := Value.str (Str.ofString "\\~") 503 }, { hash := 35, key := Value.int 35 505, val := Value.str (Str.ofString "\\#") 509 }, { hash := 32, key := Value.int 32 511, val := Value.str (Str.ofString "\\ ") 515 }, { hash := 9, key := Value.int 9 517, val := Value.str (Str.ofString "\\\t") 521 }, { hash := 10, key := Value.int 10 523, val := Value.str (Str.ofString "\\\n") 527 }, { hash := 13, key := Value.int 13 529, val := Value.str (Str.ofString "\\\x0d") 533 }, { hash := 11, key := Value.int 11 535, val := Value.str (Str.ofString "\\\x0b") 539 }, { hash := 12, key := Value.int 12 541, val := Value.str (Str.ofString "\\\x0c") 545 }] 24 }) :: (nat_lit 66, { cls := Value.type "tuple", data := Data.seq #[] }) :: (nat_lit 68, { cls := Value.type "tuple", data := Data.seq #[Value.str (Str.ofString "pattern") 551] }) :: (nat_lit 69, { cls := Value.type "tuple", data := Data.seq #[] }) :: (nat_lit 71, { cls := Value.type "code", data := Data.fields #[Value.str (Str.ofString "escape") 548, Value.str (Str.ofString "escape") 549, Value.str (Str.ofString "/claim/cut.py") 550, Value.int 16 0, Value.int 1 0, Value.int 0 0, Value.int 0 0, Value.int 3 0, Value.ref 66, Value.bool true, Value.int 276 0, Value.ref 67, Value.none, Value.ref 68, Value.ref 69, Value.ref 70, Value.int 552 0, Value.int 16 0, Value.str (Str.ofString "/claim/cut.py") 553] }) :: (nat_lit 72, { cls := Value.type "function", data := Data.func { name := Str.ofString "escape", qualname := Str.ofString "escape", params := ar11.1, body := FuncBody.stmts (bo11.1), scope := sc11.1, globals := 3, closure := [], defaults := Value.none, kwdefaults := Value.none, pyModule := Value.str (Str.ofString "re") 400, code := Value.ref 71 } }) :: (nat_lit 73, { cls := Value.type "tuple", data := Data.seq #[] }) :: (nat_lit 75, { cls := Value.type "tuple", data := Data.seq #[Value.str (Str.ofString "pat") 560, Value.str (Str.ofString "STAR") 561, Value.str (Str.ofString "QUESTION_MARK") 562, Value.str (Str.ofString "res") 563, Value.str (Str.ofString "add") 564, Value.str (Str.ofString "i") 565, Value.str (Str.ofString "n") 566, Value.str (Str.ofString "c") 567, Value.str (Str.ofString "j") 568, Value.str (Str.ofString "stuff") 569, Value.str (Str.ofString "chunks") 570, Value.str (Str.ofString "k") 571, Value.str (Str.ofString "chunk") 572] }) :: (nat_lit 76, { cls := Value.type "tuple", data := Data.seq #[] }) :: (nat_lit 78, { cls := Value.type "code", data := Data.fields #[Value.str (Str.ofString "_translate") 557, Value.str (Str.ofString "_translate") 558, Value.str (Str.ofString "/claim/cut.py") 559, Value.int 23 0, Value.int 3 0, Value.int 0 0, Value.int 0 0, Value.int 3 0, Value.ref 73, Value.bool true, Value.int 276 0, Value.ref 74, Value.none, Value.ref 75, Value.ref 76, Value.ref 77, Value.int 573 0, Value.int 23 0, Value.str (Str.ofString "/claim/cut.py") 574] }) :: (nat_lit 79, { cls := Value.type "function", data := Data.func { name := Str.ofString "_translate", qualname := Str.ofString "_translate", params := ar13.1, body := FuncBody.stmts (bo13.1), scope := sc13.1, globals := 3, closure := [], defaults := Value.none, kwdefaults := Value.none, pyModule := Value.str (Str.ofString "cpy313.fnmatch") 555, code := Value.ref 78 } }) :: (nat_lit 80, { cls := Value.type "tuple", data := Data.seq #[] }) :: (nat_lit 82, { cls := Value.type "tuple", data := Data.seq #[Value.str (Str.ofString "inp") 579, Value.str (Str.ofString "STAR") 580, Value.str (Str.ofString "res") 581, Value.str (Str.ofString "add") 582, Value.str (Str.ofString "i") 583, Value.str (Str.ofString "n") 584, Value.str (Str.ofString "fixed") 585] }) :: (nat_lit 83, { cls := Value.type "tuple", data := Data.seq #[] }) :: (nat_lit 85, { cls := Value.type "code", data := Data.fields #[Value.str (Str.ofString "_join_translated_parts") 576, Value.str (Str.ofString "_join_translated_parts") 577, Value.str (Str.ofString "/claim/cut.py") 578, Value.int 85 0, Value.int 2 0, Value.int 0 0, Value.int 0 0, Value.int 3 0, Value.ref 80, Value.bool true, Value.int 276 0, Value.ref 81, Value.none, Value.ref 82, Value.ref 83, Value.ref 84, Value.int 586 0, Value.int 85 0, Value.str (Str.ofString "/claim/cut.py") 587] }) :: (nat_lit 86, { cls := Value.type "function", data := Data.func { name := Str.ofString "_join_translated_parts", qualname := Str.ofString "_join_translated_parts", params := ar14.1, body := FuncBody.stmts (bo14.1), scope := sc14.1, globals := 3, closure := [], defaults := Value.none, kwdefaults := Value.none, pyModule := Value.str (Str.ofString "cpy313.fnmatch") 555, code := Value.ref 85 } }) :: (nat_lit 87, { cls := Value.type "tuple", data := Data.seq #[] }) :: (nat_lit 89, { cls := Value.type "tuple", data := Data.seq #[Value.str (Str.ofString "value") 594, Value.str (Str.ofString "table") 595, Value.str (Str.ofString "code") 596, Value.str (Str.ofString "sign") 597] }) :: (nat_lit 90, { cls := Value.type "tuple", data := Data.seq #[] }) :: (nat_lit 92, { cls := Value.type "code", data := Data.fields #[Value.str (Str.ofString "_law_piece") 591, Value.str (Str.ofString "_law_piece") 592, Value.str (Str.ofString "/claim/cut.py") 593, Value.int 113 0, Value.int 1 0, Value.int 0 0, Value.int 0 0, Value.int 3 0, Value.ref 87, Value.bool true, Value.int 276 0, Value.ref 88, Value.none, Value.ref 89, Value.ref 90, Value.ref 91, Value.int 598 0, Value.int 113 0, Value.str (Str.ofString "/claim/cut.py") 599] }) :: (nat_lit 93, { cls := Value.type "function", data := Data.func { name := Str.ofString "_law_piece", qualname := Str.ofString "_law_piece", params := ar16.1, body := FuncBody.stmts (bo16.1), scope := sc16.1, globals := 3, closure := [], defaults := Value.none, kwdefaults := Value.none, pyModule := Value.str (Str.ofString "law_ij0163_01") 589, code := Value.ref 92 } }) :: (nat_lit 94, { cls := Value.type "tuple", data := Data.seq #[] }) :: (nat_lit 96, { cls := Value.type "tuple", data := Data.seq #[Value.str (Str.ofString "script") 604, Value.str (Str.ofString "pattern") 605, Value.str (Str.ofString "rows") 606, Value.str (Str.ofString "ends") 607, Value.str (Str.ofString "x") 608, Value.str (Str.ofString "value") 609, Value.str (Str.ofString "piece") 610, Value.str (Str.ofString "row") 611, Value.str (Str.ofString "end") 612] }) :: (nat_lit 97, { cls := Value.type "tuple", data := Data.seq #[] }) :: (nat_lit 99, { cls := Value.type "code", data := Data.fields #[Value.str (Str.ofString "_law_plan") 601, Value.str (Str.ofString "_law_plan") 602, Value.str (Str.ofString "/claim/cut.py") 603, Value.int 122 0, Value.int 1 0, Value.int 0 0, Value.int 0 0, Value.int 3 0, Value.ref 94, Value.bool true, Value.int 276 0, Value.ref 95, Value.none, Value.ref 96, Value.ref 97, Value.ref 98, Value.int 613 0, Value.int 122 0, Value.str (Str.ofString "/claim/cut.py") 614] }) :: (nat_lit 100, { cls := Value.type "function", data := Data.func { name := Str.ofString "_law_plan", qualname := Str.ofString "_law_plan", params := ar17.1, body := FuncBody.stmts (bo17.1), scope := sc17.1, globals := 3, closure := [], defaults := Value.none, kwdefaults := Value.none, pyModule := Value.str (Str.ofString "law_ij0163_01") 589, code := Value.ref 99 } }) :: (nat_lit 101, { cls := Value.type "tuple", data := Data.seq #[] }) :: (nat_lit 104, { cls := Value.type "code", data := Data.fields #[Value.str (Str.ofString "_law_text") 616, Value.str (Str.ofString "_law_text") 617, Value.str (Str.ofString "/claim/cut.py") 618, Value.int 133 0, Value.int 1 0, Value.int 0 0, Value.int 0 0, Value.int 3 0, Value.ref 101, Value.bool true, Value.int 276 0, Value.ref 102, Value.none, Value.none, Value.none, Value.ref 103, Value.int 619 0, Value.int 133 0, Value.str (Str.ofString "/claim/cut.py") 620] }) :: (nat_lit 105, { cls := Value.type "function", data := Data.func { name := Str.ofString "_law_text", qualname := Str.ofString "_law_text", params := ar18.1, body := FuncBody.stmts (bo18.1), scope := sc18.1, globals := 3, closure := [], defaults := Value.none, kwdefaults := Value.none, pyModule := Value.str (Str.ofString "law_ij0163_01") 589, code := Value.ref 104 } }) :: (nat_lit 106, { cls := Value.type "tuple", data := Data.seq #[] }) :: (nat_lit 109, { cls := Value.type "code", data := Data.fields #[Value.str (Str.ofString "law") 622, Value.str (Str.ofString "law") 623, Value.str (Str.ofString "/claim/cut.py") 624, Value.int 137 0, Value.int 1 0, Value.int 0 0, Value.int 0 0, Value.int 3 0, Value.ref 106, Value.bool true, Value.int 276 0, Value.ref 107, Value.none, Value.none, Value.none, Value.ref 108, Value.int 625 0, Value.int 137 0, Value.str (Str.ofString "/claim/cut.py") 626] }) :: (nat_lit 110, { cls := Value.type "function", data := Data.func { name := Str.ofString "law", qualname := Str.ofString "law", params := ar19.1, body := FuncBody.stmts (bo19.1), scope := sc19.1, globals := 3, closure := [], defaults := Value.none, kwdefaults := Value.none, pyModule := Value.str (Str.ofString "law_ij0163_01") 589, code := Value.ref 109 } }) :: []
@[reducible] noncomputable def adr : List Addr := 2 :: 3 :: 6 :: 11 :: 12 :: 35 :: 36 :: 40 :: 41 :: 42 :: 44 :: 45 :: 47 :: 48 :: 52 :: 53 :: 54 :: 56 :: 57 :: 59 :: 60 :: 62 :: 66 :: 68 :: 69 :: 71 :: 72 :: 73 :: 75 :: 76 :: 78 :: 79 :: 80 :: 82 :: 83 :: 85 :: 86 :: 87 :: 89 :: 90 :: 92 :: 93 :: 94 :: 96 :: 97 :: 99 :: 100 :: 101 :: 104 :: 105 :: 106 :: 109 :: 110 :: []
@[reducible] noncomputable def loose : List Str := [Str.ofString "twin_re_1_smtplib", Str.ofString "_twin_re_2", Str.ofString "twin_re_1_fnmatch", Str.ofString "_special_chars_map"]
theorem adr_eq : ∀ P, adr = (KF P).map (·.1) := fun _ => by kernel_rfl
@[reducible] noncomputable def hook : Hook := kmHook KF adr adr_eq [74]
@[reducible] noncomputable def rowW : RowW := PySem.Challenge.rw_ij0163_01.row.toRowW
@[reducible] noncomputable def seen (s : Shared) : Bool := xlAt VW [] s && recOk (RowW.records rowW) s
@[reducible] noncomputable def EqL (w : World) : Prop := (openEnds treeTable PySem.Challenge.rw_ij0163_01.prog w 4000).map (fun s => (openSeen VW loose (importedModules PySem.Challenge.rw_ij0163_01.prog.main.body) seen true s, Hook.obs hook s)) = some (openGood VW loose, Hook.val hook w)
set_option maxHeartbeats 80000000
theorem left_ff (w : World) : EqL ((w.withFollow "comprehension-iter-twice" false).withFollow "special-get-raises" false) := by unfold EqL; kernel_rfl
theorem left_ft (w : World) : EqL ((w.withFollow "comprehension-iter-twice" true).withFollow "special-get-raises" false) := by unfold EqL; kernel_rfl
theorem left_tf (w : World) : EqL ((w.withFollow "comprehension-iter-twice" false).withFollow "special-get-raises" true) := by unfold EqL; kernel_rfl
theorem left_tt (w : World) : EqL ((w.withFollow "comprehension-iter-twice" true).withFollow "special-get-raises" true) := by unfold EqL; kernel_rfl
theorem left : ∀ w : World, EqL w := byRow2 "special-get-raises" (P := EqL) (byRow2 "comprehension-iter-twice" (P := fun w => EqL (w.withFollow "special-get-raises" false)) left_ff left_ft) (byRow2 "comprehension-iter-twice" (P := fun w => EqL (w.withFollow "special-get-raises" true)) left_tf left_tt)
theorem said : PySem.Challenge.rw_ij0163_01.wellSaid = true := by kernel_rfl
@[reducible] noncomputable def lawD : DefRec := { name := Str.ofString "law", params := ar19.1, body := bo19.1, scope := sc19.1, pos := po19.1 }
theorem hd (call : WalkO VW loose (XL VW []) (Hook.says (kmHook KF adr adr_eq [74])) PySem.Challenge.rw_ij0163_01.row.toRowW { name := Str.ofString "law", params := ar19.1, body := bo19.1, scope := sc19.1, pos := po19.1 } [] fun f vs => PySem.call f vs) : PySem.Challenge.rw_ij0163_01.Holds :=
  holds_law said fun said => by
    refine holds_open (q := VW) (loose := loose) (Xt := seen) (XP := XL VW []) (Yf := Hook.obs hook) (Ya := Hook.val hook) (YP := Hook.says hook) (d := lawD) (kwd := []) (N := 4000) left (Hook.of hook) (Hook.keeps hook) (fun s e => xl_of s (Bool.and_eq_true_iff.mp e).1) XL.keeps (by kernel_rfl) (by kernel_rfl) (by kernel_rfl) (fun s e => recFacts_of (Bool.and_eq_true_iff.mp e).2) (by kernel_rfl) said (by decide +kernel) ⟨rfl, rfl, rfl, rfl, rfl, by decide +kernel⟩ ?hw call
    case hw => w_witness2
end Mine
end
local macro_rules | `(tactic| walk_at $s:str) => `(tactic| k_extra $s)
section
open PySem PySem.W PyProof.Rows
namespace Mine
set_option maxRecDepth 100000 in
set_option maxHeartbeats 8000000 in
example (h : WalkO VW loose (XL VW []) (Hook.says (kmHook KF adr adr_eq [74])) PySem.Challenge.rw_ij0163_01.row.toRowW { name := Str.ofString "law", params := ar19.1, body := bo19.1, scope := sc19.1, pos := po19.1 } [] fun f vs => PySem.call f vs) : WalkO VW loose (XL VW []) (Hook.says (kmHook KF adr adr_eq [74])) PySem.Challenge.rw_ij0163_01.row.toRowW { name := Str.ofString "law", params := ar19.1, body := bo19.1, scope := sc19.1, pos := po19.1 } [] fun f vs => PySem.call f vs := by
  k_fill
  exact h
end Mine
end
section
open PySem PySem.W PyProof.Rows PySem.Calls
set_option Elab.async false
namespace Mine
def Hold (p : Prop) : Prop := p
theorem hold_ {p : Prop} (h : Hold p) : p := h
/-- what a call hands back -/
abbrev RetK (h₀ : Heap) (L : Addr) (m : Str → Option Value) (s : Shared) (Q : Value → Shared → Prop) (R : Value → List (Addr × Obj) → Prop) : Prop :=
  ∀ (v : Value) (h' : Heap) (tk' : Nat) (news' : List (Addr × Obj)), Fr h₀ L h' m → News h₀ L h' news' → R v news' → Q v { s with heap := h', toks := tk' }
/-- a def's contract -/
abbrev Claim (w : World) (f : Addr) (news : List (Addr × Obj)) (vs : List Value) (R : Value → List (Addr × Obj) → Prop) : Prop :=
  ∀ (p : Program) (loose : List Str) (mean : ExcName → Option Value) (mg mb : Str → Option Value) (dp un : Nat) (gd : Option (List Code)) (cn : Str) (cs : Scope) (a : Addr) (ccd : Value) (cl : List (Str × Addr)) (outer : List Env) (A₀ : Around) (base h₀ : Heap) (L : Addr) (m : Str → Option Value) (s : Shared) (Q E : Value → Shared → Prop),
    Below A₀ base outer h₀ → Fr h₀ L s.heap m → (KF w.params).In h₀ → News h₀ L s.heap news → Top p loose mean mg mb h₀ → CodeHd h₀ 78 74 → cs.kind = .function → dp + 8 < recursionLimit → un + 64 < cLine →
    RetK h₀ L m s Q R → wpAny (model PySem.Challenge.rw_ij0163_01.row.prog w) (ktrTop dp un gd cn cs L a ccd cl outer) (call (.ref f) vs) Q E s
end Mine
end
section
open PySem
namespace Mine
/-! ## what the law's own helpers say -/
def tabP : List (Str × Str) := [("*", ""), ("**", ""), ("?", "?"), ("[!b-a]", "."), ("[b-a]", "(?!)"), (".", "\\."), ("[\x0b.]", "[\x0b.]"), ("[!.]", "[^.]"), ("[.-a]", "[.-a]"), ("[]]", "[]]"), ("]", "\\]"), ("-", "\\-"), ("\\", "\\\\"), ("[^]", "[\\^]"), ("[&.]", "[\\&.]"), ("\t", "\\\t"), ("!", "!"), ("[a\\]", "[a\\\\]")]
/-- a text within a text, as the model asks it -/
def isIn (x t : Str) : Bool := !(Builtin.Str.occurrences t x 0 t.length 1).isEmpty
def codeOf (v : Int) : Int := (v.fdiv 60).fmod 1112064
def rawSign (v : Int) : Str := if codeOf v < 55296 then ⟨#[(codeOf v).toNat]⟩ else ⟨#[(codeOf v + 2048).toNat]⟩
def signOf (v : Int) : Str := if isIn (rawSign v) "*?[\r\n" then "a" else rawSign v
def pieceOf (v : Int) : Str × Str :=
  if v.fmod 20 < 18 then tabP.getD (v.fmod 20).toNat ("", "")
  else (signOf v, if isIn (signOf v) "()]{}+-|^$\\.&~# \t\x0b\x0c" then "\\" ++ signOf v else signOf v)
abbrev valueOf (x : Int) : Int := x.fmod (10 ^ Int.toNat 8)
abbrev endOf (v : Int) : Str := [Str.ofString "\r\n", Str.ofString "\n", Str.ofString "\r"].getD ((v.fdiv 20).fmod 3).toNat Str.empty
abbrev lastOf (l : List Str) : List Str := (l.drop (l.length - 1)).take (l.length - (l.length - 1))
structure Plan where
  pat : Str
  rows : List Str
  ends : List Str
def planStep (st : Plan) (x : Int) : Plan :=
  if ((pieceOf (valueOf x)).2 != Str.ofString "") || (lastOf st.rows != [Str.ofString ""]) then
    ⟨st.pat ++ (pieceOf (valueOf x)).1, st.rows ++ [(pieceOf (valueOf x)).2], st.ends ++ [if ((pieceOf (valueOf x)).2 == Str.ofString "") && ((endOf (valueOf x) == Str.ofString "\n") && (lastOf st.ends == [Str.ofString "\r"])) then Str.ofString "\r\n" else endOf (valueOf x)]⟩
  else ⟨st.pat ++ (pieceOf (valueOf x)).1, st.rows, st.ends⟩
def planOf (xs : List Int) : Plan := xs.foldl planStep ⟨Str.ofString "", [], []⟩
section
variable {st : Plan} {x : Int}
theorem step1 (h1 : ((pieceOf (valueOf x)).2 != Str.ofString "") = true) (h2 : ((pieceOf (valueOf x)).2 == Str.ofString "") = false) : planStep st x = ⟨st.pat ++ (pieceOf (valueOf x)).1, st.rows ++ [(pieceOf (valueOf x)).2], st.ends ++ [endOf (valueOf x)]⟩ := by
  unfold planStep; rw [h1, h2]; rfl
theorem step2 (h3 : (lastOf st.rows != [Str.ofString ""]) = true) (h2 : ((pieceOf (valueOf x)).2 == Str.ofString "") = true) (h4 : (endOf (valueOf x) == Str.ofString "\n") = true) (h5 : (lastOf st.ends == [Str.ofString "\r"]) = true) :
    planStep st x = ⟨st.pat ++ (pieceOf (valueOf x)).1, st.rows ++ [(pieceOf (valueOf x)).2], st.ends ++ [Str.ofString "\r\n"]⟩ := by
  unfold planStep; rw [h3, h2, h4, h5, Bool.or_true]; rfl
theorem step3 (h3 : (lastOf st.rows != [Str.ofString ""]) = true) (h2 : ((pieceOf (valueOf x)).2 == Str.ofString "") = true) (h4 : (endOf (valueOf x) == Str.ofString "\n") = true) (h5 : (lastOf st.ends == [Str.ofString "\r"]) = false) :
    planStep st x = ⟨st.pat ++ (pieceOf (valueOf x)).1, st.rows ++ [(pieceOf (valueOf x)).2], st.ends ++ [endOf (valueOf x)]⟩ := by
  unfold planStep; rw [h3, h2, h4, h5, Bool.or_true]; rfl
theorem step4 (h3 : (lastOf st.rows != [Str.ofString ""]) = true) (h2 : ((pieceOf (valueOf x)).2 == Str.ofString "") = true) (h4 : (endOf (valueOf x) == Str.ofString "\n") = false) :
    planStep st x = ⟨st.pat ++ (pieceOf (valueOf x)).1, st.rows ++ [(pieceOf (valueOf x)).2], st.ends ++ [endOf (valueOf x)]⟩ := by
  unfold planStep; rw [h3, h2, h4, Bool.or_true]; rfl
theorem step5 (h1 : ((pieceOf (valueOf x)).2 != Str.ofString "") = false) (h3 : (lastOf st.rows != [Str.ofString ""]) = false) : planStep st x = ⟨st.pat ++ (pieceOf (valueOf x)).1, st.rows, st.ends⟩ := by
  unfold planStep; rw [h1, h3]; rfl
end
/-- what holds of every piece -/
def smallOk (x : Str) : Bool := decide (x.cps.size ≤ 8) && x.cps.all (· < 0x110000)
theorem tab_ok : ∀ i, i < 18 → (smallOk (tabP.getD i ("", "")).1 && smallOk (tabP.getD i ("", "")).2) = true := by decide +kernel
theorem code_lt (v : Int) : (codeOf v).toNat < 1112064 := by
  have h1 := Int.fmod_nonneg_of_pos (v.fdiv 60) (show (0 : Int) < 1112064 by decide)
  have h2 := Int.fmod_lt_of_pos (v.fdiv 60) (show (0 : Int) < 1112064 by decide)
  unfold codeOf; lia
theorem code_up (v : Int) : (codeOf v).toNat < 0x110000 ∧ (codeOf v + 2048).toNat < 0x110000 := by
  have := code_lt v
  lia
theorem one_ok {c : Nat} (h : c < 0x110000) : smallOk ⟨#[c]⟩ = true := by
  unfold smallOk; simp [h]
theorem sign_ok (v : Int) : smallOk (signOf v) = true ∧ (signOf v).cps.size = 1 := by
  unfold signOf
  split
  · decide +kernel
  · unfold rawSign
    split
    · exact ⟨one_ok (code_up v).1, rfl⟩
    · exact ⟨one_ok (code_up v).2, rfl⟩
theorem bs_ok {x : Str} (h : smallOk x = true ∧ x.cps.size = 1) : smallOk (Str.ofString "\\" ++ x) = true := by
  obtain ⟨⟨l⟩⟩ := x
  match l, h with
  | [c], ⟨h, _⟩ =>
    unfold smallOk at *
    have e : (Str.ofString "\\" ++ (⟨⟨[c]⟩⟩ : Str)).cps = #[92, c] := rfl
    rw [e]
    simpa using h
  | [], ⟨_, h⟩ => cases h
  | _ :: _ :: _, ⟨_, h⟩ => cases h
theorem piece_ok (v : Int) : smallOk (pieceOf v).1 = true ∧ smallOk (pieceOf v).2 = true := by
  unfold pieceOf
  split
  · next h =>
    have h0 := Int.fmod_nonneg_of_pos v (show (0 : Int) < 20 by decide)
    exact Bool.and_eq_true_iff.mp (tab_ok _ (by lia))
  · refine ⟨(sign_ok v).1, ?_⟩
    show smallOk (if _ then _ else _) = true
    split
    · exact bs_ok (sign_ok v)
    · exact (sign_ok v).1
theorem ends_ok : ∀ i, i < 3 → smallOk ([Str.ofString "\r\n", Str.ofString "\n", Str.ofString "\r"].getD i Str.empty) = true := by decide +kernel
theorem end_ok (v : Int) : smallOk (endOf v) = true := by
  have h1 := Int.fmod_nonneg_of_pos (v.fdiv 20) (show (0 : Int) < 3 by decide)
  have h2 := Int.fmod_lt_of_pos (v.fdiv 20) (show (0 : Int) < 3 by decide)
  exact ends_ok _ (by lia)
structure PlanOk (n : Nat) (st : Plan) : Prop where
  p : st.pat.cps.size ≤ 8 * n
  r : st.rows.length ≤ n
  e : st.ends.length = st.rows.length
  ro : (st.rows.all smallOk) = true
  eo : (st.ends.all smallOk) = true
theorem all_snoc {xs : List Str} {y : Str} (h : (xs.all smallOk) = true) (k : smallOk y = true) : ((xs ++ [y]).all smallOk) = true := by
  rw [List.all_append, h]; simp [k]
theorem pat_up {st : Plan} {n : Nat} {v : Int} (h : st.pat.cps.size ≤ 8 * n) : (st.pat ++ (pieceOf v).1).cps.size ≤ 8 * (n + 1) := by
  have e : (st.pat ++ (pieceOf v).1).cps = st.pat.cps ++ (pieceOf v).1.cps := rfl
  have k := (piece_ok v).1
  unfold smallOk at k
  have := of_decide_eq_true (Bool.and_eq_true_iff.mp k).1
  rw [e, Array.size_append]
  lia
theorem PlanOk.step {n : Nat} {st : Plan} {x : Int} (h : PlanOk n st) : PlanOk (n + 1) (planStep st x) := by
  unfold planStep
  split
  · refine ⟨pat_up h.p, by simpa using h.r, by simpa using h.e, all_snoc h.ro (piece_ok _).2, all_snoc h.eo ?_⟩
    split
    · decide +kernel
    · exact end_ok _
  · exact ⟨pat_up h.p, Nat.le_succ_of_le h.r, h.e, h.ro, h.eo⟩
theorem foldOk : ∀ (xs : List Int) (n : Nat) (st : Plan), PlanOk n st → PlanOk (n + xs.length) (xs.foldl planStep st)
  | [], _, _, h => h
  | x :: xs, n, st, h => by
    have := foldOk xs (n + 1) (planStep st x) h.step
    rw [List.foldl_cons, List.length_cons, show n + (xs.length + 1) = n + 1 + xs.length by lia]
    exact this
theorem planOk (xs : List Int) : PlanOk xs.length (planOf xs) := by
  have := foldOk xs 0 ⟨Str.ofString "", [], []⟩ ⟨Nat.le_refl _, Nat.le_refl _, rfl, rfl, rfl⟩
  rwa [Nat.zero_add] at this
theorem all_strOk {xs : List Str} (h : (xs.all smallOk) = true) : (xs.all PyData.strOk) = true := by
  rw [List.all_eq_true] at h ⊢
  exact fun x hx => (Bool.and_eq_true_iff.mp (h x hx)).2
end Mine
end
section
open PySem PySem.Sre
namespace Mine
/-! ## the machine of the patterns -/
theorem runFor_done (m : M) (h : m.outcome.isSome = true) : ∀ n, M.runFor n m = m
  | 0 => rfl
  | n + 1 => by unfold M.runFor; rw [if_pos h]
theorem runFor_succ (n : Nat) (m : M) : M.runFor (n + 1) m = M.runFor n m.step := by
  show (if m.outcome.isSome then m else M.runFor n m.step) = _
  cases h : m.outcome.isSome with
  | true =>
    have e : m.step = m := by unfold M.step; rw [if_pos h]
    rw [e, runFor_done m h]; rfl
  | false => simp
theorem runFor_add : ∀ (a b : Nat) (m : M), M.runFor (a + b) m = M.runFor b (M.runFor a m)
  | 0, b, m => by rw [Nat.zero_add]; rfl
  | a + 1, b, m => by rw [Nat.succ_add, runFor_succ, runFor_succ, runFor_add a b]
/-- it ends at m' within n steps -/
def Ends (n : Nat) (m m' : M) : Prop := ∃ k, k ≤ n ∧ M.runFor k m = m' ∧ m'.outcome.isSome = true
theorem Ends.step {n : Nat} {m m₁ m' : M} (e : m.step = m₁) (h : Ends n m₁ m') : Ends (n + 1) m m' := by
  obtain ⟨k, hk, hr, ho⟩ := h
  exact ⟨k + 1, by lia, by rw [runFor_succ, e, hr], ho⟩
theorem Ends.mono {n n' : Nat} {m m' : M} (h : Ends n m m') (hn : n ≤ n') : Ends n' m m' :=
  let ⟨k, hk, r⟩ := h; ⟨k, by lia, r⟩
theorem Ends.now {m : M} (ho : m.outcome.isSome = true) : Ends 0 m m := ⟨0, Nat.le_refl _, rfl, ho⟩
theorem Ends.at {n : Nat} {m m' : M} (h : Ends n m m') {j : Nat} (hj : n ≤ j) : M.runFor j m = m' ∧ m'.outcome.isSome = true := by
  obtain ⟨k, hk, hr, ho⟩ := h
  refine ⟨?_, ho⟩
  have e : j = k + (j - k) := by lia
  rw [e, runFor_add, hr, runFor_done m' ho]
theorem step_exec {m : M} (h1 : m.outcome = none) (h2 : m.answer = none) (h3 : m.pc < m.code.size) : m.step = m.exec := by
  unfold M.step
  rw [h1, h2]
  simp [h3]
theorem step_resume {m : M} {yes : Bool} {f : Sre.Frame} {r : List Sre.Frame} (h1 : m.outcome = none) (h2 : m.answer = some yes) (h3 : m.frames = f :: r) :
    m.step = M.resume { m with answer := none, frames := r, weight := m.weight - (1 + f.kept.marks.size), pc := f.pc, pos := f.pos, outermost := f.outermost } f yes := by
  unfold M.step
  rw [h1, h2, h3]
  rfl
theorem step_out {m : M} {yes : Bool} (h1 : m.outcome = none) (h2 : m.answer = some yes) (h3 : m.frames = []) :
    m.step = { m with outcome := some (if yes then .matched else .failed) } := by
  unfold M.step
  rw [h1, h2, h3]
  rfl
section
variable {m : M}
theorem exec_at {yes : Bool} (ho : ops[m.word 0]? = some .AT) (h : m.isAt (m.word 1) = .ok yes) :
    m.exec = if yes then { m with seen := (m.seen.add (m.word 0)).add (43 + m.word 1), pc := m.pc + 2 } else { m with seen := (m.seen.add (m.word 0)).add (43 + m.word 1), answer := some false } := by
  unfold M.exec
  rw [ho]
  have h' : M.isAt { m with seen := m.seen.add (m.word 0) } (M.word { m with seen := m.seen.add (m.word 0) } 1) = .ok yes := h
  simp only [h']
  cases yes <;> rfl
theorem exec_lit_end (ho : ops[m.word 0]? = some .LITERAL) (h : m.lim ≤ m.pos) : m.exec = { m with seen := m.seen.add (m.word 0), answer := some false } := by
  unfold M.exec
  rw [ho]
  simp only [ge_iff_le, h, if_true]
  rfl
theorem exec_lit (ho : ops[m.word 0]? = some .LITERAL) (h : m.pos < m.lim) :
    m.exec = if m.text.getD m.pos 0 == m.word 1 then { m with seen := m.seen.add (m.word 0), pc := m.pc + 2, pos := m.pos + 1 } else { m with seen := m.seen.add (m.word 0), answer := some false } := by
  have ho' : ops[m.code.getD m.pc 0]? = some .LITERAL := ho
  unfold M.exec
  rw [ho]
  have h' : ¬ m.pos ≥ m.lim := by lia
  simp only [h', if_false]
  unfold accepts
  simp only [ho']
  cases e : (m.text.getD m.pos 0 == m.word 1) with
  | true =>
    have e' : (m.text.getD m.pos 0 == m.code.getD (m.pc + 1) 0) = true := e
    simp only [e']
    unfold itemWidth
    simp only [ho']
    rfl
  | false =>
    have e' : (m.text.getD m.pos 0 == m.code.getD (m.pc + 1) 0) = false := e
    simp only [e']
    rfl
theorem exec_success (ho : ops[m.word 0]? = some .SUCCESS) (h : (m.outermost && ((m.wholeText && m.pos != m.lim) || (m.mustAdvance && m.pos == m.start))) = false) :
    m.exec = { m with seen := m.seen.add (m.word 0), handed := m.pos, answer := some true } := by
  unfold M.exec
  rw [ho]
  simp only [h]
  rfl
theorem exec_jump (ho : ops[m.word 0]? = some .JUMP) : m.exec = { m with seen := m.seen.add (m.word 0), pc := m.pc + 1 + m.word 1 } := by
  unfold M.exec
  rw [ho]
  rfl
end

/-! ### (?m)^\. -/
def c1 : Array Nat := #[14, 4, 0, 1, 1, 6, 1, 16, 46, 1]
def st1 (t : Array Nat) (s : Nat) (must fst : Bool) (seen : Seen) : M :=
  { code := c1, text := t, lim := t.size, start := s, lastStart := t.size, wholeText := false, mustAdvance := must, pc := 5, pos := s, handed := s, outermost := fst,
    marks := #[], lastmark := -1, lastindex := -1, loops := #[], inner := none, frames := [{ wait := .nextStart, pc := 5, pos := s, outermost := fst }], weight := 1, answer := none, seen := seen, outcome := none }
/-- a dot at a line's head -/
def hit1 (t : Array Nat) (p : Nat) : Bool := (p == 0 || t.getD (p - 1) 0 == 10) && (decide (p < t.size) && t.getD p 0 == 46)
/-- the attempt at s has failed -/
def no1 (t : Array Nat) (s : Nat) (must fst : Bool) (seen : Seen) (h p : Nat) : M := { st1 t s must fst seen with answer := some false, handed := h, pc := p }
theorem no1_on {t : Array Nat} {s : Nat} {must fst : Bool} {seen : Seen} {h p : Nat} (hs : s < t.size) : (no1 t s must fst seen h p).step = st1 t (s + 1) false false seen := by
  rw [step_resume (f := { wait := .nextStart, pc := 5, pos := s, outermost := fst }) (r := []) rfl rfl rfl]
  unfold M.resume
  simp only [no1, st1, Bool.false_eq_true, if_false, hs, if_true]
  rfl
theorem no1_end {t : Array Nat} {s : Nat} {must fst : Bool} {seen : Seen} {h p : Nat} (hs : ¬ s < t.size) :
    (no1 t s must fst seen h p).step = { no1 t s must fst seen h 5 with frames := [], weight := 0 } := by
  rw [step_resume (f := { wait := .nextStart, pc := 5, pos := s, outermost := fst }) (r := []) rfl rfl rfl]
  unfold M.resume
  simp only [no1, st1, Bool.false_eq_true, if_false, hs]
  rfl
theorem miss1 {t : Array Nat} {s : Nat} {must fst : Bool} {seen : Seen} (h : hit1 t s = false) :
    ∃ seen' h p, ∀ n m', Ends n (no1 t s must fst seen' h p) m' → Ends (n + 2) (st1 t s must fst seen) m' := by
  have hat : M.isAt (st1 t s must fst seen) (M.word (st1 t s must fst seen) 1) = .ok (s == 0 || t.getD (s - 1) 0 == 10) := rfl
  have e0 := (step_exec (m := st1 t s must fst seen) rfl rfl (by show 5 < c1.size; decide)).trans (exec_at (by rfl) hat)
  unfold hit1 at h
  cases hl : (s == 0 || t.getD (s - 1) 0 == 10) with
  | false =>
    rw [hl] at e0
    exact ⟨(seen.add 6).add 44, s, 5, fun n m' k => (k.step e0).mono (by lia)⟩
  | true =>
    rw [hl, Bool.true_and] at h
    rw [hl] at e0
    have e0' : (st1 t s must fst seen).step = { st1 t s must fst ((seen.add 6).add 44) with pc := 7 } := e0
    by_cases hs : s < t.size
    · have e2 := (step_exec (m := { st1 t s must fst ((seen.add 6).add 44) with pc := 7 }) rfl rfl (by show 7 < c1.size; decide)).trans (exec_lit (by rfl) hs)
      have hd : (t.getD s 0 == 46) = false := by simpa [hs] using h
      have hd' : ((M.text { st1 t s must fst ((seen.add 6).add 44) with pc := 7 }).getD (M.pos { st1 t s must fst ((seen.add 6).add 44) with pc := 7 }) 0 == M.word { st1 t s must fst ((seen.add 6).add 44) with pc := 7 } 1) = false := hd
      rw [hd'] at e2
      exact ⟨_, s, 7, fun n m' k => Ends.step e0' (k.step e2)⟩
    · have e2 := (step_exec (m := { st1 t s must fst ((seen.add 6).add 44) with pc := 7 }) rfl rfl (by show 7 < c1.size; decide)).trans (exec_lit_end (by rfl) (Nat.le_of_not_lt hs))
      exact ⟨_, s, 7, fun n m' k => Ends.step e0' (k.step e2)⟩
theorem found1 {t : Array Nat} {s : Nat} {must fst : Bool} {seen : Seen} (h : hit1 t s = true) : ∃ m', Ends 5 (st1 t s must fst seen) m' ∧ m'.outcome = some .matched ∧ m'.start = s ∧ m'.handed = s + 1 := by
  unfold hit1 at h
  simp only [Bool.and_eq_true, decide_eq_true_eq] at h
  obtain ⟨hl, hs, hd⟩ := h
  have hat : M.isAt (st1 t s must fst seen) (M.word (st1 t s must fst seen) 1) = .ok (s == 0 || t.getD (s - 1) 0 == 10) := rfl
  have e0 := (step_exec (m := st1 t s must fst seen) rfl rfl (by show 5 < c1.size; decide)).trans (exec_at (by rfl) hat)
  rw [hl] at e0
  have e0' : (st1 t s must fst seen).step = { st1 t s must fst ((seen.add 6).add 44) with pc := 7 } := e0
  have e2 := (step_exec (m := { st1 t s must fst ((seen.add 6).add 44) with pc := 7 }) rfl rfl (by show 7 < c1.size; decide)).trans (exec_lit (by rfl) hs)
  have hd' : ((M.text { st1 t s must fst ((seen.add 6).add 44) with pc := 7 }).getD (M.pos { st1 t s must fst ((seen.add 6).add 44) with pc := 7 }) 0 == M.word { st1 t s must fst ((seen.add 6).add 44) with pc := 7 } 1) = true := hd
  rw [hd'] at e2
  have e2' : M.step { st1 t s must fst ((seen.add 6).add 44) with pc := 7 } = { st1 t s must fst (((seen.add 6).add 44).add 16) with pc := 9, pos := s + 1 } := e2
  have hne : ((s + 1 : Nat) == s) = false := by simp
  have e3 := (step_exec (m := { st1 t s must fst (((seen.add 6).add 44).add 16) with pc := 9, pos := s + 1 }) rfl rfl (by show 9 < c1.size; decide)).trans (exec_success (by rfl) (by
    show (fst && ((false && _) || (must && ((s + 1 : Nat) == s)))) = false
    rw [hne]; cases fst <;> cases must <;> rfl))
  refine ⟨_, Ends.step e0' (Ends.step e2' (Ends.step e3 (Ends.step (step_resume (f := { wait := .nextStart, pc := 5, pos := s, outermost := fst }) (r := []) rfl rfl rfl) (Ends.step (step_out (yes := true) rfl rfl rfl) (Ends.now rfl))))), rfl, rfl, rfl⟩
/-- the first place from s on that is a hit -/
def findFrom (hit : Nat → Bool) : Nat → Nat → Option Nat
  | 0, _ => none
  | n + 1, s => if hit s then some s else findFrom hit n (s + 1)
/-- what a search brings -/
def Brings (m' : M) (len : Nat → Nat) : Option Nat → Prop
  | some q => m'.outcome = some .matched ∧ m'.start = q ∧ m'.handed = q + len q
  | none => m'.outcome = some .failed
theorem run1 (t : Array Nat) : ∀ (n s : Nat) (must fst : Bool) (seen : Seen), s + n = t.size + 1 → 0 < n →
    ∃ m', Ends (3 * n + 6) (st1 t s must fst seen) m' ∧ Brings m' (fun _ => 1) (findFrom (hit1 t) n s)
  | 0, _, _, _, _, _, h0 => absurd h0 (Nat.lt_irrefl _)
  | n + 1, s, must, fst, seen, hn, _ => by
    unfold findFrom
    cases hh : hit1 t s with
    | true =>
      obtain ⟨m', he, h1, h2, h3⟩ := found1 (must := must) (fst := fst) (seen := seen) hh
      exact ⟨m', he.mono (by lia), by rw [if_pos rfl]; exact ⟨h1, h2, h3⟩⟩
    | false =>
      rw [if_neg Bool.false_ne_true]
      obtain ⟨seen', h, p, k⟩ := miss1 (must := must) (fst := fst) (seen := seen) hh
      by_cases hs : s < t.size
      · obtain ⟨m', he, hb⟩ := run1 t n (s + 1) false false seen' (by lia) (by lia)
        exact ⟨m', (k _ _ (Ends.step (no1_on hs) he)).mono (by lia), hb⟩
      · have hn0 : n = 0 := by lia
        subst hn0
        exact ⟨_, (k _ _ (Ends.step (no1_end hs) (Ends.step (step_out (yes := false) rfl rfl rfl) (Ends.now rfl)))).mono (by lia), rfl⟩
theorem search1 (t : Array Nat) (p : Nat) (must : Bool) (hp : p ≤ t.size) :
    ∃ m', Ends (3 * t.size + 20) (forSearch c1 t 0 p t.size must) m' ∧ Brings m' (fun _ => 1) (findFrom (hit1 t) (t.size - p) p) := by
  unfold forSearch
  have hh : header c1 = (1, 5) := rfl
  simp only [hh]
  by_cases hz : t.size - p < 1
  · have hc : (decide (p > t.size) || decide (t.size - p < 1)) = true := by simp [hz]
    rw [if_pos hc]
    have e : t.size - p = 0 := by lia
    rw [e]
    exact ⟨_, (Ends.step (step_out (yes := false) rfl rfl rfl) (Ends.now rfl)).mono (by lia), rfl⟩
  · have hc : ¬ (decide (p > t.size) || decide (t.size - p < 1)) = true := by simp; lia
    rw [if_neg hc]
    obtain ⟨m', he, hb⟩ := run1 t (t.size + 1 - p) p must true (({} : Seen).add 14) (by lia) (by lia)
    refine ⟨m', he.mono (by lia), ?_⟩
    -- no hit stands at the end itself
    have hl : ∀ n s, s + n = t.size → findFrom (hit1 t) (n + 1) s = findFrom (hit1 t) n s := by
      intro n
      induction n with
      | zero =>
        intro s hs
        unfold findFrom
        have : hit1 t s = false := by unfold hit1; simp; intro _ h; lia
        rw [this]; rfl
      | succ n ih =>
        intro s hs
        rw [findFrom, ih (s + 1) (by lia)]; rfl
    have e : t.size + 1 - p = (t.size - p) + 1 := by lia
    rw [e, hl _ _ (by lia)] at hb
    exact hb
end Mine
end
section
open PySem PySem.Sre
namespace Mine
/-! ### line ends -/
def c2 : Array Nat := #[14, 9, 4, 1, 2, 16, 10, 16, 13, 0, 7, 7, 16, 13, 16, 10, 15, 18, 5, 16, 10, 15, 13, 11, 16, 13, 5, 5, 0, 16, 10, 1, 15, 2, 0, 1]
def mk2 (t : Array Nat) (s pc pos handed : Nat) (outer : Bool) (frames : List Sre.Frame) (weight : Nat) (answer : Option Bool) (seen : Seen) : M :=
  { code := c2, text := t, lim := t.size, start := s, lastStart := t.size, wholeText := false, mustAdvance := false, pc := pc, pos := pos, handed := handed, outermost := outer,
    marks := #[], lastmark := -1, lastindex := -1, loops := #[], inner := none, frames := frames, weight := weight, answer := answer, seen := seen, outcome := none }
section
variable {t : Array Nat} {s pc pos handed weight : Nat} {outer : Bool} {frames : List Sre.Frame} {seen : Seen}
theorem lit_ok2 (hpc : pc < 36) (ho : ops[c2.getD pc 0]? = some .LITERAL) (hp : pos < t.size) (h : t.getD pos 0 = c2.getD (pc + 1) 0) :
    ∃ seen', (mk2 t s pc pos handed outer frames weight none seen).step = mk2 t s (pc + 2) (pos + 1) handed outer frames weight none seen' := by
  have e := (step_exec (m := mk2 t s pc pos handed outer frames weight none seen) rfl rfl (by show pc < c2.size; exact hpc)).trans (exec_lit ho hp)
  have h' : ((M.text (mk2 t s pc pos handed outer frames weight none seen)).getD (M.pos (mk2 t s pc pos handed outer frames weight none seen)) 0 == M.word (mk2 t s pc pos handed outer frames weight none seen) 1) = true := by
    show (t.getD pos 0 == c2.getD (pc + 1) 0) = true
    rw [h]; exact beq_self_eq_true _
  rw [h'] at e
  exact ⟨_, e⟩
theorem lit_no2 (hpc : pc < 36) (ho : ops[c2.getD pc 0]? = some .LITERAL) (h : pos < t.size → t.getD pos 0 ≠ c2.getD (pc + 1) 0) :
    ∃ seen', (mk2 t s pc pos handed outer frames weight none seen).step = mk2 t s pc pos handed outer frames weight (some false) seen' := by
  by_cases hp : pos < t.size
  · have e := (step_exec (m := mk2 t s pc pos handed outer frames weight none seen) rfl rfl (by show pc < c2.size; exact hpc)).trans (exec_lit ho hp)
    have h' : ((M.text (mk2 t s pc pos handed outer frames weight none seen)).getD (M.pos (mk2 t s pc pos handed outer frames weight none seen)) 0 == M.word (mk2 t s pc pos handed outer frames weight none seen) 1) = false := by
      show (t.getD pos 0 == c2.getD (pc + 1) 0) = false
      exact beq_eq_false_iff_ne.mpr (h hp)
    rw [h'] at e
    exact ⟨_, e⟩
  · exact ⟨_, (step_exec (m := mk2 t s pc pos handed outer frames weight none seen) rfl rfl (by show pc < c2.size; exact hpc)).trans (exec_lit_end ho (Nat.le_of_not_lt hp))⟩
theorem jump2 (hpc : pc < 36) (ho : ops[c2.getD pc 0]? = some .JUMP) :
    ∃ seen', (mk2 t s pc pos handed outer frames weight none seen).step = mk2 t s (pc + 1 + c2.getD (pc + 1) 0) pos handed outer frames weight none seen' :=
  ⟨_, (step_exec (m := mk2 t s pc pos handed outer frames weight none seen) rfl rfl (by show pc < c2.size; exact hpc)).trans (exec_jump ho)⟩
theorem success2 (hpc : pc < 36) (ho : ops[c2.getD pc 0]? = some .SUCCESS) :
    ∃ seen', (mk2 t s pc pos handed outer frames weight none seen).step = mk2 t s pc pos pos outer frames weight (some true) seen' :=
  ⟨_, (step_exec (m := mk2 t s pc pos handed outer frames weight none seen) rfl rfl (by show pc < c2.size; exact hpc)).trans (exec_success ho (by
    show (outer && ((false && _) || (false && _))) = false
    cases outer <;> rfl))⟩
theorem branch2 (hw : weight < 100) :
    ∃ seen', (mk2 t s 10 pos handed outer frames weight none seen).step = mk2 t s 12 pos pos outer ({ wait := .nextBranch, pc := 11, pos := pos, outermost := outer } :: frames) (weight + 1) none seen' := by
  refine ⟨seen.add 7, (step_exec (m := mk2 t s 10 pos handed outer frames weight none seen) rfl rfl (by show 10 < c2.size; decide)).trans ?_⟩
  have ho : ops[M.word (mk2 t s 10 pos handed outer frames weight none seen) 0]? = some .BRANCH := rfl
  unfold M.exec
  rw [ho]
  show M.alternative _ 11 _ = _
  unfold M.alternative
  show (if ((c2.getD 11 0 == 0) = true) then _ else _) = _
  rw [if_neg (by decide)]
  unfold M.attempt
  show (if weight + 1 + 0 > 16777216 then _ else _) = _
  rw [if_neg (by lia)]
  rfl
theorem notAhead2 (hw : weight < 100) :
    ∃ seen', (mk2 t s 26 pos handed outer frames weight none seen).step = mk2 t s 29 pos pos false ({ wait := .lookNot, pc := 26, pos := pos, outermost := outer } :: frames) (weight + 1) none seen' := by
  refine ⟨seen.add 5, (step_exec (m := mk2 t s 26 pos handed outer frames weight none seen) rfl rfl (by show 26 < c2.size; decide)).trans ?_⟩
  have ho : ops[M.word (mk2 t s 26 pos handed outer frames weight none seen) 0]? = some .ASSERT_NOT := rfl
  unfold M.exec
  rw [ho]
  show (if pos < 0 then _ else _) = _
  rw [if_neg (Nat.not_lt_zero _)]
  unfold M.attempt
  show (if weight + 1 + 0 > 16777216 then _ else _) = _
  rw [if_neg (by lia)]
  rfl
theorem backBranch2 {p pos' h' : Nat} {o o' : Bool} (hp : p = 11 ∨ p = 18) (hw : weight < 100) :
    (mk2 t s pc pos' h' o' ({ wait := .nextBranch, pc := p, pos := pos, outermost := o } :: frames) (weight + 1) (some false) seen).step =
      mk2 t s (p + c2.getD p 0 + 1) pos pos o ({ wait := .nextBranch, pc := p + c2.getD p 0, pos := pos, outermost := o } :: frames) (weight + 1) none seen := by
  rw [step_resume (f := { wait := .nextBranch, pc := p, pos := pos, outermost := o }) (r := frames) rfl rfl rfl]
  unfold M.resume M.alternative M.attempt
  rcases hp with rfl | rfl
  · show (if ((c2.getD 18 0 == 0) = true) then _ else if _ then _ else _) = _
    rw [if_neg (by decide)]
    show (if weight + 1 - (1 + 0) + 1 + 0 > 16777216 then _ else _) = _
    rw [if_neg (by lia)]
    show mk2 _ _ _ _ _ _ _ (weight + 1 - (1 + 0) + 1 + 0) _ _ = _
    rw [show weight + 1 - (1 + 0) + 1 + 0 = weight + 1 by lia]; rfl
  · show (if ((c2.getD 23 0 == 0) = true) then _ else if _ then _ else _) = _
    rw [if_neg (by decide)]
    show (if weight + 1 - (1 + 0) + 1 + 0 > 16777216 then _ else _) = _
    rw [if_neg (by lia)]
    show mk2 _ _ _ _ _ _ _ (weight + 1 - (1 + 0) + 1 + 0) _ _ = _
    rw [show weight + 1 - (1 + 0) + 1 + 0 = weight + 1 by lia]; rfl
theorem backNot2 {pos' h' : Nat} {o o' : Bool} :
    (mk2 t s pc pos' h' o' ({ wait := .lookNot, pc := 26, pos := pos, outermost := o } :: frames) (weight + 1) (some false) seen).step = mk2 t s 32 pos h' o frames weight none seen := by
  rw [step_resume (f := { wait := .lookNot, pc := 26, pos := pos, outermost := o }) (r := frames) rfl rfl rfl]
  rfl
theorem won2 {wt : Wait} {p pos' h' : Nat} {o o' : Bool} (hwt : wt = .nextBranch ∨ wt = .nextStart) :
    (mk2 t s pc pos' h' o' ({ wait := wt, pc := p, pos := pos, outermost := o } :: frames) (weight + 1) (some true) seen).step = mk2 t s p pos h' o frames weight (some true) seen := by
  rw [step_resume (f := { wait := wt, pc := p, pos := pos, outermost := o }) (r := frames) rfl rfl rfl]
  rcases hwt with rfl | rfl <;> rfl
end
def len2 (t : Array Nat) (p : Nat) : Nat := if t.getD p 0 = 13 ∧ p + 1 < t.size ∧ t.getD (p + 1) 0 = 10 then 2 else 1
def hit2 (t : Array Nat) (p : Nat) : Bool := decide (p < t.size) && (t.getD p 0 == 10 || t.getD p 0 == 13)
def fr2 (s : Nat) (fst : Bool) : Sre.Frame := { wait := .nextStart, pc := 10, pos := s, outermost := fst }
/-- from behind the branch's choice: the way home -/
theorem home2 {t : Array Nat} {s pc pos h : Nat} {fst : Bool} {p : Nat} {seen : Seen} (hpc : pc < 36) (ho : ops[c2.getD pc 0]? = some .JUMP) (hj : pc + 1 + c2.getD (pc + 1) 0 = 35) :
    ∃ m', Ends 5 (mk2 t s pc pos h fst [{ wait := .nextBranch, pc := p, pos := s, outermost := fst }, fr2 s fst] 2 none seen) m' ∧ m'.outcome = some .matched ∧ m'.start = s ∧ m'.handed = pos := by
  obtain ⟨s1, e1⟩ := jump2 (t := t) (s := s) (pos := pos) (handed := h) (outer := fst) (frames := [{ wait := .nextBranch, pc := p, pos := s, outermost := fst }, fr2 s fst]) (weight := 2) (seen := seen) hpc ho
  rw [hj] at e1
  obtain ⟨s2, e2⟩ := success2 (t := t) (s := s) (pc := 35) (pos := pos) (handed := h) (outer := fst) (frames := [{ wait := .nextBranch, pc := p, pos := s, outermost := fst }, fr2 s fst]) (weight := 2) (seen := s1) (by decide) rfl
  exact ⟨_, Ends.step e1 (Ends.step e2 (Ends.step (won2 (.inl rfl)) (Ends.step (won2 (.inr rfl)) (Ends.step (step_out (yes := true) rfl rfl rfl) (Ends.now rfl))))), rfl, rfl, rfl⟩
theorem found2 {t : Array Nat} {s : Nat} {fst : Bool} {seen : Seen} {h : Nat} (hh : hit2 t s = true) :
    ∃ m', Ends 20 (mk2 t s 10 s h fst [fr2 s fst] 1 none seen) m' ∧ m'.outcome = some .matched ∧ m'.start = s ∧ m'.handed = s + len2 t s := by
  unfold hit2 at hh
  simp only [Bool.and_eq_true, decide_eq_true_eq, Bool.or_eq_true, beq_iff_eq] at hh
  obtain ⟨hs, hc⟩ := hh
  obtain ⟨s1, e1⟩ := branch2 (t := t) (s := s) (pos := s) (handed := h) (outer := fst) (frames := [fr2 s fst]) (weight := 1) (seen := seen) (by decide)
  by_cases hr : t.getD s 0 = 13
  · obtain ⟨s2, e2⟩ := lit_ok2 (t := t) (s := s) (pc := 12) (pos := s) (handed := s) (outer := fst) (frames := { wait := .nextBranch, pc := 11, pos := s, outermost := fst } :: [fr2 s fst]) (weight := 2) (seen := s1) (by decide) rfl hs hr
    by_cases hn : s + 1 < t.size ∧ t.getD (s + 1) 0 = 10
    · obtain ⟨s3, e3⟩ := lit_ok2 (t := t) (s := s) (pc := 14) (pos := s + 1) (handed := s) (outer := fst) (frames := { wait := .nextBranch, pc := 11, pos := s, outermost := fst } :: [fr2 s fst]) (weight := 2) (seen := s2) (by decide) rfl hn.1 hn.2
      obtain ⟨m', he, h1, h2, h3⟩ := home2 (t := t) (s := s) (pc := 16) (pos := s + 1 + 1) (h := s) (fst := fst) (p := 11) (seen := s3) (by decide) rfl rfl
      exact ⟨m', (Ends.step e1 (Ends.step e2 (Ends.step e3 he))).mono (by decide), h1, h2, by rw [h3]; unfold len2; rw [if_pos ⟨hr, hn⟩]⟩
    · obtain ⟨s3, e3⟩ := lit_no2 (t := t) (s := s) (pc := 14) (pos := s + 1) (handed := s) (outer := fst) (frames := { wait := .nextBranch, pc := 11, pos := s, outermost := fst } :: [fr2 s fst]) (weight := 2) (seen := s2) (by decide) rfl (fun h1 h2 => hn ⟨h1, h2⟩)
      have e4 := backBranch2 (t := t) (s := s) (pc := 14) (pos := s) (frames := [fr2 s fst]) (weight := 1) (seen := s3) (p := 11) (pos' := s + 1) (h' := s) (o := fst) (o' := fst) (.inl rfl) (by decide)
      obtain ⟨s5, e5⟩ := lit_no2 (t := t) (s := s) (pc := 19) (pos := s) (handed := s) (outer := fst) (frames := { wait := .nextBranch, pc := 18, pos := s, outermost := fst } :: [fr2 s fst]) (weight := 2) (seen := s3) (by decide) rfl (fun _ => by rw [hr]; decide)
      have e6 := backBranch2 (t := t) (s := s) (pc := 19) (pos := s) (frames := [fr2 s fst]) (weight := 1) (seen := s5) (p := 18) (pos' := s) (h' := s) (o := fst) (o' := fst) (.inr rfl) (by decide)
      obtain ⟨s7, e7⟩ := lit_ok2 (t := t) (s := s) (pc := 24) (pos := s) (handed := s) (outer := fst) (frames := { wait := .nextBranch, pc := 23, pos := s, outermost := fst } :: [fr2 s fst]) (weight := 2) (seen := s5) (by decide) rfl hs hr
      obtain ⟨s8, e8⟩ := notAhead2 (t := t) (s := s) (pos := s + 1) (handed := s) (outer := fst) (frames := { wait := .nextBranch, pc := 23, pos := s, outermost := fst } :: [fr2 s fst]) (weight := 2) (seen := s7) (by decide)
      obtain ⟨s9, e9⟩ := lit_no2 (t := t) (s := s) (pc := 29) (pos := s + 1) (handed := s + 1) (outer := false) (frames := { wait := .lookNot, pc := 26, pos := s + 1, outermost := fst } :: { wait := .nextBranch, pc := 23, pos := s, outermost := fst } :: [fr2 s fst]) (weight := 3) (seen := s8) (by decide) rfl (fun h1 h2 => hn ⟨h1, h2⟩)
      have e10 := backNot2 (t := t) (s := s) (pc := 29) (pos := s + 1) (weight := 2) (frames := { wait := .nextBranch, pc := 23, pos := s, outermost := fst } :: [fr2 s fst]) (seen := s9) (pos' := s + 1) (h' := s + 1) (o := fst) (o' := false)
      obtain ⟨m', he, h1, h2, h3⟩ := home2 (t := t) (s := s) (pc := 32) (pos := s + 1) (h := s + 1) (fst := fst) (p := 23) (seen := s9) (by decide) rfl rfl
      exact ⟨m', (Ends.step e1 (Ends.step e2 (Ends.step e3 (Ends.step e4 (Ends.step e5 (Ends.step e6 (Ends.step e7 (Ends.step e8 (Ends.step e9 (Ends.step e10 he)))))))))).mono (by decide), h1, h2,
        by rw [h3]; unfold len2; rw [if_neg (fun q => hn q.2)]⟩
  · have hl : t.getD s 0 = 10 := hc.resolve_right hr
    obtain ⟨s2, e2⟩ := lit_no2 (t := t) (s := s) (pc := 12) (pos := s) (handed := s) (outer := fst) (frames := { wait := .nextBranch, pc := 11, pos := s, outermost := fst } :: [fr2 s fst]) (weight := 2) (seen := s1) (by decide) rfl (fun _ => hr)
    have e4 := backBranch2 (t := t) (s := s) (pc := 12) (pos := s) (frames := [fr2 s fst]) (weight := 1) (seen := s2) (p := 11) (pos' := s) (h' := s) (o := fst) (o' := fst) (.inl rfl) (by decide)
    obtain ⟨s5, e5⟩ := lit_ok2 (t := t) (s := s) (pc := 19) (pos := s) (handed := s) (outer := fst) (frames := { wait := .nextBranch, pc := 18, pos := s, outermost := fst } :: [fr2 s fst]) (weight := 2) (seen := s2) (by decide) rfl hs hl
    obtain ⟨m', he, h1, h2, h3⟩ := home2 (t := t) (s := s) (pc := 21) (pos := s + 1) (h := s) (fst := fst) (p := 18) (seen := s5) (by decide) rfl rfl
    exact ⟨m', (Ends.step e1 (Ends.step e2 (Ends.step e4 (Ends.step e5 he)))).mono (by decide), h1, h2, by rw [h3]; unfold len2; rw [if_neg (fun q => hr q.1)]⟩
theorem inSet2 (c : Nat) (seen : Seen) : ∃ seen', inSet c2 c c2.size 5 true seen = .ok (c == 10 || c == 13, seen') := by
  show ∃ seen', inSet c2 c (33 + 1 + 1 + 1) 5 true seen = _
  have o5 : ops[c2.getD (5 + 0) 0]? = some .LITERAL := rfl
  have o7 : ops[c2.getD (5 + 2 + 0) 0]? = some .LITERAL := rfl
  have o9 : ops[c2.getD (5 + 2 + 2 + 0) 0]? = some .FAILURE := rfl
  have w6 : c2.getD (5 + 1) 0 = 10 := rfl
  have w8 : c2.getD (5 + 2 + 1) 0 = 13 := rfl
  unfold inSet
  simp only [o5, w6]
  by_cases h1 : (c == 10) = true
  · rw [if_pos h1, h1]; exact ⟨_, rfl⟩
  · have h1' : (c == 10) = false := by cases h : (c == 10) <;> simp_all
    rw [if_neg h1, h1']
    unfold inSet
    simp only [o7, w8]
    by_cases h2 : (c == 13) = true
    · rw [if_pos h2, h2]; exact ⟨_, rfl⟩
    · have h2' : (c == 13) = false := by cases h : (c == 13) <;> simp_all
      rw [if_neg h2, h2']
      unfold inSet
      simp only [o9]
      exact ⟨_, rfl⟩
theorem admitted2 {m : M} {t : Array Nat} (hc : m.code = c2) (ht : m.text = t) (hl : m.lim = t.size) : ∀ (n s : Nat) (seen : Seen), s + n = t.size + 1 →
    ∃ seen', M.admitted m n s seen = .ok (findFrom (hit2 t) n s, seen')
  | 0, s, seen, _ => ⟨seen, rfl⟩
  | n + 1, s, seen, hn => by
    unfold M.admitted findFrom
    rw [hl, hc, ht]
    by_cases hs : s ≥ t.size
    · rw [if_pos hs]
      have h0 : hit2 t s = false := by unfold hit2; rw [decide_eq_false (by lia)]; rfl
      have hn0 : n = 0 := by lia
      subst hn0
      rw [h0]
      exact ⟨seen, rfl⟩
    · rw [if_neg hs]
      obtain ⟨seen', e⟩ := inSet2 (t.getD s 0) seen
      rw [e]
      have h0 : hit2 t s = (t.getD s 0 == 10 || t.getD s 0 == 13) := by unfold hit2; rw [decide_eq_true (by lia)]; rfl
      rw [← h0]
      cases hit2 t s with
      | true => exact ⟨seen', rfl⟩
      | false => exact admitted2 hc ht hl n (s + 1) seen' (by lia)
def fresh2 (t : Array Nat) (p : Nat) (must : Bool) : M :=
  { code := c2, text := t, lim := t.size, start := p, pc := 10, pos := p, handed := p, marks := Array.replicate (2 * 0) none, mustAdvance := must, seen := ({} : Seen).add 14, lastStart := t.size }
theorem search2 (t : Array Nat) (p : Nat) (must : Bool) (hp : p ≤ t.size) :
    ∃ m', Ends 40 (forSearch c2 t 0 p t.size must) m' ∧ Brings m' (len2 t) (findFrom (hit2 t) (t.size - p) p) := by
  unfold forSearch
  have hh : header c2 = (1, 10) := rfl
  simp only [hh]
  by_cases hz : t.size - p < 1
  · have hc : (decide (p > t.size) || decide (t.size - p < 1)) = true := by simp [hz]
    rw [if_pos hc]
    have e : t.size - p = 0 := by lia
    rw [e]
    exact ⟨_, (Ends.step (step_out (yes := false) rfl rfl rfl) (Ends.now rfl)).mono (by lia), rfl⟩
  · have hc : ¬ (decide (p > t.size) || decide (t.size - p < 1)) = true := by simp; lia
    rw [if_neg hc]
    have hl : ∀ n s, s + n = t.size → findFrom (hit2 t) (n + 1) s = findFrom (hit2 t) n s := by
      intro n
      induction n with
      | zero =>
        intro s hs
        unfold findFrom
        have : hit2 t s = false := by unfold hit2; rw [decide_eq_false (by lia)]; rfl
        rw [this]; rfl
      | succ n ih =>
        intro s hs
        rw [findFrom, ih (s + 1) (by lia)]; rfl
    have e : t.size + 1 - p = (t.size - p) + 1 := by lia
    have hfound : ∀ n s q, findFrom (hit2 t) n s = some q → hit2 t q = true := by
      intro n
      induction n with
      | zero => intro s q h; cases h
      | succ n ih =>
        intro s q h
        unfold findFrom at h
        cases h0 : hit2 t s with
        | true => rw [h0] at h; cases h; exact h0
        | false => rw [h0] at h; exact ih _ _ h
    show ∃ m', Ends 40 (M.attemptFrom (fresh2 t p must) p true) m' ∧ _
    have hf : (!(fresh2 t p must).hasFirstSet) = false := rfl
    unfold M.attemptFrom
    rw [hf, if_neg Bool.false_ne_true]
    show ∃ m', Ends 40 (match M.admitted (fresh2 t p must) (t.size + 1 - p) p (fresh2 t p must).seen with | .ok (some s, seen) => _ | .ok (none, seen) => _ | .error why => _) m' ∧ _
    obtain ⟨seen', ha⟩ := admitted2 (m := fresh2 t p must) (t := t) rfl rfl rfl (t.size + 1 - p) p (fresh2 t p must).seen (by lia)
    rw [ha, e, hl _ _ (by lia)]
    cases hq : findFrom (hit2 t) (t.size - p) p with
    | none => exact ⟨_, (Ends.step (step_out (yes := false) rfl rfl rfl) (Ends.now rfl)).mono (by lia), rfl⟩
    | some q =>
      obtain ⟨m', he, h1, h2, h3⟩ := found2 (t := t) (s := q) (fst := true) (seen := seen') (h := q) (hfound _ _ _ hq)
      exact ⟨m', he.mono (by lia), h1, h2, h3⟩
end Mine
end
section
open PySem PySem.Sre PySem.Builtin PySem.Builtin.Re PySem.W PyProof.Rows PySem.Calls
set_option Elab.async false
namespace Mine
/-! ## the sub of a pattern, over the ledger -/
section
variable {prog : Program} {w : World} {A : Around} {E : Value → Shared → Prop} {s : Shared}
theorem wp_drive {m' : M} {Q : M → Shared → Prop} (hq : Q m' s) : ∀ (turns n : Nat) (m : M), Ends n m m' → n < 4 * turns → wpAny (model prog w) A (reDrive turns m) Q E s
  | 0, n, m, _, h0 => absurd h0 (by lia)
  | turns + 1, n, m, he, hn => by
    unfold reDrive
    show wpAny (model prog w) A (if (M.runFor reTurnSteps m).outcome.isSome = true then pure (M.runFor reTurnSteps m) else (do rule "sre.turn"; reDrive turns (M.runFor reTurnSteps m))) Q E s
    by_cases ho : (M.runFor reTurnSteps m).outcome.isSome = true
    · rw [if_pos ho]
      obtain ⟨k, hk, hr, hs⟩ := he
      have e : M.runFor reTurnSteps m = m' := by
        rcases Nat.le_total k 4 with h4 | h4
        · exact (Ends.at ⟨k, Nat.le_refl _, hr, hs⟩ h4).1
        · have e2 : k = 4 + (k - 4) := by lia
          rw [e2, runFor_add] at hr
          rw [← hr]
          exact (runFor_done _ ho _).symm
      rw [e]
      exact wpAny_pure hq
    · rw [if_neg ho]
      refine wpAny_bind (wpAny_rule ?_)
      obtain ⟨k, hk, hr, hs⟩ := he
      have h4 : 4 ≤ k := by
        apply Nat.le_of_not_lt
        intro h4
        have := (Ends.at ⟨k, Nat.le_refl _, hr, hs⟩ (Nat.le_of_lt h4)).1
        exact ho (by show (M.runFor 4 m).outcome.isSome = true; rw [this]; exact hs)
      refine wp_drive hq turns (k - 4) _ ⟨k - 4, Nat.le_refl _, ?_, hs⟩ (by lia)
      have e2 : k = 4 + (k - 4) := by lia
      rw [e2, runFor_add] at hr
      exact hr
theorem wp_rules {f : Nat → Bool} {g : Nat → String} {Q : PUnit → Shared → Prop} (hq : Q ⟨⟩ s) : ∀ l : List Nat,
    wpAny (model prog w) A (forIn l PUnit.unit fun i _ => if f i = true then (do rule (g i); pure (ForInStep.yield PUnit.unit)) else pure (ForInStep.yield PUnit.unit)) Q E s
  | [] => by rw [List.forIn_nil]; exact wpAny_pure hq
  | i :: r => by
    rw [List.forIn_cons]
    refine wpAny_bind ?_
    by_cases h : f i = true
    · rw [if_pos h]; exact wpAny_bind (wpAny_rule (wpAny_pure (wp_rules hq r)))
    · rw [if_neg h]; exact wpAny_pure (wp_rules hq r)
theorem wp_runToEnd {n : Nat} {m m' : M} {Q : Option M → Shared → Prop} (he : Ends n m m') (hn : n < 2 ^ 60) (ho : m'.outcome = some .matched ∧ Q (some m') s ∨ m'.outcome = some .failed ∧ Q none s) :
    wpAny (model prog w) A (reRunToEnd m) Q E s := by
  unfold reRunToEnd
  have h60 : (2 : Nat) ^ 60 = 1152921504606846976 := by decide
  have h64 : (2 : Nat) ^ 64 = 18446744073709551616 := by decide
  refine wpAny_bind (wp_drive (m' := m') ?_ (2 ^ 64) n m he (by rw [h60] at hn; rw [h64]; lia))
  refine wpAny_bind (wp_rules ?_ _)
  rcases ho with ⟨h1, h2⟩ | ⟨h1, h2⟩
  · rw [h1]; exact wpAny_pure h2
  · rw [h1]; exact wpAny_pure h2
/-- the text that stands behind place p, each hit replaced -/
def resFrom (t : Array Nat) (hit : Nat → Bool) (len : Nat → Nat) (rep : List Nat) : Nat → Nat → List Nat
  | 0, _ => []
  | n + 1, p => if p < t.size then (if hit p then rep ++ resFrom t hit len rep n (p + len p) else t.getD p 0 :: resFrom t hit len rep n (p + 1)) else []
def resAt (t : Array Nat) (hit : Nat → Bool) (len : Nat → Nat) (rep : List Nat) (p : Nat) : List Nat := resFrom t hit len rep (t.size - p) p
/-- a hit lies within the text and moves on -/
def HitsIn (t : Array Nat) (hit : Nat → Bool) (len : Nat → Nat) : Prop := ∀ q, hit q = true → q < t.size ∧ 1 ≤ len q ∧ q + len q ≤ t.size
section
variable {t : Array Nat} {hit : Nat → Bool} {len : Nat → Nat} {rep : List Nat}
theorem resFrom_fuel (H : HitsIn t hit len) : ∀ (n n' p : Nat), t.size - p ≤ n → t.size - p ≤ n' → resFrom t hit len rep n p = resFrom t hit len rep n' p
  | 0, n', p, h, _ => by
    cases n' with
    | zero => rfl
    | succ n' => unfold resFrom; rw [if_neg (by lia)]
  | n + 1, n', p, h, h' => by
    cases n' with
    | zero => unfold resFrom; rw [if_neg (by lia)]
    | succ n' =>
      unfold resFrom
      by_cases hp : p < t.size
      · rw [if_pos hp, if_pos hp]
        cases hh : hit p with
        | true =>
          have z := H p hh
          rw [if_pos rfl, if_pos rfl, resFrom_fuel H n n' _ (by lia) (by lia)]
        | false => rw [if_neg Bool.false_ne_true, if_neg Bool.false_ne_true, resFrom_fuel H n n' _ (by lia) (by lia)]
      · rw [if_neg hp, if_neg hp]
theorem resAt_hit (H : HitsIn t hit len) {p : Nat} (h : hit p = true) : resAt t hit len rep p = rep ++ resAt t hit len rep (p + len p) := by
  have z := H p h
  unfold resAt
  obtain ⟨n, hn⟩ : ∃ n, t.size - p = n + 1 := ⟨t.size - p - 1, by lia⟩
  rw [hn]
  show (if p < t.size then (if hit p = true then _ else _) else _) = _
  rw [if_pos z.1, if_pos h, resFrom_fuel H n (t.size - (p + len p)) _ (by lia) (by lia)]
theorem resAt_miss (H : HitsIn t hit len) {p : Nat} (hp : p < t.size) (h : hit p = false) : resAt t hit len rep p = t.getD p 0 :: resAt t hit len rep (p + 1) := by
  unfold resAt
  obtain ⟨n, hn⟩ : ∃ n, t.size - p = n + 1 := ⟨t.size - p - 1, by lia⟩
  rw [hn]
  show (if p < t.size then (if hit p = true then _ else _) else _) = _
  rw [if_pos hp, h, if_neg Bool.false_ne_true, resFrom_fuel H n (t.size - (p + 1)) _ (by lia) (by lia)]
theorem resAt_end {p : Nat} (hp : t.size ≤ p) : resAt t hit len rep p = [] := by
  unfold resAt
  rw [Nat.sub_eq_zero_of_le hp]; rfl
theorem extract_cons {p q : Nat} (h1 : p < q) (h2 : q ≤ t.size) : (t.extract p q).toList = t.getD p 0 :: (t.extract (p + 1) q).toList := by
  have hp : p < t.size := by lia
  have hp' : p < t.toList.length := by simpa using hp
  rw [Array.toList_extract, Array.toList_extract, List.extract_eq_take_drop, List.extract_eq_take_drop, List.drop_eq_getElem_cons hp']
  have e : q - p = (q - (p + 1)) + 1 := by lia
  rw [e, List.take_succ_cons]
  congr 1
  simp [hp]
theorem resAt_find (H : HitsIn t hit len) : ∀ (n p : Nat), p + n = t.size → resAt t hit len rep p = match findFrom hit n p with
    | some q => (t.extract p q).toList ++ rep ++ resAt t hit len rep (q + len q)
    | none => (t.extract p t.size).toList
  | 0, p, hp => by
    rw [resAt_end (by lia)]
    show [] = (t.extract p t.size).toList
    rw [Array.toList_extract, List.extract_eq_take_drop, List.drop_of_length_le (by simp; lia), List.take_nil]
  | n + 1, p, hp => by
    unfold findFrom
    cases hh : hit p with
    | true =>
      rw [if_pos rfl, resAt_hit H hh]
      simp
    | false =>
      rw [if_neg Bool.false_ne_true, resAt_miss H (by lia) hh, resAt_find H n (p + 1) (by lia)]
      have bound : ∀ m s q, s + m ≤ t.size → findFrom hit m s = some q → s ≤ q ∧ q < t.size := by
        intro m
        induction m with
        | zero => intro s q _ e; cases e
        | succ m ih =>
          intro s q hs e
          unfold findFrom at e
          cases h0 : hit s with
          | true => rw [h0] at e; cases e; lia
          | false =>
            rw [h0] at e
            have := ih (s + 1) q (by lia) e
            lia
      cases hf : findFrom hit n (p + 1) with
      | none =>
        show _ :: (t.extract (p + 1) t.size).toList = (t.extract p t.size).toList
        exact (extract_cons (by lia) (Nat.le_refl _)).symm
      | some q =>
        have := bound n (p + 1) q (by lia) hf
        show _ :: (_ ++ _ ++ _) = _ ++ _ ++ _
        rw [extract_cons (p := p) (q := q) (by lia) (by lia)]
        rfl
end
def catS (l : List Str) : List Nat := l.flatMap fun x => x.cps.toList
theorem glued_empty (l : List Str) : Builtin.Str.glued ⟨#[]⟩ l = ⟨(catS l).toArray⟩ := by
  have key : ∀ (r : List Str) (acc : Array Nat), r.foldl (fun acc p => acc ++ (#[] : Array Nat) ++ p.cps) acc = acc ++ (catS r).toArray := by
    intro r
    induction r with
    | nil => intro acc; simp [catS]
    | cons x r ih =>
      intro acc
      rw [List.foldl_cons, ih]
      apply Array.ext'
      simp [catS]
  unfold Builtin.Str.glued
  cases l with
  | nil => rfl
  | cons x r =>
    show Str.mk (r.foldl _ x.cps) = _
    rw [key]
    apply congrArg
    apply Array.ext'
    simp [catS]
theorem reSlice_len (t : Array Nat) (a b : Nat) : (Str.mk (t.extract a b)).length ≤ t.size := by
  show (t.extract a b).size ≤ t.size
  rw [Array.size_extract]; lia
theorem wp_slice {t : Array Nat} {a b : Nat} {Q : Value → Shared → Prop} (ht : t.size ≤ 16777216) (h : Q (.str ⟨t.extract a b⟩ s.toks) { s with toks := s.toks + 1 }) : wpAny (model prog w) A (reSlice t 0 a b) Q E s := by
  show wpAny (model prog w) A (mkStr ⟨t.extract a b⟩) Q E s
  refine wpAny_mkStr h ?_
  have := reSlice_len t a b
  show (Str.mk (t.extract a b)).length ≤ 2 ^ 24
  have e : (2 : Nat) ^ 24 = 16777216 := by decide
  lia
end
theorem entry_re_sub : entryFor table "re.Pattern.sub" = some Builtin.«re.Pattern.sub» := entryFor_of_fast (by kernel_rfl)
theorem entry_re_sub_loop : entryFor table "re.Pattern.sub.loop" = some Builtin.«re.Pattern.sub.loop» := entryFor_of_fast (by kernel_rfl)
theorem slot_re_sub : Slot "re.Pattern" "sub" "re.Pattern.sub" :=
  .of (owner := "re.Pattern") (n := "sub") (by rw [typeLookup_type, builtinLookup_eq_fast]; kernel_rfl) (by decide +kernel) (by decide +kernel) (by decide +kernel)
    (by first | exact .inl (by decide +kernel) | exact .inr (by decide +kernel)) (by rw [isSubtype_type]; kernel_rfl)
theorem args_re_sub (a b c : Value) : argsOk "re.Pattern.sub" ⟨[a, b, c], []⟩ := by unfold argsOk; kernel_rfl
theorem type_re_sub : typeOf (.builtin "re.Pattern.sub") = pure (.type "method_descriptor") := by show builtinType _ = _; rw [builtinType_eq_fast]; kernel_rfl
theorem plain_re_sub_loop : plainId "re.Pattern.sub.loop" = true := by decide +kernel
/-- a pattern over texts, without groups, its code laid aside -/
structure PatAt (h : Heap) (P C : Addr) (code : Array Nat) (groups : Nat) : Prop where
  pat : ∃ src st fl ft, h.get? P = some { cls := .type "re.Pattern", data := .fields #[.str src st, .int fl ft, .int groups 0, .none, .none, .ref C, .int 0 0] }
  code : ∃ items n, h.get? C = some { cls := .type "tuple", data := .seq items n } ∧ (items.map reRawOf).map (·.toNat) = code
theorem PatAt.keeps {h h' : Heap} {P C : Addr} {code : Array Nat} {groups : Nat} (x : PatAt h P C code groups) (k : ∀ b o, h.get? b = some o → h'.get? b = some o) : PatAt h' P C code groups :=
  ⟨let ⟨a, b, c, d, e⟩ := x.pat; ⟨a, b, c, d, k _ _ e⟩, let ⟨a, b, c, d⟩ := x.code; ⟨a, b, k _ _ c, d⟩⟩
section
variable {prog : Program} {w : World} {A : Around} {E : Value → Shared → Prop} {s : Shared}
theorem wp_whole {P C : Addr} {code : Array Nat} {groups : Nat} {x : Str} {t : Tok} {Q : ReTarget → Shared → Prop} (hp : PatAt s.heap P C code groups)
    (h : Q { pattern := .ref P, string := .str x t, code := code, text := x.cps, kind := 0, groups := groups, pos := 0, lim := x.cps.size } s) : wpAny (model prog w) A (reWholeTarget (.ref P) (.str x t)) Q E s := by
  obtain ⟨⟨src, st, fl, ft, e1⟩, items, n, e2, e3⟩ := hp
  unfold reWholeTarget
  refine wpAny_bind (wpAny_fieldsOf e1 rfl ?_)
  refine wpAny_bind (m := reTextOf (.str x t)) (wpAny_pure ?_)
  show wpAny (model prog w) A (reRawItems (.ref C) >>= fun is => pure { pattern := .ref P, string := .str x t, code := is.map (·.toNat), text := x.cps, kind := 0, groups := ((groups : Int)).toNat, pos := 0, lim := x.cps.size }) Q E s
  unfold reRawItems
  refine wpAny_bind (wpAny_bind (wpAny_seqItems e2 rfl (wpAny_pure ?_)))
  refine wpAny_pure ?_
  show Q { pattern := .ref P, string := .str x t, code := (items.map reRawOf).map (·.toNat), text := x.cps, kind := 0, groups := ((groups : Int)).toNat, pos := 0, lim := x.cps.size } s
  rw [e3]
  exact h

variable {h₀ : Heap} {L : Addr} {m : Str → Option Value} {news : List (Addr × Obj)}
/-- one more item at the end of a list of the ledger's head -/
theorem wp_push {p : Addr} {vs : List Value} {n : Nat} {v : Value} {Q : Unit → Shared → Prop} (F : Fr h₀ L s.heap m) (N : News h₀ L s.heap ((p, listOf vs.toArray n) :: news)) (hne : ∀ q ∈ news, q.1 ≠ p) (hz : vs.length ≤ 1000000)
    (h : ∀ h', Fr h₀ L h' m → News h₀ L h' ((p, listOf (vs ++ [v]).toArray (n + 1)) :: news) → Q () { s with heap := h' }) : wpAny (model prog w) A (updateSeq p (·.push v)) Q E s := by
  have z := N (p, listOf vs.toArray n) (.head _)
  refine wpAny_updateSeq z.1 rfl ?_ (by rw [List.size_toArray, sizeLine_eq]; lia) (by rw [Array.size_push, List.size_toArray, sizeLine_eq]; lia)
  have hs : Heap.SameBut p s.heap (s.heap.update p (Obj.mapSeq (·.push v))) := Heap.SameBut.update ..
  have ge : (s.heap.update p (Obj.mapSeq (·.push v))).get? p = some (listOf (vs ++ [v]).toArray (n + 1)) := by
    have e : Obj.mapSeq (·.push v) (listOf vs.toArray n) = listOf (vs ++ [v]).toArray (n + 1) := by
      show (⟨.type "list", none, .seq (vs.toArray.push v) (if (vs.toArray.push v).size == vs.toArray.size then n else n + 1), #[]⟩ : Obj) = _
      have : ((vs.toArray.push v).size == vs.toArray.size) = false := by simp
      rw [this]
      simp
    rw [← e]
    exact Heap.get?_update_self _ z.1 rfl
  exact h _ (F.change hs z.2.1 z.2.2) (news_set (pre := []) N (fun _ h => nomatch h) hne hs ge)
theorem listOf_isList {h : Heap} {p : Addr} {vs : List Value} {n : Nat} (e : h.get? p = some (listOf vs.toArray n)) : h.IsList p vs.toArray := ⟨_, e, rfl, n, rfl⟩
abbrev targetOf (P : Addr) (code : Array Nat) (x : Str) (tx : Tok) (groups : Nat) : ReTarget := { pattern := .ref P, string := .str x tx, code := code, text := x.cps, kind := 0, groups := groups, pos := 0, lim := x.cps.size }
/-- the tail of the loop, behind a found place -/
def subOn (P p : Addr) (x rep : Str) (tx tr : Tok) (cnt : Int) (mm : M) : Sem PySem.Fin := do
  updateSeq p (·.push (.str rep tr))
  again (.builtin "re.Pattern.sub.loop" ⟨[.ref P, .str x tx, .str rep tr, rawInt 0, rawInt 0, rawInt (cnt + 1), rawInt mm.handed, rawInt mm.handed, .bool (mm.handed == mm.start), .ref p, .bool false], []⟩)
def subEnd (p : Addr) (x : Str) : Sem PySem.Fin := do
  let joiner ← reSlice x.cps 0 0 0
  let its ← seqItems? (.ref p)
  if (its.getD #[]).isEmpty = true then ret joiner else do
    let text ← call (.builtin "str.join") [joiner, .ref p]
    ret text
theorem findFrom_in {hit : Nat → Bool} : ∀ (n s q : Nat), findFrom hit n s = some q → s ≤ q ∧ q < s + n ∧ hit q = true
  | 0, s, q, e => by cases e
  | n + 1, s, q, e => by
    unfold findFrom at e
    cases h0 : hit s with
    | true => rw [h0] at e; cases e; exact ⟨Nat.le_refl _, by lia, h0⟩
    | false =>
      rw [h0] at e
      have := findFrom_in n (s + 1) q e
      exact ⟨by lia, by lia, this.2.2⟩
theorem subEnd_wp {p : Addr} {x : Str} {vs : List Value} {pcs : List Str} {n : Nat} {Q : Value → Shared → Prop} {R : PySem.Fin → Shared → Prop} (hx : x.cps.size ≤ 100000) (F : Fr h₀ L s.heap m) (N : News h₀ L s.heap ((p, listOf vs.toArray n) :: news)) (hs : StrsAre vs pcs)
    (hl1 : pcs.length ≤ 1000000) (hl2 : (pcs.map (·.length)).sum ≤ 1000000)
    (hR : ∀ v s', Q v s' → R (.done (.ret v)) s')
    (hQ : ∀ t' h' tk', Fr h₀ L h' m → News h₀ L h' news → Q (.str ⟨(catS pcs).toArray⟩ t') { s with heap := h', toks := tk' }) : wpAny (model prog w) A (subEnd p x) R E s := by
  have z := N (p, listOf vs.toArray n) (.head _)
  unfold subEnd
  refine wpAny_bind (wp_slice (by lia) ?_)
  refine wpAny_bind (wpAny_seqItems (s := { s with toks := s.toks + 1 }) z.1 rfl ?_)
  have e0 : (Str.mk (x.cps.extract 0 0)) = ⟨#[]⟩ := by
    apply congrArg
    apply Array.ext'
    simp
  have N' : News h₀ L s.heap news := fun q hq => N q (.tail _ hq)
  rw [e0]
  show wpAny (model prog w) A (if vs.toArray.isEmpty = true then _ else _) R E _
  by_cases hv : vs.toArray.isEmpty = true
  · rw [if_pos hv]
    have : vs = [] := by simpa using hv
    subst this
    cases hs
    exact wpAny_pure (hR _ _ (hQ s.toks s.heap _ F N'))
  · rw [if_neg hv]
    refine wpAny_bind (join_list (s := { s with toks := s.toks + 1 }) (listOf_isList z.1) hs ?_ fun t' k => ?_)
    · show _ + _ * 0 ≤ _; lia
    · have e1 : Txt.join ⟨#[]⟩ pcs = ⟨(catS pcs).toArray⟩ := glued_empty pcs
      rw [e1]
      exact wpAny_pure (hR _ _ (hQ t' s.heap k F N'))
theorem catS_snoc (l : List Str) (x : Str) : catS (l ++ [x]) = catS l ++ x.cps.toList := by simp [catS]
theorem sum_snoc (l : List Str) (x : Str) : ((l ++ [x]).map (·.length)).sum = (l.map (·.length)).sum + x.cps.size := by
  rw [List.map_append, List.sum_append]; simp [Str.length]
theorem strs_snoc {vs : List Value} {pcs : List Str} (h : StrsAre vs pcs) (x : Str) (t : Tok) : StrsAre (vs ++ [.str x t]) (pcs ++ [x]) := h.append' (.cons x t .nil)
theorem sub_loop {P C p : Addr} {code : Array Nat} {x rep : Str} {tx tr : Tok} {hit : Nat → Bool} {len : Nat → Nat} {Q : Value → Shared → Prop}
    (H : HitsIn x.cps hit len)
    (S : ∀ st, st ≤ x.cps.size → ∃ n m', Ends n (forSearch code x.cps 0 st x.cps.size false) m' ∧ n < 2 ^ 60 ∧ Brings m' len (findFrom hit (x.cps.size - st) st))
    (hp₀ : PatAt h₀ P C code 0) (hx : x.cps.size ≤ 100000) (hrep : rep.cps.size ≤ 2) (hne : ∀ q ∈ news, q.1 ≠ p) :
    ∀ (k st : Nat) (cnt : Int) (s : Shared) (vs : List Value) (pcs : List Str) (n : Nat), x.cps.size - st = k → st ≤ x.cps.size → Fr h₀ L s.heap m → News h₀ L s.heap ((p, listOf vs.toArray n) :: news) → StrsAre vs pcs →
      pcs.length ≤ 2 * st → (pcs.map (·.length)).sum ≤ 3 * st →
      (∀ t' h' tk', Fr h₀ L h' m → News h₀ L h' news → Q (.str ⟨(catS pcs ++ resAt x.cps hit len rep.cps.toList st).toArray⟩ t') { s with heap := h', toks := tk' }) →
      codeAny (model prog w) A (.builtin "re.Pattern.sub.loop" ⟨[.ref P, .str x tx, .str rep tr, rawInt 0, rawInt 0, rawInt cnt, rawInt st, rawInt st, .bool false, .ref p, .bool false], []⟩) (wants Q E) s := by
  intro k
  induction k using Nat.strongRecOn with
  | ind k ih =>
    intro st cnt s vs pcs n hk hst F N hs hl1 hl2 hQ
    refine codeAny_builtin entry_re_sub_loop ?_
    rw [Around.under_plainId plain_re_sub_loop]
    unfold Builtin.«re.Pattern.sub.loop»
    refine wpAny_bind (wp_whole (hp₀.keeps F.keep) ?_)
    show wpAny (model prog w) A.in1 (reNextFound (targetOf P code x tx 0) st false >>= fun r => match r with
      | some mm => if st < mm.start then (reSlice x.cps 0 st mm.start >>= fun v => updateSeq p (·.push v) >>= fun _ => subOn P p x rep tx tr cnt mm) else subOn P p x rep tx tr cnt mm
      | none => if st < x.cps.size then (reSlice x.cps 0 st x.cps.size >>= fun v => updateSeq p (·.push v) >>= fun _ => subEnd p x) else subEnd p x) _ _ _
    obtain ⟨nn, m', he, hn, hb⟩ := S st hst
    have hres := resAt_find (rep := rep.cps.toList) H (x.cps.size - st) st (by lia)
    have hvl : vs.length = pcs.length := hs.len_eq
    refine wpAny_bind (wp_runToEnd he hn ?_)
    cases hf : findFrom hit (x.cps.size - st) st with
    | none =>
      rw [hf] at hb hres
      refine .inr ⟨hb, ?_⟩
      by_cases hlt : st < x.cps.size
      · show wpAny _ _ (if st < x.cps.size then _ else _) _ _ _
        rw [if_pos hlt]
        refine wpAny_bind (wp_slice (by lia) ?_)
        refine wpAny_bind (wp_push (s := { s with toks := s.toks + 1 }) F N hne (by lia) fun h' F' N' => ?_)
        refine subEnd_wp (Q := Q) (s := { s with heap := h', toks := s.toks + 1 }) hx F' N' (strs_snoc hs ⟨x.cps.extract st x.cps.size⟩ s.toks) ?_ ?_ (fun v s' q => q) fun t' h'' tk'' F'' N'' => ?_
        · rw [List.length_append]; simp; lia
        · rw [sum_snoc]; simp; lia
        · rw [catS_snoc]
          have := hQ t' h'' tk'' F'' N''
          rw [hres] at this
          exact this
      · show wpAny _ _ (if st < x.cps.size then _ else _) _ _ _
        rw [if_neg hlt]
        have : resAt x.cps hit len rep.cps.toList st = [] := resAt_end (by lia)
        refine subEnd_wp (Q := Q) hx F N hs (by lia) (by lia) (fun v s' q => q) fun t' h'' tk'' F'' N'' => ?_
        have := hQ t' h'' tk'' F'' N''
        rw [resAt_end (by lia), List.append_nil] at this
        exact this
    | some q =>
      rw [hf] at hb hres
      obtain ⟨b1, b2, b3⟩ := hb
      have hq := findFrom_in _ _ _ hf
      have hin := H q hq.2.2
      refine .inl ⟨b1, ?_⟩
      -- behind the slice ahead of the hit
      have tail : ∀ (s₁ : Shared) (vs₁ : List Value) (pcs₁ : List Str) (n₁ : Nat), (∃ h tk, s₁ = { s with heap := h, toks := tk }) → Fr h₀ L s₁.heap m → News h₀ L s₁.heap ((p, listOf vs₁.toArray n₁) :: news) → StrsAre vs₁ pcs₁ → pcs₁.length ≤ 2 * st + 1 → (pcs₁.map (·.length)).sum ≤ 3 * st + (q - st) →
          catS pcs₁ = catS pcs ++ (x.cps.extract st q).toList → wpAny (model prog w) A.in1 (subOn P p x rep tx tr cnt m') (fun fin s' => match fin with | .done f => wants Q E (.ok f) s' | .again c' => c'.quiet = true ∧ codeAny (model prog w) A c' (wants Q E) s') (fun e s' => wants Q E (.error e) s') s₁ := by
        rintro s₁ vs₁ pcs₁ n₁ ⟨h, tk, rfl⟩ F₁ N₁ hs₁ g1 g2 g3
        unfold subOn
        have hvl₁ : vs₁.length = pcs₁.length := hs₁.len_eq
        refine wpAny_bind (wp_push F₁ N₁ hne (by lia) fun h' F' N' => ?_)
        have e : (m'.handed == m'.start) = false := by rw [b2, b3]; simp; lia
        rw [e, b3]
        refine wpAny_pure ⟨plainId_quiet plain_re_sub_loop _, ?_⟩
        refine ih (x.cps.size - (q + len q)) (by lia) (q + len q) (cnt + 1) { s with heap := h', toks := tk } (vs₁ ++ [.str rep tr]) (pcs₁ ++ [rep]) (n₁ + 1) rfl (by lia) F' N' (strs_snoc hs₁ rep tr) ?_ ?_ ?_
        · rw [List.length_append]; simp; lia
        · rw [sum_snoc]; lia
        · intro t' h'' tk'' F'' N''
          have := hQ t' h'' tk'' F'' N''
          rw [hres] at this
          rw [catS_snoc, g3]
          simpa [List.append_assoc] using this
      show wpAny _ _ (if st < m'.start then _ else _) _ _ _
      rw [b2]
      by_cases hlt : st < q
      · rw [if_pos hlt]
        refine wpAny_bind (wp_slice (by lia) ?_)
        refine wpAny_bind (wp_push (s := { s with toks := s.toks + 1 }) F N hne (by lia) fun h' F' N' => ?_)
        refine tail _ (vs ++ [.str ⟨x.cps.extract st q⟩ s.toks]) (pcs ++ [⟨x.cps.extract st q⟩]) (n + 1) ⟨h', s.toks + 1, rfl⟩ F' N' (strs_snoc hs ⟨x.cps.extract st q⟩ s.toks) ?_ ?_ (catS_snoc _ _)
        · rw [List.length_append]; simp; lia
        · rw [sum_snoc]; simp; lia
      · rw [if_neg hlt]
        have e : q = st := by lia
        refine tail s vs pcs n ⟨s.heap, s.toks, rfl⟩ F N hs (by lia) (by lia) ?_
        subst e
        simp
end
end Mine
end
section
open PySem PySem.Sre PySem.Builtin PySem.Builtin.Re PySem.W PyProof.Rows PySem.Calls
set_option Elab.async false
namespace Mine
theorem str_no_call : typeLookup (.type "str") "__call__" = pure none := by rw [typeLookup_type, builtinLookup_eq_fast]; kernel_rfl
theorem re_named (a b : Value) : reNamed "re.Pattern.sub" "sub" ["repl", "string", "count"] 2 [a, b] [] = pure [some a, some b, none] := by rfl
section
variable {prog : Program} {w : World} {A : Around} {E : Value → Shared → Prop} {s : Shared}
variable {h₀ : Heap} {L : Addr} {m : Str → Option Value} {news : List (Addr × Obj)}
theorem call_re_sub {P C : Addr} {code : Array Nat} {x rep : Str} {tx tr : Tok} {hit : Nat → Bool} {len : Nat → Nat} {Q : Value → Shared → Prop}
    (H : HitsIn x.cps hit len)
    (S : ∀ st, st ≤ x.cps.size → ∃ n m', Ends n (forSearch code x.cps 0 st x.cps.size false) m' ∧ n < 2 ^ 60 ∧ Brings m' len (findFrom hit (x.cps.size - st) st))
    (F : Fr h₀ L s.heap m) (N : News h₀ L s.heap news) (hp₀ : PatAt h₀ P C code 0) (hx : x.cps.size ≤ 100000) (hrep : rep.cps.size ≤ 2) (hbs : rep.cps.contains 92 = false)
    (hQ : ∀ t' h' tk', Fr h₀ L h' m → News h₀ L h' news → Q (.str ⟨(resAt x.cps hit len rep.cps.toList 0).toArray⟩ t') { s with heap := h', toks := tk' }) :
    wpAny (model prog w) A (call (.builtin "re.Pattern.sub") [.ref P, .str rep tr, .str x tx]) Q E s := by
  obtain ⟨src, st, fl, ft, e1⟩ := (hp₀.keeps F.keep).pat
  refine wpAny_call (codeAny_call_builtin slot_re_sub.plain entry_re_sub (slot_re_sub.check _ _ _ _ _ _ _ _ ⟨_, e1, rfl⟩ (args_re_sub _ _ _) ?_))
  unfold Builtin.«re.Pattern.sub» reSubstitute
  show wpAny _ _ (reNamed "re.Pattern.sub" "sub" ["repl", "string", "count"] 2 [.str rep tr, .str x tx] [] >>= _) _ _ _
  rw [re_named]
  refine wpAny_bind (wpAny_pure ?_)
  dsimp only
  refine wpAny_bind (wpAny_pure ?_)
  refine wpAny_bind (wpAny_specialOf (typeIs_str _ _ _) str_no_call ?_)
  rw [if_neg (by decide)]
  refine wpAny_bind (m := asStr? (.str rep tr)) (wpAny_pure ?_)
  (try dsimp only)
  refine wpAny_bind (wpAny_pure ?_)
  (try dsimp only)
  rw [hbs]
  rw [if_neg (by decide), if_pos (by decide)]
  refine wpAny_bind (wpAny_pure ?_)
  (try dsimp only)
  refine wpAny_bind (wpAny_holding (wp_whole (hp₀.keeps F.keep) ?_))
  rw [if_neg (by decide)]
  refine wpAny_bind (newList_N F N (fun h' F' N' => ?_) (by size_fits))
  refine wpAny_pure ⟨plainId_quiet plain_re_sub_loop _, ?_⟩
  have hne : ∀ q ∈ news, q.1 ≠ s.heap.objs.size := fun q hq => Nat.ne_of_lt (Heap.lt_size (N q hq).1)
  exact sub_loop (news := news) (P := P) (C := C) (code := code) H S hp₀ hx hrep hne _ 0 0 { s with heap := h' } [] [] 0 rfl (Nat.zero_le _) F' N' .nil (by simp) (by simp) hQ
end
end Mine
end
section
open PySem PySem.W PyProof.Rows PySem.Calls
set_option Elab.async false
namespace Mine
theorem plainAttrs_pat : PlainAttrs "re.Pattern" :=
  ⟨⟨"object.__getattribute__", by rw [typeLookup_type, builtinLookup_eq_fast]; kernel_rfl, by decide +kernel⟩, by rw [typeLookup_type, builtinLookup_eq_fast]; kernel_rfl⟩
def lined (x : Str) : Str := ⟨(resAt x.cps (hit2 x.cps) (len2 x.cps) [13, 10] 0).toArray⟩
def dotted (x : Str) : Str := ⟨(resAt x.cps (hit1 x.cps) (fun _ => 1) [46, 46] 0).toArray⟩
theorem hits1 (t : Array Nat) : HitsIn t (hit1 t) (fun _ => 1) := by
  intro q h
  unfold hit1 at h
  simp only [Bool.and_eq_true, decide_eq_true_eq] at h
  exact ⟨h.2.1, Nat.le_refl _, h.2.1⟩
theorem hits2 (t : Array Nat) : HitsIn t (hit2 t) (len2 t) := by
  intro q h
  unfold hit2 at h
  simp only [Bool.and_eq_true, decide_eq_true_eq] at h
  refine ⟨h.1, ?_, ?_⟩ <;> unfold len2 <;> split <;> omega
theorem resFrom_len {t : Array Nat} {hit : Nat → Bool} {len : Nat → Nat} {rep : List Nat} (H : HitsIn t hit len) (hr : rep.length ≤ 2) : ∀ (n p : Nat), p + n = t.size → (resAt t hit len rep p).length ≤ 2 * n := by
  intro n
  induction n using Nat.strongRecOn with
  | ind n ih =>
    intro p hp
    by_cases h0 : n = 0
    · rw [resAt_end (by omega)]; simp
    · cases hh : hit p with
      | true =>
        have z := H p hh
        rw [resAt_hit H hh, List.length_append]
        have := ih (t.size - (p + len p)) (by omega) (p + len p) (by omega)
        omega
      | false =>
        rw [resAt_miss H (by omega) hh, List.length_cons]
        have := ih (n - 1) (by omega) (p + 1) (by omega)
        omega
theorem lined_size {x : Str} (h : x.cps.size ≤ 20000) : (lined x).cps.size ≤ 100000 := by
  have := resFrom_len (rep := [13, 10]) (hits2 x.cps) (by decide) x.cps.size 0 (by omega)
  unfold lined
  simp only [List.size_toArray]
  omega
theorem size_up {x : Str} (h : x.cps.size ≤ 20000) : x.cps.size ≤ 100000 := by omega
section
variable {w : World} {A : Around} {E : Value → Shared → Prop} {s : Shared} {h₀ : Heap} {L : Addr} {m : Str → Option Value} {news : List (Addr × Obj)}
theorem getMethod_pat {M : Model} {K : Frag} {a : Addr} {vs : Array Value} {pl : Sem Bool} {Q : Value × List Value → Shared → Prop} (F : Fr h₀ L s.heap m) (X : K.In h₀)
    (e : K.lookup a = some ({ cls := .type "re.Pattern", data := .fields vs } : Obj)) (h : Q (.builtin "re.Pattern.sub", [.ref a]) s) : wpAny M A (getMethod (.ref a) (Str.ofString "sub") pl) Q E s :=
  getMethod_builtin (T := "re.Pattern") ⟨_, F.keep _ _ (X _ _ e), rfl⟩ plainAttrs_pat slot_re_sub type_re_sub (fun b hb => by cases hb; exact ⟨_, F.keep _ _ (X _ _ e), rfl⟩) h
theorem pat36 (X : (KF w.params).In h₀) : PatAt h₀ 36 35 c1 0 := ⟨⟨_, _, _, _, X 36 _ rfl⟩, _, _, X 35 _ rfl, by kernel_rfl⟩
theorem pat41 (X : (KF w.params).In h₀) : PatAt h₀ 41 40 c2 0 := ⟨⟨_, _, _, _, X 41 _ rfl⟩, _, _, X 40 _ rfl, by kernel_rfl⟩
theorem sub36 {x : Str} {tx tr : Tok} {Q : Value → Shared → Prop} (F : Fr h₀ L s.heap m) (X : (KF w.params).In h₀) (N : News h₀ L s.heap news) (hx : x.cps.size ≤ 100000)
    (h : ∀ t' h' tk', Fr h₀ L h' m → News h₀ L h' news → Q (.str (dotted x) t') { s with heap := h', toks := tk' }) :
    wpAny (model PySem.Challenge.rw_ij0163_01.row.prog w) A (call (.builtin "re.Pattern.sub") [.ref 36, .str (Str.ofString "..") tr, .str x tx]) Q E s := by
  refine call_re_sub (hits1 x.cps) (fun st hst => ?_) F N (pat36 X) hx (by decide +kernel) (by decide +kernel) (by rw [show (Str.ofString "..").cps.toList = [46, 46] by decide +kernel]; exact h)
  obtain ⟨m', a, b⟩ := search1 x.cps st false hst
  exact ⟨_, m', a, by have : (2 : Nat) ^ 60 = 1152921504606846976 := by decide
                      omega, b⟩
theorem sub41 {x : Str} {tx tr : Tok} {Q : Value → Shared → Prop} (F : Fr h₀ L s.heap m) (X : (KF w.params).In h₀) (N : News h₀ L s.heap news) (hx : x.cps.size ≤ 100000)
    (h : ∀ t' h' tk', Fr h₀ L h' m → News h₀ L h' news → Q (.str (lined x) t') { s with heap := h', toks := tk' }) :
    wpAny (model PySem.Challenge.rw_ij0163_01.row.prog w) A (call (.builtin "re.Pattern.sub") [.ref 41, .str (Str.ofString "\r\n") tr, .str x tx]) Q E s := by
  refine call_re_sub (hits2 x.cps) (fun st hst => ?_) F N (pat41 X) hx (by decide +kernel) (by decide +kernel) (by rw [show (Str.ofString "\r\n").cps.toList = [13, 10] by decide +kernel]; exact h)
  obtain ⟨m', a, b⟩ := search2 x.cps st false hst
  exact ⟨_, m', a, by decide, b⟩
end
local macro_rules | `(tactic| walk_at "getMethod ref") => `(tactic| (k_here; k_dflt (refine' getMethod_pat ?k1 ?k2 ?k3 ?_; (case k1 => k_asm); (case k2 => k_asm); (case k3 => k_is); k_whole)))
local macro_rules | `(tactic| walk_at "call builtin:re.Pattern.sub") => `(tactic| (k_here; k_dflt ((first | refine' sub36 ?k1 ?k2 ?k3 ?k4 ?_ | refine' sub41 ?k1 ?k2 ?k3 ?k4 ?_); (case k1 => k_asm); (case k2 => k_asm); (case k3 => k_asm); (case k4 => first | exact size_up (by assumption) | exact lined_size (by assumption))); intro t' h' tk' F' N'))
set_option maxRecDepth 100000 in
set_option maxHeartbeats 8000000 in
theorem quote_claim (w : World) (news : List (Addr × Obj)) (v : Str) (t : Tok) (hv : v.cps.size ≤ 20000) : Claim w 48 news [.str v t] (fun r news' => news' = news ∧ ∃ t', r = .str (dotted (lined v)) t') := by
    k_with_none
    intro p loose mean mg mb dp un gd cn cs a ccd cl outer A₀ base h₀ L m s Q E B F X N T C hk hd hu hret
    refine wpAny_call ?_
    k_dflt cell_enter
    k_steps
    all_goals (refine hret _ _ _ _ ?a ?b ⟨rfl, _, rfl⟩; (case a => k_asm); (case b => k_asm))
end Mine
end
section
open PySem PySem.W PyProof.Rows PySem.Calls
set_option Elab.async false
namespace Mine
theorem shaped_strs : ∀ ns : List Str, (ns.all PyData.strOk) = true → PyData.canLayAll0 (ns.map PyData.str) = true ∧ PyData.depthAll (ns.map PyData.str) = 0
  | [], _ => ⟨rfl, rfl⟩
  | a :: r, h => by
    rw [List.all_cons, Bool.and_eq_true] at h
    obtain ⟨h1, h2⟩ := shaped_strs r h.2
    exact ⟨by simp only [List.map_cons, PyData.canLayAll0, PyData.canLay0, h1, h.1, Bool.and_self], by simp only [List.map_cons, PyData.depthAll, PyData.depth, h2, Nat.max_self]⟩
theorem same_strs : ∀ ns ms : List Str, PySem.Spec.sameAll (ns.map PyData.str) (ms.map PyData.str) = (ns == ms)
  | [], [] => rfl
  | [], _ :: _ => rfl
  | _ :: _, [] => rfl
  | a :: r, b :: t => by
    have e : (a :: r == b :: t) = ((a == b) && (r == t)) := rfl
    simp only [List.map_cons, PySem.Spec.sameAll, PySem.Spec.same, same_strs r t, e]
theorem shaped_strs' (ns : List Str) (h : (ns.all PyData.strOk) = true) : SeqAt.shaped (.list (ns.map PyData.str)) = true := by
  simp only [SeqAt.shaped, PyData.canLay0, PyData.depth, (shaped_strs ns h).1, (shaped_strs ns h).2]; rfl
section
variable {prog : Program} {w : World} {A : Around} {E : Value → Shared → Prop} {s : Shared} {a b : Addr} {xs ys : List Value} {ns ms : List Str} {Q : Value → Shared → Prop}
theorem eq_strs (ha : s.heap.IsList a xs.toArray) (hb : s.heap.IsList b ys.toArray) (hi : StrsAre xs ns) (hj : StrsAre ys ms) (hk : (ns.all PyData.strOk) = true) (hk' : (ms.all PyData.strOk) = true) (hu : A.units + 64 < cLine) (h : Q (.bool (ns == ms)) s) :
    wpAny (model prog w) A (compareOp .Eq (.ref a) (.ref b)) Q E s :=
  eq_dataH_same (reads_newData ha hi.carried) (reads_newData hb hj.carried) (shaped_strs' _ hk) (shaped_strs' _ hk') hu (SeqAt.noMix_of_shape (.list .str) rfl _ _ (list_map_has fun _ => rfl) (list_map_has fun _ => rfl)) (by simp only [PySem.Spec.same, same_strs]; exact h)
theorem ne_strs (ha : s.heap.IsList a xs.toArray) (hb : s.heap.IsList b ys.toArray) (hi : StrsAre xs ns) (hj : StrsAre ys ms) (hk : (ns.all PyData.strOk) = true) (hk' : (ms.all PyData.strOk) = true) (hu : A.units + 64 < cLine) (h : Q (.bool (ns != ms)) s) :
    wpAny (model prog w) A (compareOp .NotEq (.ref a) (.ref b)) Q E s :=
  ne_dataH_same (reads_newData ha hi.carried) (reads_newData hb hj.carried) (shaped_strs' _ hk) (shaped_strs' _ hk') hu (SeqAt.noMix_of_shape (.list .str) rfl _ _ (list_map_has fun _ => rfl) (list_map_has fun _ => rfl)) (by simp only [PySem.Spec.same, same_strs]; exact h)
/-- the places of a slice: lo..hi as counts -/
theorem pick_strs {lo hi : Option Int} {i j : Nat} (hi' : StrsAre xs ns) (e : sliceBounds lo hi none ns.length = ((i : Int), (j : Int), 1)) : StrsAre (slicePick xs.toArray lo hi none).toList ((ns.drop i).take (j - i)) := by
  have e' : sliceBounds lo hi none xs.toArray.size = ((i : Int), (j : Int), 1) := by rw [List.size_toArray, hi'.len_eq]; exact e
  rw [kmk_pick_nat _ e']
  exact (hi'.drop' i).take' (j - i)
theorem up1 (n : Nat) : max 0 (min (-1 + (n : Int)) n) = ((n - 1 : Nat) : Int) := by omega
theorem up2 (n : Nat) : max 0 (min 1 (n : Int)) = ((min 1 n : Nat) : Int) := by omega
theorem from_neg1 (n : Nat) : sliceBounds (some (-1)) none none n = (((n - 1 : Nat) : Int), (n : Int), 1) := by
  simp only [sliceBounds, Option.getD_none, show (1 : Int) > 0 by decide, if_true, if_pos (show (-1 : Int) < 0 by decide), if_neg (show ¬ (1 : Int) < 0 by decide)]
  rw [up1]
theorem upto_neg1 (n : Nat) : sliceBounds none (some (-1)) none n = (((0 : Nat) : Int), ((n - 1 : Nat) : Int), 1) := by
  simp only [sliceBounds, Option.getD_none, show (1 : Int) > 0 by decide, if_true, if_pos (show (-1 : Int) < 0 by decide), if_neg (show ¬ (1 : Int) < 0 by decide)]
  rw [up1]; rfl
theorem inner1 (n : Nat) : sliceBounds (some 1) (some (-1)) none n = (((min 1 n : Nat) : Int), ((n - 1 : Nat) : Int), 1) := by
  simp only [sliceBounds, Option.getD_none, show (1 : Int) > 0 by decide, if_true, if_pos (show (-1 : Int) < 0 by decide), if_neg (show ¬ (1 : Int) < 0 by decide)]
  rw [up1, up2]
theorem slice_strs {h₀ : Heap} {L l : Addr} {m : Str → Option Value} {news : List (Addr × Obj)} {value slice : PySem.Expr} {vl vu : Value} {lo hi : Option Int} {i j n : Nat}
    (F : Fr h₀ L s.heap m) (N : News h₀ L s.heap news) (hl : (l, listOf xs.toArray n) ∈ news) (pl : IsPart vl lo) (pu : IsPart vu hi) (hi' : StrsAre xs ns) (e : sliceBounds lo hi none ns.length = ((i : Int), (j : Int), 1)) (hz : ns.length ≤ 1000)
    (h : ∀ D ws h', Fr h₀ L h' m → News h₀ L h' ((D, listOf (List.toArray ws) 0) :: news) → (∀ p ∈ news, p.1 < D) → StrsAre ws ((ns.drop i).take (j - i)) → Q (.ref D) { s with heap := h' })
    (hs : subscripted slice false (.ref l) (.ref s.heap.objs.size) = operate [.ref s.heap.objs.size, .ref l] (getItem (.ref l) (.ref s.heap.objs.size))) (ht : ∀ r, letTemporaryGo value (.ref l) r = pure ()) :
    wpAny (model prog w) A (subscriptTail value slice (.ref l) (.ref s.heap.objs.size)) Q E { s with heap := s.heap.push { cls := .type "slice", data := .fields #[vl, vu, .none] } } := by
  refine kmk_slice F N (N.isList hl) pl pu (fun D h' F' N' l1 => h D _ h' F' ?_ l1 (pick_strs hi' e)) hs ht ?_
  · rw [Array.toArray_toList]; exact N'
  · rw [List.size_toArray, hi'.len_eq]; exact Nat.le_trans hz (by decide)
theorem add_strs {h₀ : Heap} {L l b : Addr} {m : Str → Option Value} {news : List (Addr × Obj)} (F : Fr h₀ L s.heap m) (N : News h₀ L s.heap news) (hl : s.heap.IsList l xs.toArray) (hb : s.heap.IsList b ys.toArray) (hi : StrsAre xs ns) (hj : StrsAre ys ms) (hz : ns.length + ms.length ≤ 2000)
    (h : ∀ d h', Fr h₀ L h' m → News h₀ L h' ((d, listOf (xs ++ ys).toArray 0) :: news) → (∀ q ∈ news, q.1 < d) → StrsAre (xs ++ ys) (ns ++ ms) → Q (.ref d) { s with heap := h' }) : wpAny (model prog w) A (binaryOp .Add (.ref l) (.ref b)) Q E s :=
  add_arrays F N hl hb (fun h' F' N' => h _ h' F' N' (fun q hq => Heap.lt_size (N q hq).1) (hi.append' hj)) (by rw [List.size_toArray, List.size_toArray, hi.len_eq, hj.len_eq]; exact Nat.le_trans hz (by decide))
end
end Mine
end
section
open PySem PySem.W PyProof.Rows PySem.Calls
set_option Elab.async false
namespace Mine
abbrev tupO (vs : List Value) : Obj := { cls := .type "tuple", data := .seq vs.toArray }
inductive PairsAre (ts : List (Addr × Obj)) : List Value → List (Str × Str) → Prop
  | nil : PairsAre ts [] []
  | cons {a : Addr} {x y : Str} {t u : Tok} {vs : List Value} {ps : List (Str × Str)} : (a, tupO [.str x t, .str y u]) ∈ ts → PairsAre ts vs ps → PairsAre ts (.ref a :: vs) ((x, y) :: ps)
theorem PairsAre.mono {ts ts' : List (Addr × Obj)} (h : ∀ p ∈ ts, p ∈ ts') {vs : List Value} {ps : List (Str × Str)} (x : PairsAre ts vs ps) : PairsAre ts' vs ps := by
  induction x with
  | nil => exact .nil
  | cons hm _ ih => exact .cons (h _ hm) ih
theorem PairsAre.len {ts : List (Addr × Obj)} {vs : List Value} {ps : List (Str × Str)} (x : PairsAre ts vs ps) : vs.length = ps.length := by
  induction x with
  | nil => rfl
  | cons _ _ ih => rw [List.length_cons, List.length_cons, ih]
theorem PairsAre.at {ts : List (Addr × Obj)} {vs : List Value} {ps : List (Str × Str)} (x : PairsAre ts vs ps) : ∀ i, i < ps.length → ∃ a t u, vs[i]? = some (.ref a) ∧ (a, tupO [.str (ps.getD i ("", "")).1 t, .str (ps.getD i ("", "")).2 u]) ∈ ts := by
  induction x with
  | nil => intro i h; exact absurd h (Nat.not_lt_zero _)
  | cons hm _ ih =>
    intro i h
    cases i with
    | zero => exact ⟨_, _, _, rfl, hm⟩
    | succ i => exact ih i (Nat.lt_of_succ_lt_succ h)
def pairE : PySem.Expr → Option (Str × Str)
  | .Tuple [.Constant (.str a) _ _, .Constant (.str b) _ _] _ _ => some (a, b)
  | _ => none
section
variable {M : Model} {A : Around} {E : Value → Shared → Prop} {h₀ : Heap} {L : Addr} {m : Str → Option Value} {env : Env}
theorem pair_eval {a b : Str} {k k1 k2 : Nat} {pos p1 p2 : Pos} {s : Shared} {news : List (Addr × Obj)} {Q : Value → Shared → Prop} (F : Fr h₀ L s.heap m) (N : News h₀ L s.heap news)
    (h : ∀ d t u h' tk', Fr h₀ L h' m → News h₀ L h' ((d, tupO [.str a t, .str b u]) :: news) → (∀ q ∈ news, q.1 < d) → Q (.ref d) { s with heap := h', toks := tk' }) :
    wpAny M A (eval (.Tuple [.Constant (.str a) k1 p1, .Constant (.str b) k2 p2] k pos) env) Q E s :=
  Tuple_ (spliced_more (Constant_str (spliced_more (Constant_str (spliced_none (newTuple_N F N (fun h' F' N' => h _ _ _ h' _ F' N' fun q hq => Heap.lt_size (N q hq).1) (by size_fits)))))))
theorem pairs_eval {pos : Pos} : ∀ (elts : List PySem.Expr) (ps : List (Str × Str)) (s : Shared) (news : List (Addr × Obj)) (Q : List Value → Shared → Prop), elts.map pairE = ps.map some → Fr h₀ L s.heap m → News h₀ L s.heap news →
    (∀ vs ts h' tk', Fr h₀ L h' m → News h₀ L h' (ts ++ news) → PairsAre ts vs ps → (∀ p ∈ ts, ∀ q ∈ news, q.1 < p.1) → Q vs { s with heap := h', toks := tk' }) →
    wpAny M A (spliced (backTo pos (starEach elts env))) Q E s
  | [], ps, s, news, Q, he, F, N, h => by
    cases ps with
    | nil => exact spliced_none (h [] [] s.heap s.toks F N .nil (fun _ hp => nomatch hp))
    | cons => cases he
  | e :: r, ps, s, news, Q, he, F, N, h => by
    cases ps with
    | nil => cases he
    | cons p ps =>
      rw [List.map_cons, List.map_cons] at he
      obtain ⟨he1, he2⟩ := List.cons.inj he
      obtain ⟨a, b⟩ := p
      unfold pairE at he1
      split at he1
      · cases he1
        refine spliced_more (pair_eval F N fun d t u h' tk' F' N' lt => ?_)
        refine pairs_eval r ps { s with heap := h', toks := tk' } _ _ he2 F' N' fun vs ts h'' tk'' F'' N'' hp lt' => ?_
        refine h _ (ts ++ [(d, tupO [.str a t, .str b u])]) h'' tk'' F'' (by rw [List.append_assoc]; exact N'') (.cons (List.mem_append.mpr (.inr (.head _))) (hp.mono fun q hq => List.mem_append.mpr (.inl hq))) fun p hp q hq => ?_
        rcases List.mem_append.mp hp with hp | hp
        · exact lt' p hp q (.tail _ hq)
        · rw [List.mem_singleton.mp hp]; exact lt q hq
      · cases he1
theorem table_eval {elts : List PySem.Expr} {ps : List (Str × Str)} {pos : Pos} {s : Shared} {news : List (Addr × Obj)} {Q : Value → Shared → Prop} (F : Fr h₀ L s.heap m) (N : News h₀ L s.heap news) (he : elts.map pairE = ps.map some) (hz : ps.length ≤ 1000)
    (h : ∀ l vs ts h' tk', Fr h₀ L h' m → News h₀ L h' ((l, listOf vs.toArray 0) :: (ts ++ news)) → PairsAre ts vs ps → (∀ p ∈ ts, ∀ q ∈ news, q.1 < p.1) → (∀ q ∈ ts ++ news, q.1 < l) → Q (.ref l) { s with heap := h', toks := tk' }) :
    wpAny M A (eval (.List elts pos) env) Q E s :=
  List_ (pairs_eval elts ps s news _ he F N fun vs ts h' tk' F' N' hp lt => newList_N F' N' (fun h'' F'' N'' => h _ vs ts h'' tk' F'' N'' hp lt fun q hq => Heap.lt_size (N' q hq).1)
    (Nat.le_trans (Nat.le_of_eq hp.len) (Nat.le_trans hz (by decide))))
theorem item_at {prog : Program} {w : World} {value slice : PySem.Expr} {l : Addr} {vs : List Value} {k : Int} {u : Tok} {s : Shared} {v : Value} {Q : Value → Shared → Prop}
    (hl : s.heap.IsList l vs.toArray) (h0 : 0 ≤ k) (hk : k < 2 ^ 63) (hv : vs[k.toNat]? = some v) (h : Q v s) (hs : subscripted slice false (.ref l) (.int k u) = operate [.ref l, .int k u] (getItem (.ref l) (.int k u)) := by with_unfolding_all rfl) :
    wpAny (model prog w) A (subscriptTail value slice (.ref l) (.int k u)) Q E s :=
  tail_any hl.typeIs slot_list_getitem.lookup (wpAny_getItem_list hl h0 hk (by simpa using hv) h) hs
end
theorem mod20 (v : Int) (h : v.fmod 20 < 18) : 0 ≤ v.fmod 20 ∧ v.fmod 20 < 2 ^ 63 ∧ (v.fmod 20).toNat < tabP.length := by
  have := Int.fmod_nonneg_of_pos v (show (0 : Int) < 20 by decide)
  refine ⟨this, by omega, ?_⟩
  show _ < 18
  omega
theorem piece_sub1 {a1 l' : Addr} {o o' : Obj} {ts' news : List (Addr × Obj)} (h : (a1, o) ∈ ts') : ∀ p ∈ (a1, o) :: news, p ∈ (l', o') :: (ts' ++ news) := fun p hp => by
  rcases List.mem_cons.mp hp with rfl | hp
  · exact .tail _ (List.mem_append_left _ h)
  · exact .tail _ (List.mem_append_right _ hp)
theorem piece_sub2 {a1 l' : Addr} {o o' : Obj} {ts' news : List (Addr × Obj)} : ∀ p ∈ (a1, o) :: news, p ∈ (a1, o) :: (l', o') :: (ts' ++ news) := fun p hp => by
  rcases List.mem_cons.mp hp with rfl | hp
  · exact .head _
  · exact .tail _ (.tail _ (List.mem_append_right _ hp))
theorem piece_lt {l d : Addr} {ts news : List (Addr × Obj)} (h : ∀ q ∈ ts ++ news, q.1 < l) (h2 : l < d ∧ AllLt d (ts ++ news)) : ∀ q ∈ news, q.1 < d := fun q hq => Nat.lt_trans (h q (List.mem_append_right _ hq)) h2.1
theorem piece_eq1 {v : Int} (h : v.fmod 20 < 18) : tabP.getD (v.fmod 20).toNat ("", "") = pieceOf v := by unfold pieceOf; rw [if_pos h]
theorem piece_eq2 {v : Int} (h : ¬ v.fmod 20 < 18) : pieceOf v = (signOf v, if isIn (signOf v) "()]{}+-|^$\\.&~# \t\x0b\x0c" then "\\" ++ signOf v else signOf v) := by unfold pieceOf; rw [if_neg h]
abbrev PieceR (v : Int) (news : List (Addr × Obj)) (r : Value) (news' : List (Addr × Obj)) : Prop := ∃ a t1 t2, r = .ref a ∧ news' = (a, tupO [.str (pieceOf v).1 t1, .str (pieceOf v).2 t2]) :: news ∧ ∀ q ∈ news, q.1 < a
theorem piece_end {h₀ h' : Heap} {L D l' : Addr} {m : Str → Option Value} {s : Shared} {Q : Value → Shared → Prop} {v : Int} {news ts' : List (Addr × Obj)} {o' : Obj} {x y : Str} {t1 t2 tk' : Nat} (hret : RetK h₀ L m s Q (PieceR v news))
    (F : Fr h₀ L h' m) (N : News h₀ L h' ((D, tupO [.str x t1, .str y t2]) :: (l', o') :: (ts' ++ news))) (e : pieceOf v = (x, y)) (lt : l' < D ∧ AllLt D (ts' ++ news)) (lt2 : ∀ q ∈ ts' ++ news, q.1 < l') : Q (.ref D) { s with heap := h', toks := tk' } := by
  refine hret _ h' tk' ((D, tupO [.str x t1, .str y t2]) :: news) F (cb_drop N piece_sub2) ⟨D, t1, t2, rfl, by rw [e], fun q hq => piece_lt lt2 lt q hq⟩
set_option maxRecDepth 100000 in
set_option maxHeartbeats 8000000 in
theorem piece_claim (w : World) (news : List (Addr × Obj)) (v : Int) (t : Tok) : Claim w 93 news [.int v t] (PieceR v news) := by
    k_with_none
    intro p loose mean mg mb dp un gd cn cs a ccd cl outer A₀ base h₀ L m s Q E B F X N T C hk hd hu hret
    refine wpAny_call ?_
    k_dflt cell_enter
    k_with "eval List" => (k_dflt (refine' table_eval ?k1 ?k2 ?k3 ?k4 ?_; (case k1 => k_asm); (case k2 => k_asm); (case k3 => show _ = tabP.map some; kernel_rfl); (case k4 => decide)); intro l' vs' ts' h' tk' F' N' hp' lt1' lt2')
    k_with "subscriptTail" => (refine hold_ ?_)
    k_steps
    · unfold Hold
      obtain ⟨z0, z1, z2⟩ := mod20 v (by assumption)
      obtain ⟨a1, t1, u1, e1, hm1⟩ := hp'.at _ z2
      refine item_at (listOf_isList (News.get (by assumption) (List.Mem.head _))) z0 z1 e1 ?_
      k_steps
      rw [piece_eq1 (by assumption)] at hm1
      refine hret _ _ _ _ ?_ (cb_drop (news' := (l', listOf vs'.toArray 0) :: (ts' ++ news)) ?_ (piece_sub1 hm1)) ⟨a1, t1, u1, rfl, rfl, fun q hq => lt1' _ hm1 q hq⟩
      · k_asm
      · k_asm
    all_goals (
      refine piece_end (o' := listOf vs'.toArray 0) (ts' := ts') hret (by k_asm) (by k_asm) ?_ (by assumption) lt2'
      rw [piece_eq2 (by assumption)]
      simp only [codeOf, rawSign, signOf, isIn, *, if_true, if_false, Bool.not_true, Bool.not_false, Bool.false_eq_true] <;> decide +kernel)
end Mine
end
section
open PySem PySem.W PyProof.Rows PySem.Calls
set_option Elab.async false
namespace Mine
/-- the three tails -/
def tails (k : Nat) : List Int := [[22, 0, 45], [45, 22], [42, 0]].getD k []
section
variable {prog : Program} {w : World} {A : Around} {E : Value → Shared → Prop} {s : Shared} {h₀ : Heap} {L : Addr} {m : Str → Option Value} {news : List (Addr × Obj)}
theorem plan_tail {value slice : PySem.Expr} {l3 a b c : Addr} {t1 t2 t3 t4 t5 t6 t7 : Tok} {idx : Int} {u : Tok} {Q : Value → Shared → Prop} (N : News h₀ L s.heap news)
    (h3 : (l3, listOf #[.ref a, .ref b, .ref c] 0) ∈ news) (ha : (a, listOf #[.int 22 t1, .int 0 t2, .int 45 t3] 0) ∈ news) (hb : (b, listOf #[.int 45 t4, .int 22 t5] 0) ∈ news) (hc : (c, listOf #[.int 42 t6, .int 0 t7] 0) ∈ news)
    (h0 : 0 ≤ idx ∧ idx < 3) (h : ∀ d vt, s.heap.IsList d vt.toArray → IntsAre vt (tails idx.toNat) → Q (.ref d) s)
    (hs : subscripted slice false (.ref l3) (.int idx u) = operate [.ref l3, .int idx u] (getItem (.ref l3) (.int idx u)) := by with_unfolding_all rfl) :
    wpAny (model prog w) A (subscriptTail value slice (.ref l3) (.int idx u)) Q E s := by
  have e : idx = 0 ∨ idx = 1 ∨ idx = 2 := by lia
  rcases e with rfl | rfl | rfl
  · exact item_at (vs := [.ref a, .ref b, .ref c]) (listOf_isList (N.get h3)) h0.1 (by decide) rfl (h a [.int 22 t1, .int 0 t2, .int 45 t3] (listOf_isList (N.get ha)) (.cons _ _ (.cons _ _ (.cons _ _ .nil)))) hs
  · exact item_at (vs := [.ref a, .ref b, .ref c]) (listOf_isList (N.get h3)) h0.1 (by decide) rfl (h b [.int 45 t4, .int 22 t5] (listOf_isList (N.get hb)) (.cons _ _ (.cons _ _ .nil))) hs
  · exact item_at (vs := [.ref a, .ref b, .ref c]) (listOf_isList (N.get h3)) h0.1 (by decide) rfl (h c [.int 42 t6, .int 0 t7] (listOf_isList (N.get hc)) (.cons _ _ (.cons _ _ .nil))) hs
theorem mod3 (n : Int) : 0 ≤ n.fmod 3 ∧ n.fmod 3 < 3 := ⟨Int.fmod_nonneg_of_pos n (by decide), Int.fmod_lt_of_pos n (by decide)⟩
theorem mod3' (n : Int) : n.fmod 3 < 2 ^ 63 := Int.lt_trans (mod3 n).2 (by decide)
theorem plan_add {l b : Addr} {n : Nat} {us vt : List Value} {ns ms : List Int} {Q : Value → Shared → Prop} (F : Fr h₀ L s.heap m) (N : News h₀ L s.heap news) (hl : (l, listOf us.toArray n) ∈ news) (hb : s.heap.IsList b vt.toArray) (hi : IntsAre us ns) (hj : IntsAre vt ms)
    (hz : ns.length + ms.length ≤ 1000000)
    (h : ∀ d h', Fr h₀ L h' m → News h₀ L h' ((d, listOf (us ++ vt).toArray 0) :: news) → (∀ q ∈ news, q.1 < d) → IntsAre (us ++ vt) (ns ++ ms) → Q (.ref d) { s with heap := h' }) : wpAny (model prog w) A (binaryOp .Add (.ref l) (.ref b)) Q E s :=
  add_arrays_ints F N (listOf_isList (N.get hl)) hb hi hj (fun h' F' N' hI => h _ h' F' N' (fun q hq => Heap.lt_size (N q hq).1) hI) (Nat.le_trans hz (by decide))
theorem tails_len (ns : List Int) (k : Nat) : (List.take 10 ns).length + (tails k).length ≤ 13 := by
  have h1 : (List.take 10 ns).length ≤ 10 := by rw [List.length_take]; lia
  have h2 : (tails k).length ≤ 3 := by
    unfold tails
    match k with
    | 0 => decide
    | 1 => decide
    | 2 => decide
    | k + 3 => simp
  lia
end
theorem ok_drop {xs : List Str} {i j : Nat} (h : (xs.all PyData.strOk) = true) : (((xs.drop i).take j).all PyData.strOk) = true := by
  rw [List.all_eq_true] at h ⊢
  exact fun x hx => h x (List.mem_of_mem_drop (List.mem_of_mem_take hx))
/-- what _law_plan hands back -/
abbrev PlanR (st : Plan) (news : List (Addr × Obj)) (r : Value) (news' : List (Addr × Obj)) : Prop :=
  ∃ t d2 lr vr ve nr tp, r = .ref t ∧ news' = (t, tupO [.str st.pat tp, .ref lr, .ref d2]) :: (d2, listOf (List.toArray ve) 0) :: (lr, listOf (List.toArray vr) nr) :: news ∧ StrsAre ve (List.take (st.ends.length - 1 - 0) (List.drop 0 st.ends) ++ [Str.ofString ""]) ∧ StrsAre vr st.rows ∧
    (d2 < t ∧ lr < d2 ∧ ∀ q ∈ news, q.1 < lr)
theorem mapB {m : Str → Option Value} (ps : List (Str × Value)) (h : ∀ p ∈ ps, m p.1 = some p.2) : m = kstB m ps := funext fun _ => (kstB_eq h fun _ => rfl).symm
theorem fmapB {h₀ h : Heap} {L : Addr} {m : Str → Option Value} (ps : List (Str × Value)) (F : Fr h₀ L h m) (hp : ∀ p ∈ ps, m p.1 = some p.2) : Fr h₀ L h (kstB m ps) := mapB ps hp ▸ F
abbrev planNames (st : Plan) (le lr : Addr) (tp : Tok) : List (Str × Value) := [("pattern", .str st.pat tp), ("rows", .ref lr), ("ends", .ref le)]
/-- the loop's state -/
structure PlanAt (d le lr : Addr) (o : Obj) (news : List (Addr × Obj)) (st : Plan) (m : Str → Option Value) (nx : List (Addr × Obj)) : Prop where
  mk0 ::
  ok : ∃ vr ve nr ne tp, nx = (d, o) :: (le, listOf (List.toArray ve) ne) :: (lr, listOf (List.toArray vr) nr) :: news ∧ StrsAre vr st.rows ∧ StrsAre ve st.ends ∧ ∀ p ∈ planNames st le lr tp, m p.1 = some p.2
section
variable {prog : Program} {w : World} {A : Around} {E : Value → Shared → Prop} {s : Shared} {env : Env} {h₀ : Heap} {body : List Stmt} {Q : Flow → Shared → Prop} {news : List (Addr × Obj)}
/-- the loop's lists stand apart -/
structure Dist (d le lr : Addr) (l : List (Addr × Obj)) : Prop where
  a : d ≠ le
  b : d ≠ lr
  c : le ≠ lr
  o : ∀ q ∈ l, q.1 ≠ le ∧ q.1 ≠ lr
theorem app_ends {L d le lr : Addr} {o or : Obj} {ve : List Value} {ne : Nat} {l big : List (Addr × Obj)} {m : Str → Option Value} {x : Value} {Q : Value → Shared → Prop} (F : Fr h₀ L s.heap m) (N : News h₀ L s.heap big)
    (D : Dist d le lr l) (sub : ∀ p ∈ (d, o) :: (le, listOf (List.toArray ve) ne) :: (lr, or) :: l, p ∈ big) (hz : ve.length ≤ 1000)
    (h : ∀ h', Fr h₀ L h' m → News h₀ L h' ((d, o) :: (le, listOf (List.toArray (ve ++ [x])) (ne + 1)) :: (lr, or) :: l) → Q .none { s with heap := h' }) : wpAny (model prog w) A (call (.builtin "list.append") [.ref le, x]) Q E s :=
  append_K F (cb_drop N sub) (.tail D.a (.head (List.forall_mem_cons.mpr ⟨D.c.symm, fun q hq => (D.o q hq).1⟩))) (fun h' F' N' => h h' F' (by rw [← List.push_toArray]; exact N')) (Nat.le_trans (by rw [List.size_toArray]; exact hz) (by decide))
theorem app_rows {L d le lr : Addr} {o oe : Obj} {vr : List Value} {nr : Nat} {l big : List (Addr × Obj)} {m : Str → Option Value} {x : Value} {Q : Value → Shared → Prop} (F : Fr h₀ L s.heap m) (N : News h₀ L s.heap big)
    (D : Dist d le lr l) (sub : ∀ p ∈ (d, o) :: (le, oe) :: (lr, listOf (List.toArray vr) nr) :: l, p ∈ big) (hz : vr.length ≤ 1000)
    (h : ∀ h', Fr h₀ L h' m → News h₀ L h' ((d, o) :: (le, oe) :: (lr, listOf (List.toArray (vr ++ [x])) (nr + 1)) :: l) → Q .none { s with heap := h' }) : wpAny (model prog w) A (call (.builtin "list.append") [.ref lr, x]) Q E s :=
  append_K F (cb_drop N sub) (.tail D.b (.tail D.c (.head fun q hq => (D.o q hq).2))) (fun h' F' N' => h h' F' (by rw [← List.push_toArray]; exact N')) (Nat.le_trans (by rw [List.size_toArray]; exact hz) (by decide))
theorem take_le {xs : List Str} {i j : Nat} (h : xs.length ≤ 1000) : ((xs.drop i).take j).length + [Str.ofString ""].length ≤ 2000 := by
  rw [List.length_take, List.length_drop]; show _ + 1 ≤ _; lia
theorem plan_sub {t lr d2 : Addr} {ot o2 or : Obj} {l1 D d' l5 : Addr} {o1 oD od oe : Obj} {l : List (Addr × Obj)} : ∀ p ∈ (t, ot) :: (d2, o2) :: (lr, or) :: l, p ∈ (t, ot) :: (d2, o2) :: (l1, o1) :: (D, oD) :: (d', od) :: (l5, oe) :: (lr, or) :: l := fun p hp => by
  rcases List.mem_cons.mp hp with rfl | hp
  · exact .head _
  rcases List.mem_cons.mp hp with rfl | hp
  · exact .tail _ (.head _)
  · exact .tail _ (.tail _ (.tail _ (.tail _ (.tail _ (.tail _ hp)))))
theorem planOf_snoc {xs : List Int} {i : Nat} {x : Int} (h : xs[i]? = some x) : planOf (xs.take (i + 1)) = planStep (planOf (xs.take i)) x := by
  have e : xs.take (i + 1) = xs.take i ++ [x] := by rw [List.take_add_one, h]; rfl
  rw [e]; unfold planOf; rw [List.foldl_append]; rfl
structure Sizes (st : Plan) (vr ve : List Value) (v : Int) : Prop where
  a : vr.length ≤ 1000
  b : ve.length ≤ 1000
  c : st.rows.length ≤ 1000
  d : st.ends.length ≤ 1000
  e : (st.rows.all PyData.strOk) = true
  f : (st.ends.all PyData.strOk) = true
  g : st.pat.length + (pieceOf v).1.length ≤ sizeLine
theorem sizes_of {xs : List Int} {i : Nat} {vr ve : List Value} {v : Int} (hl : xs.length ≤ 13) (hr : StrsAre vr (planOf (xs.take i)).rows) (he : StrsAre ve (planOf (xs.take i)).ends) : Sizes (planOf (xs.take i)) vr ve v := by
  have ok := planOk (xs.take i)
  have h1 := ok.r
  have h2 := ok.p
  have h3 : (xs.take i).length ≤ 13 := Nat.le_trans (List.length_take_le' i xs) hl
  have k := (piece_ok v).1
  unfold smallOk at k
  have k1 := of_decide_eq_true (Bool.and_eq_true_iff.mp k).1
  have c : (planOf (xs.take i)).rows.length ≤ 1000 := by lia
  have d : (planOf (xs.take i)).ends.length ≤ 1000 := ok.e ▸ c
  refine ⟨hr.len_eq ▸ c, he.len_eq ▸ d, c, d, all_strOk ok.ro, all_strOk ok.eo, Nat.le_trans (show _ ≤ 200 from ?_) (by decide)⟩
  show (planOf (xs.take i)).pat.cps.size + (pieceOf v).1.cps.size ≤ 200
  lia
theorem bad1 {v : Int} {P : Prop} (h1 : ((pieceOf v).2 != Str.ofString "") = true) (h2 : ((pieceOf v).2 == Str.ofString "") = true) : P := by
  unfold bne at h1; rw [h2] at h1; cases h1
theorem bad2 {v : Int} {P : Prop} (h1 : ((pieceOf v).2 != Str.ofString "") = false) (h2 : ((pieceOf v).2 == Str.ofString "") = false) : P := by
  unfold bne at h1; rw [h2] at h1; cases h1
theorem plan_end {d le lr : Addr} {o : Obj} {L : Addr} {st st' : Plan} {x : Int} {vr ve : List Value} {nr ne : Nat} {tp : Tok} {m' : Str → Option Value} {own big : List (Addr × Obj)} {h' : Heap} {tk : Nat} (e : planStep st x = st') (F : Fr h₀ L h' m') (N : News h₀ L h' big)
    (hr : StrsAre vr st'.rows) (he : StrsAre ve st'.ends) (sub : ∀ p ∈ (d, o) :: (le, listOf (List.toArray ve) ne) :: (lr, listOf (List.toArray vr) nr) :: (news ++ own), p ∈ big) (hm1 : m' (Str.ofString "pattern") = some (.str st'.pat tp)) (hm2 : m' (Str.ofString "rows") = some (.ref lr)) (hm3 : m' (Str.ofString "ends") = some (.ref le)) :
    InvEndN h₀ L (fun m' nx => (d, o) ∈ nx ∧ PlanAt d le lr o news (planStep st x) m' nx) own (d :: le :: lr :: news.map (·.1)) s { s with heap := h', toks := tk } :=
  InvEndN.intro F (cb_drop N sub) ⟨.head _, vr, ve, nr, ne, tp, rfl, e ▸ hr, e ▸ he, e ▸ (List.forall_mem_cons.mpr ⟨hm1, List.forall_mem_cons.mpr ⟨hm2, List.forall_mem_cons.mpr ⟨hm3, List.forall_mem_nil _⟩⟩⟩)⟩ rfl (fun p hp => by
    rcases List.mem_cons.mp hp with rfl | hp
    · exact .head _
    rcases List.mem_cons.mp hp with rfl | hp
    · exact .tail _ (.head _)
    rcases List.mem_cons.mp hp with rfl | hp
    · exact .tail _ (.tail _ (.head _))
    · exact .tail _ (.tail _ (.tail _ (List.mem_append_left _ hp)))) fun p hp => .tail _ (.tail _ (.tail _ (List.mem_append_right _ hp)))
theorem plan_loop {d le lr : Addr} {r1 r2 r3 r4 r5 r6 : Addr × Obj} {vs : List Value} {xs : List Int} {nn : Nat} {m₀ : Str → Option Value} {tp : Tok}
    (F : Fr h₀ env.locals s.heap m₀) (N : News h₀ env.locals s.heap ((d, listOf vs.toArray nn) :: r1 :: r2 :: r3 :: r4 :: r5 :: r6 :: (le, listOf #[] 0) :: (lr, listOf #[] 0) :: news)) (hi : IntsAre vs xs)
    (hd : ∀ q ∈ r1 :: r2 :: r3 :: r4 :: r5 :: r6 :: (le, listOf #[] 0) :: (lr, listOf #[] 0) :: news, q.1 < d) (h1 : lr < le) (h2 : ∀ q ∈ news, q.1 < lr)
    (hlen : xs.length ≤ 13) (hm : ∀ p ∈ planNames ⟨Str.ofString "", [], []⟩ le lr tp, m₀ p.1 = some p.2) (hh : A.handled = none)
    (turn : ∀ (i : Nat) (x : Int) t st vr ve nr ne tp u h tk own, xs[i]? = some x → Sizes st vr ve (valueOf x) → StrsAre vr st.rows → StrsAre ve st.ends → Dist d le lr (news ++ own) →
      Fr h₀ env.locals h (fun y => if y = "x" then some (.int x t) else kstB u (planNames st le lr tp) y) → News h₀ env.locals h ((d, listOf vs.toArray nn) :: (le, listOf (List.toArray ve) ne) :: (lr, listOf (List.toArray vr) nr) :: (news ++ own)) →
      wpAny (model prog w) A (execs body env) (InvPostN h₀ env.locals (fun m' nx => (d, listOf vs.toArray nn) ∈ nx ∧ PlanAt d le lr (listOf vs.toArray nn) news (planStep st x) m' nx) own (d :: le :: lr :: news.map (·.1)) { s with heap := h, toks := tk } Q) E { s with heap := h, toks := tk })
    (done : ∀ vr ve nr ne tp u h tk, StrsAre vr (planOf xs).rows → StrsAre ve (planOf xs).ends → Fr h₀ env.locals h (kstB u (planNames (planOf xs) le lr tp)) → News h₀ env.locals h ((d, listOf vs.toArray nn) :: (le, listOf (List.toArray ve) ne) :: (lr, listOf (List.toArray vr) nr) :: news) → Q .next { s with heap := h, toks := tk }) :
    wpAny (model prog w) A (pyIter (.ref d)) (fun it s₂ => LoopAtV prog w A h₀ env "x" body Q E it s₂) E s := by
  refine iter_invNL (news := (d, listOf vs.toArray nn) :: (le, listOf #[] 0) :: (lr, listOf #[] 0) :: news) (fun i m nx => PlanAt d le lr (listOf vs.toArray nn) news (planOf (xs.take i)) m nx) hh (.head _) hi F
    (cb_drop N fun p hp => by
      rcases List.mem_cons.mp hp with rfl | hp
      · exact .head _
      · exact .tail _ (.tail _ (.tail _ (.tail _ (.tail _ (.tail _ (.tail _ hp))))))) ⟨[], [], 0, 0, tp, rfl, .nil, .nil, hm⟩ ?_ ?_
  · rintro i x t m₁ news₁ h tk own hx _ ho _ ⟨vr, ve, nr, ne, tp, rfl, hr, he, hm⟩ F N
    have l1 : le < d := hd _ (.tail _ (.tail _ (.tail _ (.tail _ (.tail _ (.tail _ (.head _)))))))
    have ho' : Dist d le lr (news ++ own) := ⟨fun e => absurd (e ▸ l1) (Nat.lt_irrefl _), fun e => absurd (Nat.lt_trans h1 (e ▸ l1)) (Nat.lt_irrefl _), fun e => absurd (e ▸ h1) (Nat.lt_irrefl _), fun q hq => by
      rcases List.mem_append.mp hq with hq | hq
      · exact ⟨fun e => absurd (Nat.lt_trans h1 (e ▸ h2 q hq)) (Nat.lt_irrefl _), fun e => absurd (e ▸ h2 q hq) (Nat.lt_irrefl _)⟩
      · exact ⟨ho q hq _ (.tail _ (.head _)), ho q hq _ (.tail _ (.tail _ (.head _)))⟩⟩
    rw [mapB _ hm] at F
    rw [planOf_snoc hx]
    exact turn i x t _ vr ve nr ne tp m₁ h tk own hx (sizes_of hlen hr he) hr he ho' F N
  · rintro m₁ news₁ h tk _ ⟨vr, ve, nr, ne, tp, rfl, hr, he, hm⟩ F N
    rw [List.take_length] at hr he hm
    exact done vr ve nr ne tp m₁ h tk hr he (fmapB _ F hm) N
end
set_option maxRecDepth 100000 in
set_option maxHeartbeats 8000000 in
theorem plan_claim (w : World) (news : List (Addr × Obj)) (l : Addr) (vs : List Value) (ns : List Int) (hI : IntsAre vs ns) (h63 : ns.length ≤ 63) 
  (p : Program) (loose : List Str) (mean : ExcName → Option Value) (mg mb : Str → Option Value) (dp un : Nat) (gd : Option (List Code)) (cn : Str) (cs : Scope) (a : Addr) (ccd : Value) (cl : List (Str × Addr)) (outer : List Env) (A₀ : Around) (base h₀ : Heap) (L : Addr) (m : Str → Option Value) (s : Shared) (Q E : Value → Shared → Prop)
  (B : Below A₀ base outer h₀) (F : Fr h₀ L s.heap m) (X : (KF w.params).In h₀) (N : News h₀ L s.heap news) (T : Top p loose mean mg mb h₀) (C : CodeHd h₀ 78 74) (hk : cs.kind = .function) (hdp : dp + 16 < recursionLimit) (hu : un + 128 < cLine)
  (hl : base.IsList l vs.toArray) (hret : RetK h₀ L m s Q (PlanR (planOf (List.take 10 ns ++ tails ((ns.length : Int).fmod 3).toNat)) news)) :
    wpAny (model PySem.Challenge.rw_ij0163_01.row.prog w) (ktrTop dp un gd cn cs L a ccd cl outer) (call (.ref 100) [.ref l]) Q E s := by
    k_with_none
    refine wpAny_call ?_
    k_dflt cell_enter
    have C1 := C.keeps (Fr.keep (by assumption : Fr h₀ L _ m))
    k_with "subscriptTail" => (k_dflt (refine' plan_tail ?N ?h3 ?ha ?hb ?hc ?h0 ?_; (case N => k_asm); (case h3 => k_mem); (case ha => k_mem); (case hb => k_mem); (case hc => k_mem); (case h0 => exact mod3 _)); intro d' vt' hd' hi')
    k_with "binaryOp Add ref ref" => (k_dflt (refine' plan_add ?F ?N ?hl ?hb ?hi ?hj ?hz ?_; (case F => k_asm); (case N => k_asm); (case hl => k_mem); (case hb => k_asm); (case hi => k_asm); (case hj => k_asm); (case hz => exact Nat.le_trans (tails_len _ _) (by decide))); intro d' h' F' N' lt' hi')
    k_with "exec For" => (k_here; (rename Fr _ _ _ _ => lF'); (with_unfolding_all refine' For_invVF lF' ?k1 ?k2 ?_; (case k1 => exact rfl); (case k2 => exact rfl); k_whole))
    k_with "pyIter ref" => (refine hold_ ?_)
    k_steps
    unfold Hold
    refine' plan_loop (tp := _) ?F ?N ?hi lt' ?h1 ?h2 ?hlen ?hm ?hh ?_ ?_
    case F => k_asm
    case N => k_asm
    case hi => k_asm
    case h1 => refine ltN ?_; lia
    case h2 => k_asm
    case hlen => rw [List.length_append]; exact tails_len _ _
    case hm => (intro p hp; simp only [List.mem_cons, List.not_mem_nil, or_false] at hp; rcases hp with rfl | rfl | rfl <;> rfl)
    case hh => rfl
    · rintro i x t st vr ve nr ne tp u h tk own hx ⟨vr', ve', hr', he', hok, hok', hz'⟩ hr he ho F1 N1
      dsimp only [kstB] at F1
      k_with "call ref" => (k_dflt (refine' piece_claim _ _ _ _ _ _ _ _ _ _ _ _ _ _ _ _ _ _ _ _ _ _ _ _ _ _ ?B ?F ?X ?N ?T ?C ?k ?d ?u ?R; (case B => k_asm); (case F => k_asm); (case X => k_asm); (case N => k_asm); (case T => k_asm); (case C => exact C1); (case k => first | exact rfl | assumption); (case d => ktr_room); (case u => ktr_units)); rintro _ h' tk' _ F' N' ⟨d', t1', t2', rfl, rfl, lt'⟩)
      k_with "inplaceOp Add str str" => (k_dflt (refine' PyProof.Rows.iadd_str ?_ ?z; (case z => exact hz'); k_whole; intro t' tk'))
      k_with "subscriptTail Name Slice ref ref" => (k_here; k_dflt (refine slice_strs (by k_asm) (by k_asm) (by k_mem) (by kmk_part) (by kmk_part) (by assumption) (from_neg1 _) (by assumption) ?_ (by with_unfolding_all rfl) (by kmk_pure)); intro D ws h'' F' N' l1 hS')
      k_with "compareOp NotEq ref ref" => (k_here; k_dflt (refine ne_strs (by kmk_list) (by kmk_list) (by assumption) (.cons _ _ .nil) (ok_drop hok) (by kernel_rfl) (by ke_room) ?_))
      k_with "compareOp Eq ref ref" => (k_here; k_dflt (refine eq_strs (by kmk_list) (by kmk_list) (by assumption) (.cons _ _ .nil) (ok_drop hok') (by kernel_rfl) (by ke_room) ?_))
      k_with "subscriptTail Name BinOp ref int" => (k_here; k_dflt (refine KTb.item_list (by kmk_list) (.cons _ _ (.cons _ _ (.cons _ _ .nil))) (mod3 _).1 (mod3 _).2 (mod3' _) ?_); intro t'' _)
      k_with "call builtin:list.append" => (k_here; first | (k_dflt (refine app_ends (by k_asm) (by k_asm) ho (by intro p hp; repeat (first | exact hp | apply List.Mem.tail)) ve' ?_); intro h'' F' N') | (k_dflt (refine app_rows (by k_asm) (by k_asm) ho (by intro p hp; repeat (first | exact hp | apply List.Mem.tail)) vr' ?_); intro h'' F' N') | refine hold_ ?_)
      k_with "InvEndN" => (refine hold_ ?_)
      k_steps
      all_goals unfold Hold
      all_goals try first | exact bad1 (by assumption) (by assumption) | exact bad2 (by assumption) (by assumption)
      · exact plan_end (step1 (by assumption) (by assumption)) (by k_asm) (by k_asm) (hr.append' (.cons _ _ .nil)) (he.append' (.cons _ _ .nil)) (by intro p hp; repeat (first | exact hp | apply List.Mem.tail)) rfl rfl rfl
      · exact plan_end (step2 (by assumption) (by assumption) (by assumption) (by assumption)) (by k_asm) (by k_asm) (hr.append' (.cons _ _ .nil)) (he.append' (.cons _ _ .nil)) (by intro p hp; repeat (first | exact hp | apply List.Mem.tail)) rfl rfl rfl
      · exact plan_end (step3 (by assumption) (by assumption) (by assumption) (by assumption)) (by k_asm) (by k_asm) (hr.append' (.cons _ _ .nil)) (he.append' (.cons _ _ .nil)) (by intro p hp; repeat (first | exact hp | apply List.Mem.tail)) rfl rfl rfl
      · exact plan_end (step4 (by assumption) (by assumption) (by assumption)) (by k_asm) (by k_asm) (hr.append' (.cons _ _ .nil)) (he.append' (.cons _ _ .nil)) (by intro p hp; repeat (first | exact hp | apply List.Mem.tail)) rfl rfl rfl
      · exact plan_end (step5 (by assumption) (by assumption)) (by k_asm) (by k_asm) hr he (by intro p hp; repeat (first | exact hp | apply List.Mem.tail)) rfl rfl rfl
    · intro vr ve nr ne tp u h tk hr he F1 N1
      dsimp only [kstB] at F1
      have hz := planOk (List.take 10 ns ++ tails ((ns.length : Int).fmod 3).toNat)
      have hz2 : (planOf (List.take 10 ns ++ tails ((ns.length : Int).fmod 3).toNat)).ends.length ≤ 1000 := hz.e ▸ Nat.le_trans hz.r (by rw [List.length_append]; exact Nat.le_trans (tails_len _ _) (by decide))
      k_with "subscriptTail Name Slice ref ref" => (k_here; k_dflt (refine slice_strs (by k_asm) (by k_asm) (by k_mem) (by kmk_part) (by kmk_part) he (upto_neg1 _) hz2 ?_ (by with_unfolding_all rfl) (by kmk_pure)); intro D ws h'' F' N' l1 hS')
      k_with "binaryOp Add ref ref" => (k_here; k_dflt (refine add_strs (by k_asm) (by k_asm) (by kmk_list) (by kmk_list) (by assumption) (.cons _ _ .nil) (take_le hz2) ?_); intro D2 h' F' N' lt' hi')
      k_steps
      refine hret _ _ _ _ (by k_asm) (cb_drop (by k_asm) plan_sub) ⟨_, _, _, _, _, _, _, rfl, rfl, hi', hr, ?_⟩
      exact ⟨ltN (by lia), lt' (_, listOf (List.toArray vr) nr) (by k_mem), by assumption⟩
end Mine
end
section
open PySem
namespace Mine
/-! ## a pattern as tokens -/
inductive Tk where
  | star | quest
  | lit (c : Nat)
  | br (k : Nat)
def brT : List (List Nat × Str) := [([33, 98, 45, 97], "."), ([98, 45, 97], "(?!)"), ([11, 46], "[\x0b.]"), ([33, 46], "[^.]"), ([46, 45, 97], "[.-a]"), ([93], "[]]"), ([94], "[\\^]"), ([38, 46], "[\\&.]"), ([97, 92], "[a\\\\]")]
def brBody (k : Nat) : List Nat := (brT.getD k ([], "")).1
def brOut (k : Nat) : Str := (brT.getD k ([], "")).2
def tkText : Tk → List Nat
  | .star => [42]
  | .quest => [63]
  | .lit c => [c]
  | .br k => 91 :: (brBody k ++ [93])
def tkOk : Tk → Bool
  | .lit c => c != 42 && c != 63 && c != 91 && decide (c < 0x110000)
  | .br k => decide (k < 9)
  | _ => true
def textOf (ts : List Tk) : List Nat := ts.flatMap tkText
/-- the tokens of a piece of the table -/
def tabTk : List (List Tk) := [[.star], [.star, .star], [.quest], [.br 0], [.br 1], [.lit 46], [.br 2], [.br 3], [.br 4], [.br 5], [.lit 93], [.lit 45], [.lit 92], [.br 6], [.br 7], [.lit 9], [.lit 33], [.br 8]]
def pieceTk (v : Int) : List Tk := if v.fmod 20 < 18 then tabTk.getD (v.fmod 20).toNat [] else (signOf v).cps.toList.map .lit
theorem tab_tk : ∀ i, i < 18 → ((tabP.getD i ("", "")).1.cps.toList == textOf (tabTk.getD i [])) = true ∧ ((tabTk.getD i []).all tkOk) = true := by decide +kernel
theorem isIn_one (t : Str) (c : Nat) : isIn ⟨#[c]⟩ t = decide (c ∈ t.cps.toList) := StrLaws.found_one t c
theorem sign_one (v : Int) : ∃ c, signOf v = ⟨#[c]⟩ ∧ c ∉ [42, 63, 91, 13, 10] ∧ c < 0x110000 := by
  have key : ∃ c, rawSign v = ⟨#[c]⟩ ∧ c < 0x110000 := by
    unfold rawSign
    split
    · exact ⟨_, rfl, (code_up v).1⟩
    · exact ⟨_, rfl, (code_up v).2⟩
  obtain ⟨c, e, hc⟩ := key
  unfold signOf
  rw [e, isIn_one, show (Str.ofString "*?[\r\n").cps.toList = [42, 63, 91, 13, 10] by decide +kernel]
  by_cases h : c ∈ [42, 63, 91, 13, 10]
  · rw [decide_eq_true h]
    exact ⟨97, (if_pos rfl).trans (by decide +kernel), by decide, by decide⟩
  · rw [decide_eq_false h]
    exact ⟨c, rfl, h, hc⟩
theorem piece_tk (v : Int) : (pieceOf v).1.cps.toList = textOf (pieceTk v) ∧ (pieceTk v).all tkOk = true := by
  unfold pieceOf pieceTk
  split
  · next h =>
    have h0 := Int.fmod_nonneg_of_pos v (show (0 : Int) < 20 by decide)
    have := tab_tk (v.fmod 20).toNat (by omega)
    exact ⟨eq_of_beq this.1, this.2⟩
  · obtain ⟨c, e, h, hc⟩ := sign_one v
    rw [e]
    refine ⟨rfl, ?_⟩
    have h1 : c ≠ 42 := fun q => h (by rw [q]; decide)
    have h2 : c ≠ 63 := fun q => h (by rw [q]; decide)
    have h3 : c ≠ 91 := fun q => h (by rw [q]; decide)
    show ([c].map Tk.lit).all tkOk = true
    simp [tkOk, h1, h2, h3, hc]
end Mine
end
section
open PySem
namespace Mine
def escIs (c : Nat) : Bool := [40, 41, 91, 93, 123, 125, 63, 42, 43, 45, 124, 94, 36, 92, 46, 38, 126, 35, 32, 9, 10, 13, 11, 12].contains c
def escOf (c : Nat) : Str := if escIs c then ⟨#[92, c]⟩ else ⟨#[c]⟩
/-- the parts of a pattern: none is the star -/
def addPart (mark : Str) (ps : List (Option Str)) : Tk → List (Option Str)
  | .star => if ps.getLast? = some none then ps else ps ++ [none]
  | .quest => ps ++ [some mark]
  | .lit c => ps ++ [some (escOf c)]
  | .br k => ps ++ [some (brOut k)]
def partsOf (mark : Str) (ts : List Tk) : List (Option Str) := ts.foldl (addPart mark) []
inductive PartsAre (st : Addr) : List Value → List (Option Str) → Prop
  | nil : PartsAre st [] []
  | star {vs : List Value} {ps : List (Option Str)} : PartsAre st vs ps → PartsAre st (.ref st :: vs) (none :: ps)
  | text {x : Str} {t : Tok} {vs : List Value} {ps : List (Option Str)} : PartsAre st vs ps → PartsAre st (.str x t :: vs) (some x :: ps)
theorem PartsAre.snoc_text {st : Addr} {x : Str} {t : Tok} {vs : List Value} {ps : List (Option Str)} (h : PartsAre st vs ps) : PartsAre st (vs ++ [.str x t]) (ps ++ [some x]) := by
  induction h with
  | nil => exact .text .nil
  | star _ ih => exact .star ih
  | text _ ih => exact .text ih
theorem PartsAre.snoc_star {st : Addr} {vs : List Value} {ps : List (Option Str)} (h : PartsAre st vs ps) : PartsAre st (vs ++ [.ref st]) (ps ++ [none]) := by
  induction h with
  | nil => exact .star .nil
  | star _ ih => exact .star ih
  | text _ ih => exact .text ih
theorem PartsAre.len {st : Addr} {vs : List Value} {ps : List (Option Str)} (h : PartsAre st vs ps) : vs.length = ps.length := by
  induction h with
  | nil => rfl
  | star _ ih => rw [List.length_cons, List.length_cons, ih]
  | text _ ih => rw [List.length_cons, List.length_cons, ih]
theorem PartsAre.last {st : Addr} {vs : List Value} {ps : List (Option Str)} (h : PartsAre st vs ps) : (ps = [] ∧ vs = []) ∨ (ps.getLast? = some none ∧ vs.getLast? = some (.ref st)) ∨ (∃ x t, ps.getLast? = some (some x) ∧ vs.getLast? = some (.str x t)) := by
  induction h with
  | nil => exact .inl ⟨rfl, rfl⟩
  | star _ ih =>
    rcases ih with ⟨rfl, rfl⟩ | ⟨a, b⟩ | ⟨x, t, a, b⟩
    · exact .inr (.inl ⟨rfl, rfl⟩)
    · exact .inr (.inl ⟨by rw [List.getLast?_cons, a]; rfl, by rw [List.getLast?_cons, b]; rfl⟩)
    · exact .inr (.inr ⟨x, t, by rw [List.getLast?_cons, a]; rfl, by rw [List.getLast?_cons, b]; rfl⟩)
  | text _ ih =>
    rcases ih with ⟨rfl, rfl⟩ | ⟨a, b⟩ | ⟨x, t, a, b⟩
    · exact .inr (.inr ⟨_, _, rfl, rfl⟩)
    · exact .inr (.inl ⟨by rw [List.getLast?_cons, a]; rfl, by rw [List.getLast?_cons, b]; rfl⟩)
    · exact .inr (.inr ⟨x, t, by rw [List.getLast?_cons, a]; rfl, by rw [List.getLast?_cons, b]; rfl⟩)
/-- a sign of a text, by its place -/
def chAt (x : Str) (i : Int) (c : Nat) : Prop := 0 ≤ i ∧ x.cps.toList[i.toNat]? = some c
theorem chAt_of {x : Str} {a b : List Nat} {c : Nat} (i : Int) (e : x.cps.toList = a ++ c :: b) (hi : i = (a.length : Nat)) : chAt x i c := by
  subst hi
  refine ⟨Int.natCast_nonneg _, ?_⟩
  rw [e, Int.toNat_natCast, List.getElem?_append_right (Nat.le_refl _), Nat.sub_self]; rfl
theorem partsOf_snoc (mark : Str) (ts : List Tk) (t : Tk) : partsOf mark (ts ++ [t]) = addPart mark (partsOf mark ts) t := by
  unfold partsOf; rw [List.foldl_append]; rfl
theorem textOf_snoc (ts : List Tk) (t : Tk) : (textOf (ts ++ [t])).length = (textOf ts).length + (tkText t).length := by
  unfold textOf; rw [List.flatMap_append, List.length_append, List.flatMap_cons, List.flatMap_nil, List.append_nil]
theorem turn_text {pat : Str} {ts done rest : List Tk} {tok : Tk} (h : pat.cps.toList = textOf ts) (e : ts = done ++ tok :: rest) : pat.cps.toList = textOf done ++ (tkText tok ++ textOf rest) := by
  rw [h, e]; unfold textOf; rw [List.flatMap_append, List.flatMap_cons]
theorem len_text {pat : Str} {l : List Nat} (h : pat.cps.toList = l) : pat.length = l.length := by rw [← h]; simp [Str.length]
theorem addPart_le (mark : Str) (ps : List (Option Str)) (t : Tk) : (addPart mark ps t).length ≤ ps.length + (tkText t).length := by
  cases t with
  | star =>
    unfold addPart tkText
    dsimp only
    split
    · exact Nat.le_add_right _ _
    · rw [List.length_append]; exact Nat.le_refl _
  | quest => unfold addPart tkText; dsimp only; rw [List.length_append]; exact Nat.le_refl _
  | lit c => unfold addPart tkText; dsimp only; rw [List.length_append]; exact Nat.le_refl _
  | br k => unfold addPart tkText; dsimp only; rw [List.length_append]; exact Nat.add_le_add_left (Nat.succ_le_succ (Nat.zero_le _)) _
theorem parts_le (mark : Str) (ts : List Tk) : ∀ ps : List (Option Str), (ts.foldl (addPart mark) ps).length ≤ ps.length + (textOf ts).length := by
  induction ts with
  | nil => intro ps; exact Nat.le_add_right _ _
  | cons t ts ih =>
    intro ps
    have h1 := ih (addPart mark ps t)
    have h2 := addPart_le mark ps t
    have h3 : (textOf (t :: ts)).length = (tkText t).length + (textOf ts).length := by unfold textOf; rw [List.flatMap_cons, List.length_append]
    rw [List.foldl_cons]
    lia
theorem parts_small {pat mark : Str} {ts done rest : List Tk} {vs : List Value} {st : Addr} (h : PartsAre st vs (partsOf mark done)) (hts : pat.cps.toList = textOf ts) (e : ts = done ++ rest) (hz : pat.length ≤ 1000) : vs.length ≤ 1000 := by
  have h1 : (partsOf mark done).length ≤ 0 + (textOf done).length := parts_le mark done []
  have h2 := len_text hts
  have h3 : (textOf ts).length = (textOf done).length + (textOf rest).length := by rw [e]; unfold textOf; rw [List.flatMap_append, List.length_append]
  have := h.len
  lia
theorem star_add {mark : Str} {ps : List (Option Str)} (h : ps.getLast? ≠ some none) : addPart mark ps .star = ps ++ [none] := if_neg h
theorem one_ne {c d : Nat} (h : c ≠ d) : ((⟨#[c]⟩ : Str) == ⟨#[d]⟩) = false := by
  rw [beq_eq_false_iff_ne]
  intro e
  exact h (by injection e with e; injection e with e; injection e)
theorem br_part {st : Addr} {vs : List Value} {mark x : Str} {t : Tok} {ps : List (Option Str)} {k : Nat} (h : PartsAre st vs ps) (e : (x == brOut k) = true) : PartsAre st (vs ++ [.str x t]) (addPart mark ps (.br k)) := by
  rw [eq_of_beq e]; exact h.snoc_text
theorem star_no {mark : Str} {ps : List (Option Str)} (h : ps.getLast? = some none) : addPart mark ps .star = ps := if_pos h
end Mine
end
section
open PySem PySem.W PyProof.Rows PySem.Calls
set_option Elab.async false
set_option maxRecDepth 100000
namespace Mine
theorem slot_md_get : Slot "method_descriptor" "__get__" "method_descriptor.__get__" :=
  .of (owner := "method_descriptor") (n := "__get__") (by rw [typeLookup_type, builtinLookup_eq_fast]; kernel_rfl) (by decide +kernel) (by decide +kernel) (by decide +kernel)
    (by first | exact .inl (by decide +kernel) | exact .inr (by decide +kernel)) (by rw [isSubtype_type]; kernel_rfl)
theorem no_md_set : typeLookup (.type "method_descriptor") "__set__" = pure none := by rw [typeLookup_type, builtinLookup_eq_fast]; kernel_rfl
theorem no_md_del : typeLookup (.type "method_descriptor") "__delete__" = pure none := by rw [typeLookup_type, builtinLookup_eq_fast]; kernel_rfl
theorem entry_md_get : entryFor table "method_descriptor.__get__" = some Builtin.«method_descriptor.__get__» := entryFor_of_tree (by kernel_rfl)
theorem args_md_get (a b c : Value) : argsOk "method_descriptor.__get__" ⟨[a, b, c], []⟩ := by unfold argsOk; kernel_rfl
theorem lk_list_append : typeLookup (.type "list") "append" = pure (some (.builtin "list.append")) := by rw [typeLookup_type, builtinLookup_eq_fast]; kernel_rfl
theorem typeOf_list_append : typeOf (.builtin "list.append") = pure (.type "method_descriptor") := by show builtinType _ = _; rw [builtinType_eq_fast]; kernel_rfl
theorem owner_list_append : (".".intercalate ("list.append".cutAt '.').dropLast) = "list" := by
  have e0 : "list.append".cutAt '.' = ["list", "append"] := by first | rfl | decide +kernel
  rw [e0]; decide +kernel
theorem sub_list_append : isSubtype (.type "list") (.type (".".intercalate ("list.append".cutAt '.').dropLast)) = pure true := by
  rw [owner_list_append, isSubtype_type]; kernel_rfl
abbrev boundO (a : Addr) : Obj := { cls := .type "builtin_function_or_method", data := .fields #[.builtin "list.append", .ref a] }
section
variable {prog : Program} {w : World} {A : Around} {E : Value → Shared → Prop} {h : Heap} {g : Array GenState} {d : Drawn} {t : Nat} {os : OsState} {a : Addr} {o : Obj} {its : Array Value} {n : Nat}
theorem append_get {R : Result → Shared → Prop} (hx : h.get? a = some o) (hc : o.cls = .type "list") (hq : R (.ok (.ret (.ref h.objs.size))) ⟨h.push (boundO a), g, d, t, os⟩) :
    codeAny (model prog w) A (.call (.builtin "method_descriptor.__get__") ⟨[.builtin "list.append", .ref a, .type "list"], []⟩) R ⟨h, g, d, t, os⟩ := by
  have hT : (⟨h, g, d, t, os⟩ : Shared).TypeIs (.ref a) "list" := ⟨_, hx, hc⟩
  have hT5 : (⟨h, g, d, t, os⟩ : Shared).TypeIs (.builtin "list.append") "method_descriptor" := typeOf_list_append
  have f8 := sub_list_append
  refine codeAny_call_builtin slot_md_get.plain entry_md_get (slot_md_get.check _ _ _ _ _ _ _ _ hT5 (args_md_get _ _ _) ?_)
  repeat (any_goals (first | assumption | wp_step))
theorem append_entry {tk : Tok} {Q : PySem.Fin → Shared → Prop} (hx : h.get? a = some (listOf its n)) (hq : Q (.done (.ret (.ref h.objs.size))) ⟨h.push (boundO a), g, d, t, os⟩) :
    wpAny (model prog w) A (Builtin.«object.__getattribute__» ⟨[.ref a, .str "append" tk], []⟩) Q E ⟨h, g, d, t, os⟩ := by
  have hT : (⟨h, g, d, t, os⟩ : Shared).TypeIs (.ref a) "list" := ⟨_, hx, rfl⟩
  have hT5 : (⟨h, g, d, t, os⟩ : Shared).TypeIs (.builtin "list.append") "method_descriptor" := typeOf_list_append
  have f4 := lk_list_append
  have f5 := typeOf_list_append
  have f6 := slot_md_get.lookup
  have f7 := no_md_set
  have f9 := no_md_del
  repeat (any_goals (first | assumption | wp_step))
  refine append_get hx rfl ?_
  repeat (any_goals (first | assumption | wp_step))
theorem append_call {tk : Tok} {R : Result → Shared → Prop} (hx : h.get? a = some (listOf its n)) (hq : R (.ok (.ret (.ref h.objs.size))) ⟨h.push (boundO a), g, d, t, os⟩) :
    codeAny (model prog w) A (.call (.builtin "list.__getattribute__") ⟨[.ref a, .str "append" tk], []⟩) R ⟨h, g, d, t, os⟩ :=
  codeAny_call_builtin PySem.F.slot_list_getattribute.plain PySem.F.entry_list_ga (PySem.F.slot_list_getattribute.check _ _ _ _ _ _ _ _ (show (⟨h, g, d, t, os⟩ : Shared).TypeIs (.ref a) "list" from ⟨_, hx, rfl⟩) (PySem.F.args_list_getattribute_2 _ _) (append_entry hx hq))
theorem append_attr {Q : Value → Shared → Prop} (hx : h.get? a = some (listOf its n)) (hq : Q (.ref h.objs.size) ⟨h.push (boundO a), g, d, t + 1, os⟩) :
    wpAny (model prog w) A (getAttr (.ref a) (Str.ofString "append") true) Q E ⟨h, g, d, t, os⟩ := by
  have hT : (⟨h, g, d, t, os⟩ : Shared).TypeIs (.ref a) "list" := ⟨_, hx, rfl⟩
  have f2 := PySem.F.slot_list_getattribute.lookup
  have f3 := PySem.F.slot_list_getattribute.bind (.ref a)
  unfold getAttr getAttrBy
  repeat (any_goals (first | assumption | wp_step))
  refine append_call hx ?_
  repeat (any_goals (first | assumption | wp_step))
theorem kind_append : builtinKind "list.append" = some .method := by kernel_rfl
theorem sub_list_module : isSubtype (.type "list") (.type "module") = pure false := by rw [isSubtype_type]; kernel_rfl
theorem check_append (a : Addr) (x : Value) : (Manifest.signature? "list.append").map (fun sig => Bind.checkArgs "list.append" { sig with full := toString (Bind.lastOf "list") ++ toString "." ++ toString (Bind.lastOf "list.append") } ⟨[.ref a, x], []⟩) = some (pure ()) := by kernel_rfl
theorem bound_isType {Q : Bool → Shared → Prop} (hx : h.get? a = some (listOf its n)) (hq : Q false ⟨h, g, d, t, os⟩) : wpAny (model prog w) A (isType (.ref a)) Q E ⟨h, g, d, t, os⟩ := by
  repeat (any_goals (first | assumption | wp_step))
theorem bound_append {b : Addr} {x : Value} {Q : Value → Shared → Prop} (hb : h.get? b = some (boundO a)) (hx : h.get? a = some (listOf its n))
    (hq : ∀ h', Heap.SameBut a h h' → h'.get? a = some (listOf (its.push x) (n + 1)) → Q .none ⟨h', g, d, t, os⟩) (hsz : its.size ≤ sizeLine) :
    wpAny (model prog w) A (call (.ref b) [x]) Q E ⟨h, g, d, t, os⟩ := by
  have hT : (⟨h, g, d, t, os⟩ : Shared).TypeIs (.ref a) "list" := ⟨_, hx, rfl⟩
  refine wpAny_call (codeAny_of_tree ?_)
  show wpAny _ A.in1 (callAny (.ref b) ⟨[x], []⟩) _ _ _
  unfold callAny
  refine wpAny_bind (wpAny_load hb ?_)
  show wpAny _ _ (do checkBoundCall "list.append" ⟨[.ref a, x], []⟩; again (.builtin "list.append" ⟨[.ref a, x], []⟩)) _ _ _
  refine wpAny_bind ?_
  unfold checkBoundCall
  have e1 := check_append a x
  have e2 := sub_list_module
  cases hs : Manifest.signature? "list.append" with
  | none => rw [hs] at e1; cases e1
  | some sig =>
    rw [hs] at e1
    have e3 := Option.some.inj e1
    rw [kind_append]
    show wpAny _ _ (if false = true then _ else _) _ _ _
    rw [if_neg (by decide)]
    refine wpAny_bind (wpAny_isInstance hT sub_list_module ?_)
    show wpAny _ _ (if (Manifest.varargsMethods.contains "list.append" || false) = true then _ else _) _ _ _
    rw [if_neg (by decide +kernel)]
    refine wpAny_bind (?_ : wpAny _ _ (isType (.ref a)) _ _ _)
    refine bound_isType hx ?_
    show wpAny _ _ (if false = true then _ else _) _ _ _
    rw [if_neg (by decide)]
    refine wpAny_bind (wpAny_typeOf hT ?_)
    refine wpAny_of_eq e3 ?_
    refine wpAny_pure ⟨Code.quiet_builtin _ (by decide +kernel), codeAny_builtin entry_list_append ?_⟩
    show wpAny _ _ (updateSeq a (·.push x) >>= fun _ => ret .none) _ _ _
    refine wpAny_bind ?_
    refine wpAny_updateSeq hx rfl (wpAny_pure (hq _ (Heap.SameBut.update ..) ?_))
    rw [Heap.get?_update_self _ hx (by rw [mapSeq_push]; rfl), mapSeq_push]
end
section
variable {prog : Program} {w : World} {A : Around} {E : Value → Shared → Prop} {s : Shared} {h₀ : Heap} {L D b : Addr} {m : Str → Option Value} {news news' : List (Addr × Obj)} {its : Array Value} {n : Nat} {x : Value} {Q : Value → Shared → Prop}
/-- D.append, held -/
theorem append_held (F : Fr h₀ L s.heap m) (N : News h₀ L s.heap news) (hm : (D, listOf its n) ∈ news)
    (h : ∀ b h' tk', Fr h₀ L h' m → News h₀ L h' ((b, boundO D) :: news) → (∀ q ∈ news, q.1 < b) → Q (.ref b) { s with heap := h', toks := tk' }) : wpAny (model prog w) A (getAttr (.ref D) (Str.ofString "append") true) Q E s :=
  append_attr (N.get hm) (h _ _ _ (F.push _) (N.push F _) fun q hq => Heap.lt_size (N q hq).1)
/-- the call of what was held -/
theorem append_called (F : Fr h₀ L s.heap m) (N : News h₀ L s.heap news) (hb : (b, boundO D) ∈ news) (U : Upd D (listOf its n) (listOf (its.push x) (n + 1)) news news') (hz : its.size ≤ 1000)
    (h : ∀ h', Fr h₀ L h' m → News h₀ L h' news' → Q .none { s with heap := h' }) : wpAny (model prog w) A (call (.ref b) [x]) Q E s := by
  obtain ⟨pre, post, rfl, rfl, u1, u2⟩ := U.split
  have z := N (D, listOf its n) (List.mem_append.mpr (.inr (.head _)))
  exact bound_append (N.get hb) z.1 (fun h' hs ho' => h h' (F.change hs z.2.1 z.2.2) (news_set N u1 u2 hs ho')) (Nat.le_trans hz (by decide))
theorem callWith_flds {M : Model} {pos : Pos} {first : List Value} {args : List (Bool × Sem Value)} (hplain : args.any (·.1) = false)
    (h : wpAny M A (evalArgs (.ref b) true args []) (fun x s₁ => s₁.heap.get? b = some (boundO D) ∧ wpAny M A (call (.ref b) (first ++ x.pos) x.kw) Q E s₁) E s) : wpAny M A (callWith pos (.ref b) first args []) Q E s := by
  unfold callWith
  refine wpAny_bind (wpAny_holding (wpAny_mono h (fun x s₁ h₁ => wpAny_bind (wpAny_standAt ?_)) fun _ _ x => x))
  obtain ⟨ho, hcall⟩ := h₁
  simp only [hplain, List.any_nil, Bool.or_false]
  refine wpAny_bind (m := keeperOf (.ref b)) ?_
  unfold keeperOf
  refine wpAny_bind (wpAny_load ho ?_)
  simp only [boundO, show (Value.type "builtin_function_or_method" != Value.type "method") = true by decide, show (Value.type "builtin_function_or_method" == Value.type "builtin_function_or_method" || Value.type "builtin_function_or_method" == Value.type "method-wrapper") = true by decide, if_true]
  refine wpAny_pure ?_
  exact wpAny_bind (wpAny_mono hcall (fun r s₂ hr => wpAny_bind (wpAny_holding (wpAny_point (wpAny_pure hr)))) fun _ _ x => x)
theorem callWith_held {M : Model} {pos : Pos} {first : List Value} {env : Env} {e : PySem.Expr} {rest : List PySem.Expr}
    (h : wpAny M A (spliced (backTo pos (starEach (e :: rest) env))) (fun vs s₁ => s₁.heap.get? b = some (boundO D) ∧ wpAny M A (call (.ref b) (first ++ vs)) Q E s₁) E s)
    (he : starEach (e :: rest) env = (false, eval e env) :: starEach rest env := by rfl) (hplain : (backTo pos (starEach rest env)).any (·.1) = false := by rfl) :
    wpAny M A (callWith pos (.ref b) first (backTo pos (starEach (e :: rest) env)) []) Q E s := by
  rw [he] at h ⊢
  refine callWith_flds (D := D) (by show (false || (backTo pos (starEach rest env)).any (·.1)) = false; rw [hplain]; rfl) ?_
  exact evalArgs_plain h
end
end Mine
end
section
open PySem PySem.W PyProof.Rows PySem.Calls
set_option Elab.async false
namespace Mine
/-- a def's contract, with more room -/
abbrev ClaimN (k : Nat) (w : World) (f : Addr) (news : List (Addr × Obj)) (vs : List Value) (R : Value → List (Addr × Obj) → Prop) : Prop :=
  ∀ (p : Program) (loose : List Str) (mean : ExcName → Option Value) (mg mb : Str → Option Value) (dp un : Nat) (gd : Option (List Code)) (cn : Str) (cs : Scope) (a : Addr) (ccd : Value) (cl : List (Str × Addr)) (outer : List Env) (A₀ : Around) (base h₀ : Heap) (L : Addr) (m : Str → Option Value) (s : Shared) (Q E : Value → Shared → Prop),
    Below A₀ base outer h₀ → Fr h₀ L s.heap m → (KF w.params).In h₀ → News h₀ L s.heap news → Top p loose mean mg mb h₀ → CodeHd h₀ 78 74 → cs.kind = .function → dp + 8 * k < recursionLimit → un + 64 * k < cLine →
    RetK h₀ L m s Q R → wpAny (model PySem.Challenge.rw_ij0163_01.row.prog w) (ktrTop dp un gd cn cs L a ccd cl outer) (call (.ref f) vs) Q E s
def HeldNow (P R : Prop) : Prop := P ∧ R
theorem heldNow_ {P R : Prop} (h : P) (k : R) : HeldNow P R := ⟨h, k⟩
section
variable {prog : Program} {w : World} {A : Around} {E : Value → Shared → Prop} {s : Shared} {h₀ : Heap} {L D b : Addr} {m : Str → Option Value} {news news' : List (Addr × Obj)} {Q : Value → Shared → Prop} {x y : Str} {t u : Tok}
theorem callW_held {M : Model} {pos : Pos} {first : List Value} {env : Env} {e : PySem.Expr} {rest : List PySem.Expr} (N : News h₀ L s.heap news) (hm : (b, boundO D) ∈ news)
    (h : wpAny M A (spliced (backTo pos (starEach (e :: rest) env))) (fun vs s₁ => HeldNow (s₁.heap.get? b = some (boundO D)) (wpAny M A (call (.ref b) (first ++ vs)) Q E s₁)) E s)
    (he : starEach (e :: rest) env = (false, eval e env) :: starEach rest env := by rfl) (hplain : (backTo pos (starEach rest env)).any (·.1) = false := by rfl) :
    wpAny M A (callWith pos (.ref b) first (backTo pos (starEach (e :: rest) env)) []) Q E s := callWith_held h he hplain
theorem item_c {i : Int} {c : Nat} {value slice : PySem.Expr} (hc : chAt x i c) (hz : x.length ≤ 1000) (h : ∀ t' tk', Q (.str ⟨#[c]⟩ t') { s with toks := tk' })
    (hs : subscripted slice false (.str x t) (.int i u) = operate [.str x t, .int i u] (getItem (.str x t) (.int i u)) := by with_unfolding_all rfl)
    (ht : ∀ r, letTemporaryGo value (.str x t) r = pure () := by intro _; with_unfolding_all rfl) : wpAny (model prog w) A (subscriptTail value slice (.str x t) (.int i u)) Q E s := by
  obtain ⟨h0, h1⟩ := hc
  have hl : i.toNat < x.length := by
    rcases Nat.lt_or_ge i.toNat x.cps.toList.length with h | h
    · simpa [Str.length] using h
    · rw [List.getElem?_eq_none h] at h1; cases h1
  have e : Txt.item x i = ⟨#[c]⟩ := item_meets h0 (by rw [← h1]; simp)
  refine item_str (fitsSsize_of (N := 1000) (by lia) (by lia) (by decide)) (by lia) (by lia) (fun _ => ?_) hs ht
  rw [e]; exact h _ _
theorem eq_is {v : Bool} (e : (x == y) = v) (h : Q (.bool v) s) : wpAny (model prog w) A (compareOp .Eq (.str x t) (.str y u)) Q E s := eq_str (by rw [e]; exact h)
theorem ne_is {v : Bool} (e : (x != y) = v) (h : Q (.bool v) s) : wpAny (model prog w) A (compareOp .NotEq (.str x t) (.str y u)) Q E s := ne_str (by rw [e]; exact h)
theorem eqL {l : List Nat} {c : Nat} (h : c ∉ l) : ([c] == l) = false ∨ l = [c] → ([c] == l) = false := fun k => k.resolve_right fun e => h (by rw [e]; exact .head _)
theorem lt_is {a c : Int} {v : Bool} (e : decide (a < c) = v) (h : Q (.bool v) s) : wpAny (model prog w) A (compareOp .Lt (.int a t) (.int c u)) Q E s := PyProof.Rows.lt_int (by rw [e]; exact h)
theorem ge_is {a c : Int} {v : Bool} (e : decide (a ≥ c) = v) (h : Q (.bool v) s) : wpAny (model prog w) A (compareOp .GtE (.int a t) (.int c u)) Q E s := ge_int (by rw [e]; exact h)
theorem eqi_is {a c : Int} {v : Bool} (e : (a == c) = v) (h : Q (.bool v) s) : wpAny (model prog w) A (compareOp .Eq (.int a t) (.int c u)) Q E s := PyProof.Rows.eq_int (by rw [e]; exact h)
theorem notIn_is {v : Bool} (e : (!(!(Builtin.Str.occurrences x y 0 x.length 1).isEmpty)) = v) (h : Q (.bool v) s) : wpAny (model prog w) A (compareOp .NotIn (.str y u) (.str x t)) Q E s := notIn_str (by rw [e]; exact h)
theorem truthy_L {vs : List Value} {n : Nat} {Q : Bool → Shared → Prop} (N : News h₀ L s.heap news) (hm : (D, listOf vs.toArray n) ∈ news) {v : Bool} (hz : vs.length ≤ 1000) (hv : (!vs.isEmpty) = v) (h : ∀ tk', Q v { s with toks := tk' }) : wpAny (model prog w) A (truthy (.ref D)) Q E s := by
  subst hv
  refine wpAny_truthy_list (listOf_isList (N.get hm)) ?_ ?_
  · rw [List.size_toArray]; lia
  · have e : vs.toArray.isEmpty = vs.isEmpty := by cases vs <;> rfl
    rw [e]; exact h _
theorem last_item {vs : List Value} {v : Value} {n : Nat} {value slice : PySem.Expr} (N : News h₀ L s.heap news) (hm : (D, listOf vs.toArray n) ∈ news) (hl : vs.getLast? = some v) (h : Q v s)
    (hs : subscripted slice false (.ref D) (.int (-1) u) = operate [.ref D, .int (-1) u] (getItem (.ref D) (.int (-1) u)) := by with_unfolding_all rfl) :
    wpAny (model prog w) A (subscriptTail value slice (.ref D) (.int (-1) u)) Q E s := by
  have hI := listOf_isList (N.get hm)
  have hp : 0 < vs.length := by cases vs with
    | nil => cases hl
    | cons => exact Nat.succ_pos _
  refine tail_any hI.typeIs slot_list_getitem.lookup (wpAny_getItem_list_neg hI (by decide) ?_ (by decide) ?_ h) hs
  · rw [List.size_toArray]; lia
  · rw [List.size_toArray, show ((-1 : Int) + vs.length).toNat = vs.length - 1 by lia, ← hl, List.getLast?_eq_getElem?]
    simp
structure Apart (b D : Addr) (rest : List (Addr × Obj)) : Prop where
  a : b ≠ D
  o : ∀ q ∈ rest, q.1 ≠ D
  o2 : ∀ q ∈ rest, q.1 ≠ b
theorem tr_add {vs : List Value} {n : Nat} {v : Value} {rest big : List (Addr × Obj)} (F : Fr h₀ L s.heap m) (N : News h₀ L s.heap big) (ap : Apart b D rest)
    (sub : ∀ p ∈ (b, boundO D) :: (D, listOf (List.toArray vs) n) :: rest, p ∈ big) (hz : vs.length ≤ 1000)
    (h : ∀ h', Fr h₀ L h' m → News h₀ L h' ((b, boundO D) :: (D, listOf (List.toArray (vs ++ [v])) (n + 1)) :: rest) → Q .none { s with heap := h' }) : wpAny (model prog w) A (call (.ref b) [v]) Q E s :=
  append_called F (cb_drop N sub) (.head _) (.tail ap.a (.head ap.o)) (by rw [List.size_toArray]; exact hz) fun h' F' N' => h h' F' (by rw [← List.push_toArray]; exact N')
end
abbrev lp : Pos := { line := 69, col := 46, endLine := 69, endCol := 83 }
abbrev lq : Str := "_translate.<locals>.<lambda>"
/-- the table of _translate's inner codes -/
def TabL (tl : List (Addr × Obj)) : Prop :=
  ∃ ps codes, tl = (74, tabObj ps) :: codes ∧ TriplesOk ps.toList ∧ (∀ q ∈ codes, q.1 ≠ 74) ∧ ∀ c, codeAmong lp ps.toList = some c → ∃ a oc vs t, c = Value.ref a ∧ (a, oc) ∈ codes ∧ oc.data = .fields vs ∧ vs[1]? = some (.str lq t)
theorem TabL.start : TabL [(74, tabObj #[])] := ⟨#[], [], rfl, trivial, fun _ h => (nomatch h), fun _ h => by cases h⟩
theorem TabL.at {tl : List (Addr × Obj)} (h : TabL tl) : ∃ o, (74, o) ∈ tl := by
  obtain ⟨ps, codes, rfl, _⟩ := h
  exact ⟨_, .head _⟩
theorem lam_ne {front tl : List (Addr × Obj)} {b D : Addr} {o1 o2 : Obj} (ap : Apart b D (front ++ tl)) (hT : TabL tl) (hfr : ∀ q ∈ front, q.1 ≠ 74) : ∀ q ∈ [(b, o1), (D, o2)] ++ front, q.1 ≠ 74 := fun q hq => by
  obtain ⟨o, ho⟩ := hT.at
  rcases List.mem_cons.mp hq with rfl | hq
  · exact fun e => ap.o2 _ (List.mem_append_right _ ho) e.symm
  rcases List.mem_cons.mp hq with rfl | hq
  · exact fun e => ap.o _ (List.mem_append_right _ ho) e.symm
  · exact hfr q hq
theorem apart_on {pre front tl tl' : List (Addr × Obj)} {b D : Addr} (ap : Apart b D (front ++ tl)) (hT : TabL tl) (h1 : ∃ o, (D, o) ∈ pre) (h2 : ∃ o, (b, o) ∈ pre)
    (hd : ∀ d, d ≠ 74 → (∃ o, (d, o) ∈ pre) → (∀ q ∈ tl, q.1 ≠ d) → ∀ q ∈ tl', q.1 ≠ d) : Apart b D (front ++ tl') := by
  obtain ⟨o, ho⟩ := hT.at
  refine ⟨ap.a, fun q hq => ?_, fun q hq => ?_⟩
  · rcases List.mem_append.mp hq with hq | hq
    · exact ap.o q (List.mem_append_left _ hq)
    · exact hd D (fun e => ap.o _ (List.mem_append_right _ ho) e.symm) h1 (fun q hq => ap.o q (List.mem_append_right _ hq)) q hq
  · rcases List.mem_append.mp hq with hq | hq
    · exact ap.o2 q (List.mem_append_left _ hq)
    · exact hd b (fun e => ap.o2 _ (List.mem_append_right _ ho) e.symm) h2 (fun q hq => ap.o2 q (List.mem_append_right _ hq)) q hq
abbrev trNames (pat mark : Str) (st D b : Addr) (i : Int) (t1 t2 ti tn : Tok) : List (Str × Value) :=
  [("pat", .str pat t1), ("STAR", .ref st), ("QUESTION_MARK", .str mark t2), ("res", .ref D), ("add", .ref b), ("i", .int i ti), ("n", .int pat.length tn)]
/-- what a call hands back; the generators may have grown -/
abbrev RetKG (h₀ : Heap) (L : Addr) (m : Str → Option Value) (s : Shared) (Q : Value → Shared → Prop) (R : Value → List (Addr × Obj) → Prop) : Prop :=
  ∀ (v : Value) (h' : Heap) (tk' : Nat) (g' : Array GenState) (news' : List (Addr × Obj)), (AllBare s.gens → AllBare g') → Fr h₀ L h' m → News h₀ L h' news' → R v news' → Q v { s with heap := h', toks := tk', gens := g' }
abbrev ClaimG (k : Nat) (w : World) (f : Addr) (news : List (Addr × Obj)) (vs : List Value) (R : Value → List (Addr × Obj) → Prop) : Prop :=
  ∀ (p : Program) (loose : List Str) (mean : ExcName → Option Value) (mg mb : Str → Option Value) (dp un : Nat) (gd : Option (List Code)) (cn : Str) (cs : Scope) (a : Addr) (ccd : Value) (cl : List (Str × Addr)) (outer : List Env) (A₀ : Around) (base h₀ : Heap) (L : Addr) (m : Str → Option Value) (s : Shared) (Q E : Value → Shared → Prop),
    Below A₀ base outer h₀ → Fr h₀ L s.heap m → (KF w.params).In h₀ → News h₀ L s.heap news → Top p loose mean mg mb h₀ → CodeHd h₀ 78 74 → cs.kind = .function → dp + 8 * k < recursionLimit → un + 64 * k < cLine →
    RetKG h₀ L m s Q R → wpAny (model PySem.Challenge.rw_ij0163_01.row.prog w) (ktrTop dp un gd cn cs L a ccd cl outer) (call (.ref f) vs) Q E s
def WhileStepG (h₀ : Heap) (L : Addr) (s : Shared) (J : Nat → (Str → Option Value) → List (Addr × Obj) → Prop) (Q : Flow → Shared → Prop) (n : Nat) (f : Flow) (s₃ : Shared) : Prop :=
  match f with
  | .next | .cont => ∃ h' tk g m₂ news₂ n', s₃ = { s with heap := h', toks := tk, gens := g } ∧ (AllBare s.gens → AllBare g) ∧ Fr h₀ L h' m₂ ∧ News h₀ L h' news₂ ∧ n' < n ∧ J n' m₂ news₂
  | .brk => Q .next s₃
  | .ret v => Q (.ret v) s₃
/-- the main loop's state, behind the tokens `done` -/
def TrJ (pat mark : Str) (st D b : Addr) (t1 t2 tn : Tok) (front : List (Addr × Obj)) (ts : List Tk) (k : Nat) (m : Str → Option Value) (nx : List (Addr × Obj)) : Prop :=
  ∃ done rest vs nn ti tl, ts = done ++ rest ∧ k = rest.length ∧ nx = (b, boundO D) :: (D, listOf (List.toArray vs) nn) :: (front ++ tl) ∧ TabL tl ∧ Apart b D (front ++ tl) ∧ PartsAre st vs (partsOf mark done) ∧ ∀ p ∈ trNames pat mark st D b ((textOf done).length : Nat) t1 t2 ti tn, m p.1 = some p.2
theorem mapK {m : Str → Option Value} (ps : List (Str × Value)) (h : ∀ p ∈ ps, m p.1 = some p.2) : m = kstB m ps := funext fun _ => (kstB_eq h fun _ => rfl).symm
theorem tr_end {pat mark : Str} {st D b : Addr} {t1 t2 tn ti : Tok} {front tl big : List (Addr × Obj)} {ts done rest : List Tk} {tok : Tk} {vs' : List Value} {nn' : Nat} {i' : Int} {m' : Str → Option Value} {h₀ h' : Heap} {L : Addr} {s : Shared} {tk : Nat} {g : Array GenState} (hg : AllBare s.gens → AllBare g) {Q : Flow → Shared → Prop}
    (F : Fr h₀ L h' m') (N : News h₀ L h' big) (e : ts = done ++ tok :: rest) (hp : PartsAre st vs' (addPart mark (partsOf mark done) tok)) (hT : TabL tl) (ap : Apart b D (front ++ tl)) (hi : i' = ((textOf done).length : Nat) + (tkText tok).length)
    (sub : ∀ p ∈ (b, boundO D) :: (D, listOf (List.toArray vs') nn') :: (front ++ tl), p ∈ big)
    (m1 : m' (Str.ofString "pat") = some (.str pat t1)) (m2 : m' (Str.ofString "STAR") = some (.ref st)) (m3 : m' (Str.ofString "QUESTION_MARK") = some (.str mark t2)) (m4 : m' (Str.ofString "res") = some (.ref D)) (m5 : m' (Str.ofString "add") = some (.ref b)) (m6 : m' (Str.ofString "i") = some (.int i' ti)) (m7 : m' (Str.ofString "n") = some (.int pat.length tn)) :
    WhileStepG h₀ L s (TrJ pat mark st D b t1 t2 tn front ts) Q (tok :: rest).length .next { s with heap := h', toks := tk, gens := g } := by
  refine ⟨h', tk, g, m', _, rest.length, rfl, hg, F, cb_drop N sub, Nat.lt_succ_self _, done ++ [tok], rest, vs', nn', ti, tl, by rw [e, List.append_assoc]; rfl, rfl, rfl, hT, ap, by rw [partsOf_snoc]; exact hp, ?_⟩
  have e6 : i' = (((textOf (done ++ [tok])).length : Nat) : Int) := by rw [textOf_snoc, hi]; exact (Int.natCast_add _ _).symm
  rw [e6] at m6
  exact List.forall_mem_cons.mpr ⟨m1, List.forall_mem_cons.mpr ⟨m2, List.forall_mem_cons.mpr ⟨m3, List.forall_mem_cons.mpr ⟨m4, List.forall_mem_cons.mpr ⟨m5, List.forall_mem_cons.mpr ⟨m6, List.forall_mem_cons.mpr ⟨m7, List.forall_mem_nil _⟩⟩⟩⟩⟩⟩⟩
section
variable {prog : Program} {w : World} {A : Around} {E : Value → Shared → Prop} {s : Shared} {env : Env} {h₀ : Heap} {L : Addr} {Q : Flow → Shared → Prop} {front tl : List (Addr × Obj)}
theorem While_invG {test : PySem.Expr} {body : List Stmt} {pos : Pos} {m : Str → Option Value} {news : List (Addr × Obj)} (J : Nat → (Str → Option Value) → List (Addr × Obj) → Prop) {n₀ : Nat}
    (F : Fr h₀ L s.heap m) (N : News h₀ L s.heap news) (hJ : J n₀ m news)
    (turn : ∀ n m₁ news₁ h₁ tk₁ g₁, (AllBare s.gens → AllBare g₁) → Fr h₀ L h₁ m₁ → News h₀ L h₁ news₁ → J n m₁ news₁ →
      wpAny (model prog w) A (isTrue test env (eval test env)) (fun b s₂ =>
        if b = true then wpAny (model prog w) A (execs body env) (WhileStepG h₀ L s J Q n) E s₂ else Q .next s₂) E { s with heap := h₁, toks := tk₁, gens := g₁ })
    (hE : PassesOwn (model prog w) A env E := by passes_own) :
    wpAny (model prog w) A (exec (.While test body [] pos) env) Q E s := by
  refine wpAny_While (codeAny_whileLoop (fun n s' => ∃ h₁ tk₁ g₁ m₁ news₁, s' = { s with heap := h₁, toks := tk₁, gens := g₁ } ∧ (AllBare s.gens → AllBare g₁) ∧ Fr h₀ L h₁ m₁ ∧ News h₀ L h₁ news₁ ∧ J n m₁ news₁) ?_ n₀ ⟨s.heap, s.toks, s.gens, m, news, rfl, id, F, N, hJ⟩)
  rintro n s' ⟨h₁, tk₁, g₁, m₁, news₁, rfl, hg₁, F₁, N₁, J₁⟩
  refine wpAny_mono (turn n m₁ news₁ h₁ tk₁ g₁ hg₁ F₁ N₁ J₁) (fun b s₂ h₂ => ?_) hE
  cases b with
  | false =>
    simp only [Bool.false_eq_true, if_false] at h₂ ⊢
    exact wpAny_execs_nil h₂
  | true =>
    simp only [if_true] at h₂ ⊢
    refine wpAny_mono h₂ (fun f s₃ h₃ => ?_) hE
    cases f with
    | next =>
      obtain ⟨h', tk, g, m₂, news₂, n', rfl, hg, F₂, N₂, hn, J₂⟩ := h₃
      exact ⟨n', hn, h', tk, g, m₂, news₂, rfl, hg, F₂, N₂, J₂⟩
    | cont =>
      obtain ⟨h', tk, g, m₂, news₂, n', rfl, hg, F₂, N₂, hn, J₂⟩ := h₃
      exact ⟨n', hn, h', tk, g, m₂, news₂, rfl, hg, F₂, N₂, J₂⟩
    | brk => exact h₃
    | ret v => exact h₃
theorem trans_loop {test : PySem.Expr} {body : List Stmt} {pos : Pos} {pat mark : Str} {st D b : Addr} {t1 t2 t0 tn : Tok} {m₀ : Str → Option Value} {ts : List Tk}
    (F : Fr h₀ L s.heap m₀) (N : News h₀ L s.heap ((b, boundO D) :: (D, listOf #[] 0) :: (front ++ tl))) (hT : TabL tl) (ap : Apart b D (front ++ tl))
    (e1 : m₀ (Str.ofString "pat") = some (.str pat t1)) (e2 : m₀ (Str.ofString "STAR") = some (.ref st)) (e3 : m₀ (Str.ofString "QUESTION_MARK") = some (.str mark t2)) (e4 : m₀ (Str.ofString "res") = some (.ref D)) (e5 : m₀ (Str.ofString "add") = some (.ref b)) (e6 : m₀ (Str.ofString "i") = some (.int 0 t0)) (e7 : m₀ (Str.ofString "n") = some (.int pat.length tn))
    (turn : ∀ done rest vs nn u ti tl h tk g, (AllBare s.gens → AllBare g) → ts = done ++ rest → PartsAre st vs (partsOf mark done) → TabL tl → Apart b D (front ++ tl) →
      Fr h₀ L h (kstB u (trNames pat mark st D b ((textOf done).length : Nat) t1 t2 ti tn)) → News h₀ L h ((b, boundO D) :: (D, listOf (List.toArray vs) nn) :: (front ++ tl)) →
      wpAny (model prog w) A (isTrue test env (eval test env)) (fun c s₂ =>
        if c = true then wpAny (model prog w) A (execs body env) (WhileStepG h₀ L s (TrJ pat mark st D b t1 t2 tn front ts) Q rest.length) E s₂ else Q .next s₂) E { s with heap := h, toks := tk, gens := g })
    (hE : PassesOwn (model prog w) A env E := by passes_own) :
    wpAny (model prog w) A (exec (.While test body [] pos) env) Q E s := by
  refine While_invG (TrJ pat mark st D b t1 t2 tn front ts) (n₀ := ts.length) F N ⟨[], ts, [], 0, t0, tl, rfl, rfl, rfl, hT, ap, .nil, List.forall_mem_cons.mpr ⟨e1, List.forall_mem_cons.mpr ⟨e2, List.forall_mem_cons.mpr ⟨e3, List.forall_mem_cons.mpr ⟨e4, List.forall_mem_cons.mpr ⟨e5, List.forall_mem_cons.mpr ⟨e6, List.forall_mem_cons.mpr ⟨e7, List.forall_mem_nil _⟩⟩⟩⟩⟩⟩⟩⟩ ?_ hE
  rintro n m₁ news₁ h₁ tk₁ g₁ hg₁ F₁ N₁ ⟨done, rest, vs, nn, ti, tl, e, rfl, rfl, hT, ap, hp, hm'⟩
  rw [mapK _ hm'] at F₁
  exact turn done rest vs nn m₁ ti tl h₁ tk₁ g₁ hg₁ e hp hT ap F₁ N₁
end
end Mine
end
section
open PySem PySem.W PyProof.Rows PySem.Calls
set_option Elab.async false
namespace Mine
theorem seg_of {x : Str} {a m b : List Nat} {i j : Int} (e : x.cps.toList = a ++ (m ++ b)) (hi : i = (a.length : Nat)) (hj : j = (a.length : Nat) + (m.length : Nat)) : Txt.slice x (some i) (some j) = ⟨m.toArray⟩ := by
  have hl : x.cps.toList.length = a.length + (m.length + b.length) := by rw [e, List.length_append, List.length_append]
  have h := eq_of_beq (slice_closes (x := x) (i := i) (j := j) ⟨by lia, by lia, by lia⟩)
  rw [h, e]
  subst hi hj
  rw [Int.toNat_natCast, List.drop_append, List.drop_of_length_le (Nat.le_refl _), Nat.sub_self, List.drop_zero, List.nil_append]
  have e2 : ((a.length : Int) + (m.length : Int) - (a.length : Int)).toNat = m.length := by lia
  rw [e2, List.take_append, List.take_of_length_le (Nat.le_refl _), Nat.sub_self, List.take_zero, List.append_nil]
section
open Builtin Builtin.Str
theorem occ_full {s sub : Str} {hi : Nat} : ∀ (l : List Nat) (st : Array Nat × Nat), 1 ≤ st.fst.size → (forIn l st (StrLaws.occBody s sub hi 1)).run.fst = st.fst
  | [], _, _ => rfl
  | a :: l, st, h => by
    rw [List.forIn_cons]
    unfold StrLaws.occBody
    rw [if_neg (by lia)]
    exact occ_full l (st.fst, st.snd) h
theorem occ_here {s sub : Str} {lo hi : Nat} (h1 : lo + sub.length ≤ hi) (h2 : subAt s sub lo = true) : occurrences s sub lo hi 1 = [lo] := by
  rw [StrLaws.occ_eq]
  obtain ⟨n, hn⟩ : ∃ n, hi + 1 - lo = n + 1 := ⟨hi - lo, by lia⟩
  rw [hn, List.range'_succ, List.forIn_cons]
  have e : StrLaws.occBody s sub hi 1 lo (#[], lo) = pure (ForInStep.yield (#[lo], lo + sub.length)) := by
    unfold StrLaws.occBody
    rw [if_pos ⟨⟨⟨Nat.zero_lt_one, Nat.le_refl _⟩, h1⟩, h2⟩]; rfl
  rw [e]
  exact congrArg Array.toList (occ_full _ (#[lo], lo + sub.length) (Nat.le_refl 1))
theorem occ_none {s sub : Str} {lo hi : Nat} (h : hi + 1 ≤ lo) : occurrences s sub lo hi 1 = [] := by
  rw [StrLaws.occ_eq, Nat.sub_eq_zero_of_le h]; rfl
theorem gives_find4 (x y : Str) (i j : Int) (t u v v' : Tok) : Gives («str.find» ⟨[.str x t, .str y u, .int i v, .int j v'], []⟩) (.int (match occurrences x y (fromIndex x.length i) (min (fromIndex x.length j) x.length) 1 with | k :: _ => (k : Int) | [] => -1)) := by
  show Gives (match occurrences x y (fromIndex x.length i) (min (fromIndex x.length j) x.length) 1 with | k :: _ => retInt k | [] => (do rule "str.find.not-found"; retInt (-1))) _
  cases occurrences x y (fromIndex x.length i) (min (fromIndex x.length j) x.length) 1 with
  | nil => exact .rule (.of_eq rfl)
  | cons k _ => exact .of_eq rfl
end
theorem args_find4 (a b c d : Value) : argsOk "str.find" ⟨[a, b, c, d], []⟩ := by unfold argsOk; kernel_rfl
theorem sub_one {x : Str} {i c : Nat} (h : x.cps.toList[i]? = some c) : Builtin.Str.subAt x ⟨#[c]⟩ i = true := by
  unfold Builtin.Str.subAt
  have hi : i < x.cps.size := by
    rcases Nat.lt_or_ge i x.cps.toList.length with h' | h'
    · simpa using h'
    · rw [List.getElem?_eq_none h'] at h; cases h
  have hx : x.cps[i] = c := by simpa [hi] using h
  rw [beq_iff_eq]
  show x.cps.extract i (i + 1) = #[c]
  apply Array.ext'
  rw [Array.toList_extract, List.extract_eq_take_drop, List.drop_eq_getElem_cons (by simpa using hi)]
  simp [hx]
section
variable {prog : Program} {w : World} {A : Around} {E : Value → Shared → Prop} {s : Shared} {h₀ : Heap} {L : Addr} {m : Str → Option Value} {news : List (Addr × Obj)} {Q : Value → Shared → Prop} {x y z : Str} {t u v v' : Tok}
theorem find_hit {i j : Int} {c : Nat} (hc : chAt x i c) (hj : i < j) (hl : j ≤ x.length) (hq : ∀ tk', Q (.int i tk') { s with toks := tk' + 1 }) : wpAny (model prog w) A (call (.builtin "str.find") [.str x t, .str ⟨#[c]⟩ u, .int i v, .int j v']) Q E s := by
  refine call_gives PySem.F.slot_str_find (typeIs_str _ _ _) PySem.F.entry_str_find (args_find4 _ _ _ _) (gives_find4 x _ i j t u v v') ?_
  obtain ⟨h0, h1⟩ := hc
  have e1 : fromIndex x.length i = i.toNat := by unfold fromIndex; rw [if_neg (by lia), Int.max_eq_right h0]
  have e2 : fromIndex x.length j = j.toNat := by unfold fromIndex; rw [if_neg (by lia), Int.max_eq_right (by lia)]
  rw [e1, e2, occ_here (show i.toNat + 1 ≤ _ by lia) (sub_one h1)]
  show Q (.int (i.toNat : Int) s.toks) _
  rw [Int.toNat_of_nonneg h0]
  exact hq _
theorem find_miss {i j : Int} (h0 : 0 ≤ i) (hj : j < i) (h1 : 0 ≤ j) (hq : ∀ tk', Q (.int (-1) tk') { s with toks := tk' + 1 }) : wpAny (model prog w) A (call (.builtin "str.find") [.str x t, .str y u, .int i v, .int j v']) Q E s := by
  refine call_gives PySem.F.slot_str_find (typeIs_str _ _ _) PySem.F.entry_str_find (args_find4 _ _ _ _) (gives_find4 x _ i j t u v v') ?_
  have e1 : fromIndex x.length i = i.toNat := by unfold fromIndex; rw [if_neg (by lia), Int.max_eq_right h0]
  have e2 : fromIndex x.length j = j.toNat := by unfold fromIndex; rw [if_neg (by lia), Int.max_eq_right (by lia)]
  rw [e1, e2, occ_none (by lia)]
  exact hq _
theorem replace_no (e : (Builtin.Str.occurrences x y 0 x.length (x.length + 1)).isEmpty = true) (hq : Q (.str x t) s) : wpAny (model prog w) A (call (.builtin "str.replace") [.str x t, .str y u, .str z v]) Q E s := by
  refine call_gives PySem.F.slot_str_replace (typeIs_str _ _ _) PySem.F.entry_str_replace (PySem.F.args_str_replace_3 _ _ _) (gives_str_replace x y z t u v fun h => ?_) ?_
  · rw [e] at h; cases h
  · rw [e]; exact hq
theorem replace_is {r : Str} (hu : u ≠ 0) (hv : v ≠ 0) (huv : u ≠ v) (hyz : (y == z) = false) (hx : x.length ≤ 1000) (hz : z.length ≤ 14) (e : Txt.replace x y z = r)
    (hq : ∀ t' k, Q (.str r t') { s with toks := k }) : wpAny (model prog w) A (call (.builtin "str.replace") [.str x t, .str y u, .str z v]) Q E s :=
  SC.replaceW hu hv huv hyz (Nat.le_trans hx (by decide)) hz (by rw [e]; exact hq)
theorem slice_is {i j : Int} {ui uj : Tok} {r : Str} {value slice : PySem.Expr} (hF : Fr h₀ L s.heap m) (hN : News h₀ L s.heap news) (e : Txt.slice x (some i) (some j) = r) (hz : x.length ≤ 1000) (h : ∀ h' t' k, Fr h₀ L h' m → News h₀ L h' news → Q (.str r t') { s with heap := h', toks := k })
    (hs : subscripted slice false (.str x t) (.ref s.heap.objs.size) = operate [.ref s.heap.objs.size, .str x t] (getItem (.str x t) (.ref s.heap.objs.size)) := by with_unfolding_all rfl)
    (ht : ∀ r, letTemporaryGo value (.str x t) r = pure () := by intro _; with_unfolding_all rfl) :
    wpAny (model prog w) A (subscriptTail value slice (.str x t) (.ref s.heap.objs.size)) Q E { s with heap := s.heap.push { cls := .type "slice", data := .fields #[.int i ui, .int j uj, .none] } } :=
  slice_strN_ss hF hN (by rw [e]; exact h) hs ht (Nat.le_trans hz (by decide))
end
section
variable {prog : Program} {w : World} {A : Around} {E : Value → Shared → Prop} {s : Shared} {env : Env} {h₀ : Heap} {L : Addr} {Q : Flow → Shared → Prop}
/-- the look for the bracket's end -/
def ScanJ (nx₀ : List (Addr × Obj)) (ps : List (Str × Value)) (j0 e : Int) (k : Nat) (m : Str → Option Value) (nx : List (Addr × Obj)) : Prop :=
  nx = nx₀ ∧ ∃ j tj, j0 ≤ j ∧ j ≤ e ∧ k = (e - j).toNat ∧ m (Str.ofString "j") = some (.int j tj) ∧ ∀ p ∈ ps, m p.1 = some p.2
theorem scan_end {nx : List (Addr × Obj)} {ps : List (Str × Value)} {j0 j e : Int} {tj : Tok} {m' : Str → Option Value} {big : List (Addr × Obj)} {h' : Heap} {tk : Nat} (F : Fr h₀ L h' m') (N : News h₀ L h' big) (sub : ∀ p ∈ nx, p ∈ big) (h0 : j0 ≤ j) (h1 : j < e)
    (mj : m' (Str.ofString "j") = some (.int (j + 1) tj)) (hp : ∀ p ∈ ps, m' p.1 = some p.2) : WhileStep2 h₀ L s (ScanJ nx ps j0 e) Q (e - j).toNat .next { s with heap := h', toks := tk } :=
  ⟨h', tk, m', nx, (e - (j + 1)).toNat, rfl, F, cb_drop N sub, by lia, rfl, j + 1, tj, by lia, by lia, rfl, mj, hp⟩
theorem scan_loop {test : PySem.Expr} {body : List Stmt} {pos : Pos} {nx : List (Addr × Obj)} {ps : List (Str × Value)} {j0 e : Int} {t0 : Tok} {m₀ : Str → Option Value}
    (F : Fr h₀ L s.heap m₀) (N : News h₀ L s.heap nx) (h0 : j0 ≤ e) (mj : m₀ (Str.ofString "j") = some (.int j0 t0)) (hp : ∀ p ∈ ps, m₀ p.1 = some p.2)
    (turn : ∀ u j tj h tk, j0 ≤ j → j < e → Fr h₀ L h (kstB u ((Str.ofString "j", .int j tj) :: ps)) → News h₀ L h nx →
      wpAny (model prog w) A (isTrue test env (eval test env)) (fun c s₂ => if c = true then wpAny (model prog w) A (execs body env) (WhileStep2 h₀ L s (ScanJ nx ps j0 e) Q (e - j).toNat) E s₂ else Q .next s₂) E { s with heap := h, toks := tk })
    (last : ∀ u tj h tk, Fr h₀ L h (kstB u ((Str.ofString "j", .int e tj) :: ps)) → News h₀ L h nx →
      wpAny (model prog w) A (isTrue test env (eval test env)) (fun c s₂ => if c = true then wpAny (model prog w) A (execs body env) (WhileStep2 h₀ L s (ScanJ nx ps j0 e) Q (e - e).toNat) E s₂ else Q .next s₂) E { s with heap := h, toks := tk })
    (hE : PassesOwn (model prog w) A env E := by passes_own) :
    wpAny (model prog w) A (exec (.While test body [] pos) env) Q E s := by
  refine While_inv2 (ScanJ nx ps j0 e) (n₀ := (e - j0).toNat) F N ⟨rfl, j0, t0, Int.le_refl _, h0, rfl, mj, hp⟩ ?_ hE
  rintro n m₁ news₁ h₁ tk₁ F₁ N₁ ⟨rfl, j, tj, g0, g1, rfl, gj, gp⟩
  rw [mapK _ (List.forall_mem_cons.mpr ⟨gj, gp⟩ : ∀ p ∈ (Str.ofString "j", Value.int j tj) :: ps, m₁ p.1 = some p.2)] at F₁
  rcases Int.lt_or_eq_of_le g1 with g | rfl
  · exact turn m₁ j tj h₁ tk₁ g0 g F₁ N₁
  · exact last m₁ tj h₁ tk₁ F₁ N₁
theorem all7 {m : Str → Option Value} {pat mark : Str} {st D b : Addr} {i : Int} {t1 t2 ti tn : Tok} (m1 : m (Str.ofString "pat") = some (.str pat t1)) (m2 : m (Str.ofString "STAR") = some (.ref st)) (m3 : m (Str.ofString "QUESTION_MARK") = some (.str mark t2)) (m4 : m (Str.ofString "res") = some (.ref D)) (m5 : m (Str.ofString "add") = some (.ref b)) (m6 : m (Str.ofString "i") = some (.int i ti)) (m7 : m (Str.ofString "n") = some (.int pat.length tn)) :
    ∀ p ∈ trNames pat mark st D b i t1 t2 ti tn, m p.1 = some p.2 :=
  List.forall_mem_cons.mpr ⟨m1, List.forall_mem_cons.mpr ⟨m2, List.forall_mem_cons.mpr ⟨m3, List.forall_mem_cons.mpr ⟨m4, List.forall_mem_cons.mpr ⟨m5, List.forall_mem_cons.mpr ⟨m6, List.forall_mem_cons.mpr ⟨m7, List.forall_mem_nil _⟩⟩⟩⟩⟩⟩⟩
theorem scan_tr {test : PySem.Expr} {body : List Stmt} {pos : Pos} {big nx : List (Addr × Obj)} {pat mark : Str} {st D b : Addr} {i : Int} {t1 t2 ti tn : Tok} {a bd rest : List Nat} {j0 e : Int} {t0 : Tok} {m₀ : Str → Option Value}
    (F : Fr h₀ L s.heap m₀) (N : News h₀ L s.heap big) (sub : ∀ p ∈ nx, p ∈ big) (hx : pat.cps.toList = a ++ (bd ++ (93 :: rest))) (hbd : ∀ c ∈ bd, c ≠ 93) (h0 : j0 = (a.length : Nat)) (h1 : e = (a.length : Nat) + (bd.length : Nat)) (mj : m₀ (Str.ofString "j") = some (.int j0 t0))
    (m1 : m₀ (Str.ofString "pat") = some (.str pat t1)) (m2 : m₀ (Str.ofString "STAR") = some (.ref st)) (m3 : m₀ (Str.ofString "QUESTION_MARK") = some (.str mark t2)) (m4 : m₀ (Str.ofString "res") = some (.ref D)) (m5 : m₀ (Str.ofString "add") = some (.ref b)) (m6 : m₀ (Str.ofString "i") = some (.int i ti)) (m7 : m₀ (Str.ofString "n") = some (.int pat.length tn))
    (turn : ∀ u j c tj h tk, j0 ≤ j → j < e → chAt pat j c → c ≠ 93 → j < pat.length → Fr h₀ L h (kstB u ((Str.ofString "j", .int j tj) :: trNames pat mark st D b i t1 t2 ti tn)) → News h₀ L h nx →
      wpAny (model prog w) A (isTrue test env (eval test env)) (fun c s₂ => if c = true then wpAny (model prog w) A (execs body env) (WhileStep2 h₀ L s (ScanJ nx (trNames pat mark st D b i t1 t2 ti tn) j0 e) Q (e - j).toNat) E s₂ else Q .next s₂) E { s with heap := h, toks := tk })
    (last : ∀ u tj h tk, chAt pat e 93 → e < pat.length → Fr h₀ L h (kstB u ((Str.ofString "j", .int e tj) :: trNames pat mark st D b i t1 t2 ti tn)) → News h₀ L h nx →
      wpAny (model prog w) A (isTrue test env (eval test env)) (fun c s₂ => if c = true then wpAny (model prog w) A (execs body env) (WhileStep2 h₀ L s (ScanJ nx (trNames pat mark st D b i t1 t2 ti tn) j0 e) Q (e - e).toNat) E s₂ else Q .next s₂) E { s with heap := h, toks := tk })
    (hE : PassesOwn (model prog w) A env E := by passes_own) :
    wpAny (model prog w) A (exec (.While test body [] pos) env) Q E s := by
  have hl := len_text hx
  rw [List.length_append, List.length_append, List.length_cons] at hl
  refine scan_loop F (cb_drop N sub) (by lia) mj (all7 m1 m2 m3 m4 m5 m6 m7) (fun u j tj h tk g0 g1 => ?_) (fun u tj h tk => last u tj h tk ?_ (by lia)) hE
  · have hc : ∃ c, chAt pat j c ∧ c ≠ 93 := by
      have hlt : j.toNat - a.length < bd.length := by lia
      refine ⟨bd[j.toNat - a.length], ⟨by lia, ?_⟩, hbd _ (List.getElem_mem _)⟩
      rw [hx, List.getElem?_append_right (by lia), List.getElem?_append_left hlt, List.getElem?_eq_getElem hlt]
    obtain ⟨c, hc, hne⟩ := hc
    exact turn u j c tj h tk g0 g1 hc hne (by lia)
  · exact chAt_of (a := a ++ bd) _ (by rw [hx, List.append_assoc]) (by rw [List.length_append, h1]; lia)
theorem ne1 {c d : Nat} (h : c ≠ d) : ((⟨#[c]⟩ : Str) != ⟨#[d]⟩) = true := by unfold bne; rw [one_ne h]; rfl
end
theorem br_ways {k : Nat} (hk : k < 9) : (∃ r1, brBody k = 33 :: r1 ∧ (∀ c ∈ r1, c ≠ 93) ∧ ∃ c2 r2, r1 = c2 :: r2) ∨ (brBody k = [93]) ∨ (∃ c1 r1, brBody k = c1 :: r1 ∧ c1 ≠ 33 ∧ (∀ c ∈ c1 :: r1, c ≠ 93)) := by
  match k, hk with
  | 0, _ => exact .inl ⟨_, rfl, by decide, _, _, rfl⟩
  | 1, _ => exact .inr (.inr ⟨_, _, rfl, by decide, by decide⟩)
  | 2, _ => exact .inr (.inr ⟨_, _, rfl, by decide, by decide⟩)
  | 3, _ => exact .inl ⟨_, rfl, by decide, _, _, rfl⟩
  | 4, _ => exact .inr (.inr ⟨_, _, rfl, by decide, by decide⟩)
  | 5, _ => exact .inr (.inl rfl)
  | 6, _ => exact .inr (.inr ⟨_, _, rfl, by decide, by decide⟩)
  | 7, _ => exact .inr (.inr ⟨_, _, rfl, by decide, by decide⟩)
  | 8, _ => exact .inr (.inr ⟨_, _, rfl, by decide, by decide⟩)
end Mine
end
section
open PySem PySem.W PyProof.Rows PySem.Calls
set_option Elab.async false
namespace Mine
noncomputable def es62 (P : Params) : Array DictEntry := match (KF P).lookup 62 with | some ⟨_, _, .dict es _, _⟩ => es | _ => #[]
noncomputable def chk (P : Params) (c : Nat) : Bool := match findBy Value.isInt (es62 P) (c : Int) with | some (.str x _) => escIs c && x == ⟨#[92, c]⟩ | none => !escIs c | _ => false
theorem chk_low (P : Params) : (List.range 128).all (chk P) = true := by kernel_rfl
theorem keys_low (P : Params) : (es62 P).toList.all (fun e => match e.key with | .int n _ => decide (n < 128) | _ => false) = true := by kernel_rfl
theorem look62 (P : Params) (c : Nat) : (escIs c = true ∧ ∃ t, findBy Value.isInt (es62 P) (c : Int) = some (.str ⟨#[92, c]⟩ t)) ∨ (escIs c = false ∧ findBy Value.isInt (es62 P) (c : Int) = none) := by
  by_cases h : c < 128
  · have := List.all_eq_true.mp (chk_low P) c (List.mem_range.mpr h)
    unfold chk at this
    split at this
    · next x t e =>
      rw [Bool.and_eq_true] at this
      rw [e, eq_of_beq this.2]
      exact .inl ⟨this.1, t, rfl⟩
    · next e => exact .inr ⟨by simpa using this, e⟩
    · cases this
  · refine .inr ⟨?_, ?_⟩
    · cases he : escIs c with
      | false => rfl
      | true =>
        have := List.elem_iff.mp he
        simp only [List.mem_cons, List.not_mem_nil, or_false] at this
        omega
    · unfold findBy
      rw [Option.map_eq_none_iff, Array.find?_eq_none]
      intro e he hk
      have := List.all_eq_true.mp (keys_low P) e (Array.mem_toList_iff.mpr he)
      split at this
      · next n t ek =>
        rw [ek] at hk
        have h1 := of_decide_eq_true this
        have h2 : n = (c : Int) := by simpa [Value.isInt] using hk
        omega
      · cases this
theorem keys_hash (P : Params) : (es62 P).toList.all (fun e => match e.key with | .int n _ => decide (e.hash = hashInt n) | _ => false) = true := by kernel_rfl
theorem obj62 (P : Params) : (KF P).lookup 62 = some ⟨.type "dict", none, .dict (es62 P) 24, #[]⟩ := by kernel_rfl
section
variable {prog : Program} {w : World} {A : Around} {E : Value → Shared → Prop} {s : Shared} {h₀ : Heap} {L : Addr} {m : Str → Option Value} {news : List (Addr × Obj)}
theorem map62 {h : Heap} (X : (KF w.params).In h) : h.MapOf (intKind prog w) 62 (fun k => findBy Value.isInt (es62 w.params) k) := by
  refine ⟨_, es62 w.params, 24, X 62 _ (obj62 w.params), ⟨rfl, rfl, rfl⟩, rfl, fun e he => ?_, fun k => rfl⟩
  have := List.all_eq_true.mp (keys_hash w.params) e (Array.mem_toList_iff.mpr he)
  split at this
  · next n t ek => exact ⟨n, by rw [ek]; simp [intKind, Value.isInt], of_decide_eq_true this⟩
  · cases this
theorem kr_isLookup : isSubtype (.type "KeyError") (.type "LookupError") = pure true := by rw [isSubtype_type]; kernel_rfl
/-- a look into the table -/
theorem lookup62 {c : Nat} {Q : Builtin.Str.Mapped → Shared → Prop} (F : Fr h₀ L s.heap m) (N : News h₀ L s.heap news) (X : (KF w.params).In h₀) (hh : A.handled = none)
    (h : ∀ h' tk', Fr h₀ L h' m → News h₀ L h' news → Q (if escIs c then .text ⟨#[92, c]⟩ else .keep) { s with heap := h', toks := tk' }) :
    wpAny (model prog w) A (Builtin.Str.tableLookup (.ref 62) c) Q E s := by
  have X1 : (KF w.params).In s.heap := fun a o e => F.keep _ _ (X a o e)
  have hm := map62 (prog := prog) X1
  unfold Builtin.Str.tableLookup
  refine wpAny_bind (wpAny_attempt (wpAny_bind (wpAny_mkInt ?_)))
  rcases look62 w.params c with ⟨he, t, e⟩ | ⟨he, e⟩
  · refine wpAny_getItem_of (k := (c : Int)) (knd := intKind prog w) (f := fun k => findBy Value.isInt (es62 w.params) k) (by simp [intKind, Value.isInt]) hm e ?_
    rw [he] at h
    exact wpAny_bind (wpAny_of_eq (a := none) rfl (wpAny_bind (wpAny_of_eq (a := some (⟨#[92, c]⟩ : Str)) rfl (wpAny_pure (h _ _ F N)))))
  · refine wpAny_getItem_missing_of (k := (c : Int)) (knd := intKind prog w) (f := fun k => findBy Value.isInt (es62 w.params) k) (by simp [intKind, Value.isInt]) (by decide) hh hm e ?_
    intro h' ex hn
    rw [he] at h
    obtain ⟨ob, tt, e1, e2, _⟩ := hn.there
    refine wpAny_bind (wpAny_isInstance (b := true) (show Shared.TypeIs _ _ "KeyError" from ⟨ob, e1, e2⟩) kr_isLookup ?_)
    exact wpAny_bind (wpAny_rule (wpAny_pure (h _ _ (F.keeps hn.keeps) (N.keepsAll hn.keeps))))
theorem fold1 (x : Str) : (⟨#[]⟩ : Str).cps ++ x.cps = x.cps := by simp
theorem translate1 {c : Nat} {t : Tok} {Q : Value → Shared → Prop} (F : Fr h₀ L s.heap m) (N : News h₀ L s.heap news) (X : (KF w.params).In h₀) (hh : A.handled = none)
    (h : ∀ t' h' tk', Fr h₀ L h' m → News h₀ L h' news → Q (.str (escOf c) t') { s with heap := h', toks := tk' }) :
    wpAny (model prog w) A (call (.builtin "str.translate") [.str ⟨#[c]⟩ t, .ref 62]) Q E s := by
  refine wpAny_call_entry (T := "str") PySem.F.slot_str_translate rfl PySem.F.entry_str_translate ?_ (PySem.F.args_str_translate_2 _ _)
  unfold Builtin.«str.translate»
  refine wpAny_bind (wpAny_of_eq (a := (.str ⟨#[c]⟩ t, ⟨#[c]⟩, .ref 62)) rfl ?_)
  show wpAny _ _ (if ((1 : Nat) == 0) = true then _ else _) _ _ _
  rw [if_neg (by decide)]
  show wpAny _ _ (forIn (#[c] : Array Nat) _ _ >>= _) _ _ _
  rw [← Array.forIn_toList]
  show wpAny _ _ (forIn [c] _ _ >>= _) _ _ _
  rw [List.forIn_cons]
  refine wpAny_bind (wpAny_bind ?_)
  show wpAny _ _ (if false = true then _ else _) _ _ _
  rw [if_neg (by decide)]
  unfold escOf at h
  cases hb : (#[c] : Array Nat).all fun x => decide (x < 128) with
  | true =>
    refine wpAny_bind (lookup62 F N X hh fun h1 tk1 F1 N1 => ?_)
    cases he : escIs c with
    | true =>
      rw [he] at h
      rw [if_pos rfl]
      refine wpAny_bind (wpAny_pure ?_)
      refine wpAny_bind (wpAny_rule ?_)
      refine wpAny_bind (lookup62 (s := { s with heap := h1, toks := tk1 }) F1 N1 X hh fun h2 tk2 F2 N2 => ?_)
      rw [he, if_pos rfl]
      refine wpAny_pure ?_
      refine wpAny_pure ?_
      exact wpAny_bind (wpAny_mkStr (wpAny_pure ⟨_, rfl, h _ _ _ F2 N2⟩) (Nat.le_of_ble_eq_true rfl))
    | false =>
      rw [he] at h
      rw [if_neg (by decide)]
      refine wpAny_bind (wpAny_pure ?_)
      refine wpAny_pure ?_
      refine wpAny_pure ?_
      exact wpAny_bind (wpAny_mkStr (wpAny_pure ⟨_, rfl, h _ _ _ F1 N1⟩) (Nat.le_of_ble_eq_true rfl))
  | false =>
    refine wpAny_bind (lookup62 F N X hh fun h1 tk1 F1 N1 => ?_)
    cases he : escIs c with
    | true =>
      rw [he] at h
      rw [if_pos rfl]
      refine wpAny_pure ?_
      refine wpAny_pure ?_
      exact wpAny_bind (wpAny_mkStr (wpAny_pure ⟨_, rfl, h _ _ _ F1 N1⟩) (Nat.le_of_ble_eq_true rfl))
    | false =>
      rw [he] at h
      rw [if_neg (by decide)]
      refine wpAny_pure ?_
      refine wpAny_pure ?_
      exact wpAny_bind (wpAny_mkStr (wpAny_pure ⟨_, rfl, h _ _ _ F1 N1⟩) (Nat.le_of_ble_eq_true rfl))
end
set_option maxRecDepth 100000 in
set_option maxHeartbeats 8000000 in
theorem escape_claim (w : World) (news : List (Addr × Obj)) (c : Nat) (t : Tok) : Claim w 72 news [.str ⟨#[c]⟩ t] (fun r news' => news' = news ∧ ∃ t', r = .str (escOf c) t') := by
    k_with_none
    intro p loose mean mg mb dp un gd cn cs a ccd cl outer A₀ base h₀ L m s Q E B F X N T C hk hd hu hret
    refine wpAny_call ?_
    k_dflt cell_enter
    k_with "getMethod" => (first | (k_here; k_dflt (refine getMethod_builtin (T := "str") (typeIs_str _ _ _) PySem.F.plainAttrs_str PySem.F.slot_str_translate PySem.F.type_str_translate (fun _ e => nomatch e) ?_)) | (refine hold_ ?_))
    k_with "call builtin:str.translate" => (first | (k_here; k_dflt (refine translate1 (by k_asm) (by k_asm) (by k_asm) rfl ?_); intro t' h' tk' F' N') | (refine hold_ ?_))
    k_steps
    all_goals exact hret _ _ _ _ (by k_asm) (by k_asm) ⟨rfl, _, rfl⟩
end Mine
end
section
open PySem PySem.Sre PySem.Builtin PySem.Builtin.Re PySem.W PyProof.Rows PySem.Calls
set_option Elab.async false
namespace Mine
/-! ## the sub with a function -/
def c53 : Array Nat := #[14, 14, 4, 1, 1, 9, 0, 64, 0, 1342177280, 0, 0, 0, 0, 0, 17, 0, 13, 11, 9, 0, 64, 0, 1342177280, 0, 0, 0, 0, 0, 17, 1, 1]
def isM : Option Sre.Outcome → Bool
  | some .matched => true
  | _ => false
def isF : Option Sre.Outcome → Bool
  | some .failed => true
  | _ => false
theorem of_matched {o : Option Sre.Outcome} (h : isM o = true) : o = some .matched := by
  cases o with
  | none => cases h
  | some x => cases x <;> first | rfl | cases h
theorem of_failed {o : Option Sre.Outcome} (h : isF o = true) : o = some .failed := by
  cases o with
  | none => cases h
  | some x => cases x <;> first | rfl | cases h
def rs (t : Array Nat) (p : Nat) : M := M.runFor 60 (forSearch c53 t 1 p t.size false)
theorem fun_call : typeLookup (.type "function") "__call__" = pure (some (.builtin "function.__call__")) := by rw [typeLookup_type, builtinLookup_eq_fast]; kernel_rfl
theorem str_bytearray : isSubtype (.type "str") (.type "bytearray") = pure false := by rw [isSubtype_type]; kernel_rfl
section
variable {prog : Program} {w : World} {A : Around} {E : Value → Shared → Prop} {s : Shared}
variable {h₀ : Heap} {L : Addr} {m : Str → Option Value} {news : List (Addr × Obj)}
theorem wp_rs {t : Array Nat} {p : Nat} {Q : Option M → Shared → Prop} (ho : (rs t p).outcome = some .matched ∧ Q (some (rs t p)) s ∨ (rs t p).outcome = some .failed ∧ Q none s) : wpAny (model prog w) A (reRunToEnd (forSearch c53 t 1 p t.size false)) Q E s := by
  refine wp_runToEnd (n := 60) (m' := rs t p) ⟨60, Nat.le_refl _, rfl, ?_⟩ (by decide) ho
  rcases ho with ⟨h, _⟩ | ⟨h, _⟩ <;> rw [h] <;> rfl
theorem lam_start {P C f : Addr} {fo : Obj} {x : Str} {tx : Tok} {Q : Value → Shared → Prop} (F : Fr h₀ L s.heap m) (N : News h₀ L s.heap news) (hp₀ : PatAt h₀ P C c53 1) (hf : (f, fo) ∈ news) (hc : fo.cls = .type "function")
    (h : ∀ p h', Fr h₀ L h' m → News h₀ L h' ((p, listOf #[] 0) :: news) → (∀ q ∈ news, q.1 ≠ p) →
      codeAny (model prog w) A (.builtin "re.Pattern.sub.loop" ⟨[.ref P, .str x tx, .ref f, rawInt 1, rawInt 0, rawInt 0, rawInt 0, rawInt 0, .bool false, .ref p, .bool false], []⟩) (wants Q E) { s with heap := h' }) :
    wpAny (model prog w) A (call (.builtin "re.Pattern.sub") [.ref P, .ref f, .str x tx]) Q E s := by
  obtain ⟨src, st, fl, ft, e1⟩ := (hp₀.keeps F.keep).pat
  refine wpAny_call (codeAny_call_builtin slot_re_sub.plain entry_re_sub (slot_re_sub.check _ _ _ _ _ _ _ _ ⟨_, e1, rfl⟩ (args_re_sub _ _ _) ?_))
  unfold Builtin.«re.Pattern.sub» reSubstitute
  show wpAny _ _ (reNamed "re.Pattern.sub" "sub" ["repl", "string", "count"] 2 [.ref f, .str x tx] [] >>= _) _ _ _
  rw [re_named]
  refine wpAny_bind (wpAny_pure ?_)
  dsimp only
  refine wpAny_bind (wpAny_pure ?_)
  refine wpAny_bind (wpAny_specialOf ⟨_, (N _ hf).1, hc⟩ fun_call ?_)
  rw [if_pos (show (Option.isSome (some (Value.builtin "function.__call__"))) = true from rfl)]
  refine wpAny_bind (wpAny_pure ?_)
  rw [if_pos (show (Option.isSome (some (Value.builtin "function.__call__"))) = true from rfl)]
  refine wpAny_bind (wpAny_pure ?_)
  (try dsimp only)
  refine wpAny_bind (wpAny_holding (wp_whole (hp₀.keeps F.keep) ?_))
  rw [if_pos (by decide)]
  refine wpAny_bind (?_ : wpAny _ _ (reNotHeld _ _) _ _ _)
  unfold reNotHeld
  refine wpAny_bind (wpAny_isInstance (typeIs_str _ _ _) str_bytearray ?_)
  rw [if_neg (by decide)]
  refine wpAny_pure ?_
  refine wpAny_bind (newList_N F N (fun h' F' N' => ?_) (by size_fits))
  refine wpAny_pure ⟨plainId_quiet plain_re_sub_loop _, ?_⟩
  exact h _ h' F' N' fun q hq => Nat.ne_of_lt (Heap.lt_size (N q hq).1)
/-- behind the last hit -/
theorem lam_last {P C f p : Addr} {x : Str} {tx : Tok} {st : Nat} {cnt : Int} {vs : List Value} {pcs : List Str} {n : Nat} {must : Bool} {Q : Value → Shared → Prop} (F : Fr h₀ L s.heap m) (N : News h₀ L s.heap ((p, listOf vs.toArray n) :: news)) (hp₀ : PatAt h₀ P C c53 1) (hne : ∀ q ∈ news, q.1 ≠ p)
    (hs : StrsAre vs pcs) (hx : x.cps.size ≤ 1000) (hl1 : pcs.length ≤ 1000) (hl2 : (pcs.map (·.length)).sum ≤ 1000) (hst : st ≤ x.cps.size) (hm : must = false) (ho : (rs x.cps st).outcome = some .failed)
    (hQ : ∀ t' h' tk', Fr h₀ L h' m → News h₀ L h' news → Q (.str ⟨(catS pcs ++ x.cps.toList.drop st).toArray⟩ t') { s with heap := h', toks := tk' }) :
    codeAny (model prog w) A (.builtin "re.Pattern.sub.loop" ⟨[.ref P, .str x tx, .ref f, rawInt 1, rawInt 0, rawInt cnt, rawInt st, rawInt st, .bool must, .ref p, .bool false], []⟩) (wants Q E) s := by
  subst hm
  refine codeAny_builtin entry_re_sub_loop ?_
  rw [Around.under_plainId plain_re_sub_loop]
  unfold Builtin.«re.Pattern.sub.loop»
  refine wpAny_bind (wp_whole (hp₀.keeps F.keep) ?_)
  show wpAny (model prog w) A.in1 (reNextFound (targetOf P c53 x tx 1) st false >>= fun r => match r with
      | some mm => _
      | none => if st < x.cps.size then (reSlice x.cps 0 st x.cps.size >>= fun v => updateSeq p (·.push v) >>= fun _ => subEnd p x) else subEnd p x) _ _ _
  have hvl : vs.length = pcs.length := hs.len_eq
  refine wpAny_bind (wp_rs (.inr ⟨ho, ?_⟩))
  by_cases hlt : st < x.cps.size
  · show wpAny _ _ (if st < x.cps.size then _ else _) _ _ _
    rw [if_pos hlt]
    refine wpAny_bind (wp_slice (by lia) ?_)
    refine wpAny_bind (wp_push (s := { s with toks := s.toks + 1 }) F N hne (by lia) fun h' F' N' => ?_)
    refine subEnd_wp (Q := Q) (s := { s with heap := h', toks := s.toks + 1 }) (by lia) F' N' (strs_snoc hs ⟨x.cps.extract st x.cps.size⟩ s.toks) ?_ ?_ (fun v s' q => q) fun t' h'' tk'' F'' N'' => ?_
    · rw [List.length_append]; simp; lia
    · rw [sum_snoc]; simp; lia
    · rw [catS_snoc]
      have := hQ t' h'' tk'' F'' N''
      have e : (x.cps.extract st x.cps.size).toList = x.cps.toList.drop st := by rw [Array.toList_extract, List.extract_eq_take_drop]; exact List.take_of_length_le (by simp)
      rw [← e] at this
      exact this
  · show wpAny _ _ (if st < x.cps.size then _ else _) _ _ _
    rw [if_neg hlt]
    refine subEnd_wp (Q := Q) (by lia) F N hs (by lia) (by lia) (fun v s' q => q) fun t' h'' tk'' F'' N'' => ?_
    have := hQ t' h'' tk'' F'' N''
    rw [List.drop_of_length_le (by simp; lia), List.append_nil] at this
    exact this
theorem sub_lam_none {P C f : Addr} {fo : Obj} {x : Str} {tx : Tok} {Q : Value → Shared → Prop} (F : Fr h₀ L s.heap m) (N : News h₀ L s.heap news) (hp₀ : PatAt h₀ P C c53 1) (hf : (f, fo) ∈ news) (hc : fo.cls = .type "function")
    (hx : x.cps.size ≤ 1000) (ho : (rs x.cps 0).outcome = some .failed) (hQ : ∀ t' h' tk', Fr h₀ L h' m → News h₀ L h' news → Q (.str x t') { s with heap := h', toks := tk' }) :
    wpAny (model prog w) A (call (.builtin "re.Pattern.sub") [.ref P, .ref f, .str x tx]) Q E s := by
  refine lam_start F N hp₀ hf hc fun p h' F' N' hne => lam_last (s := { s with heap := h' }) (vs := []) (pcs := []) F' N' hp₀ hne .nil hx (by decide) (by decide) (Nat.zero_le _) rfl ho fun t' h'' tk' F'' N'' => ?_
  have e : (⟨(catS [] ++ x.cps.toList.drop 0).toArray⟩ : Str) = x := by simp [catS]
  rw [e]
  exact hQ t' h'' tk' F'' N''
theorem out_none : ([[33], [], [11, 46], [33, 46], [46, 45, 97], [93], [94], [97, 92, 92]] : List (List Nat)).all (fun l => isF (rs l.toArray 0).outcome) = true := by decide +kernel
theorem none_failed {l : List Nat} (h : l ∈ ([[33], [], [11, 46], [33, 46], [46, 45, 97], [93], [94], [97, 92, 92]] : List (List Nat))) : (rs l.toArray 0).outcome = some .failed := of_failed (List.all_eq_true.mp out_none l h)
theorem out_hit : isM (rs #[38, 46] 0).outcome = true ∧ isF (rs #[38, 46] 1).outcome = true := by decide +kernel
theorem hit_facts : (rs #[38, 46] 0).start = 0 ∧ (rs #[38, 46] 0).handed = 1 ∧ (rs #[38, 46] 0).lastmark = 1 ∧ (rs #[38, 46] 0).lastindex = 1 ∧ (rs #[38, 46] 0).marks = #[some 0, some 1] := by decide +kernel
end
end Mine
end
section
open PySem PySem.Sre PySem.Builtin PySem.Builtin.Re PySem.W PyProof.Rows PySem.Calls
set_option Elab.async false
namespace Mine
abbrev ampS : Str := ⟨#[38, 46]⟩
abbrev ampTup : Obj := { cls := .type "tuple", data := .seq #[rawInt 0, rawInt 1, rawInt 0, rawInt 1] }
abbrev ampMatch (P T : Addr) (tx : Tok) : Obj := { cls := .type "re.Match", data := .fields #[.str ampS tx, .ref P, rawInt 0, rawInt 2, rawInt 1, .ref T] }
section
variable {prog : Program} {w : World} {A : Around} {E : Value → Shared → Prop} {s : Shared}
variable {h₀ : Heap} {L : Addr} {m : Str → Option Value} {news : List (Addr × Obj)}
theorem new_amp {P : Addr} {tx : Tok} {mm : M} {Q : Value → Shared → Prop} (F : Fr h₀ L s.heap m) (N : News h₀ L s.heap news) (hm : mm.start = 0 ∧ mm.handed = 1 ∧ mm.lastmark = 1 ∧ mm.lastindex = 1 ∧ mm.marks = #[some 0, some 1])
    (h : ∀ M T h', Fr h₀ L h' m → News h₀ L h' ((M, ampMatch P T tx) :: (T, ampTup) :: news) → (∀ q ∈ news, q.1 < T) → T < M → Q (.ref M) { s with heap := h' }) :
    wpAny (model prog w) A (reNewMatch (.ref P) (.str ampS tx) 1 0 2 mm) Q E s := by
  obtain ⟨e1, e2, e3, e4, e5⟩ := hm
  unfold reNewMatch
  rw [e1, e2, e3, e4, e5]
  show wpAny _ _ (if false = true then _ else _) _ _ _
  rw [if_neg (by decide)]
  show wpAny _ _ (newTuple [rawInt 0, rawInt 1, rawInt 0, rawInt 1] >>= _) _ _ _
  refine wpAny_bind (newTuple_N F N (fun h' F' N' => ?_) (by size_fits))
  refine wpAny_newObj_type ?_ (by size_fits)
  exact h h'.objs.size _ _ (F'.push _) (N'.push F' _) (fun q hq => Heap.lt_size (N q hq).1) (Heap.lt_size (N' _ (.head _)).1)
theorem sub_lam_amp {P C f : Addr} {fo : Obj} {tx : Tok} {Q : Value → Shared → Prop} (F : Fr h₀ L s.heap m) (N : News h₀ L s.heap news) (hp₀ : PatAt h₀ P C c53 1) (hf : (f, fo) ∈ news) (hc : fo.cls = .type "function")
    (hcall : ∀ M T p h' (R : Value → Shared → Prop), Fr h₀ L h' m → News h₀ L h' ((M, ampMatch P T tx) :: (T, ampTup) :: (p, listOf #[] 0) :: news) →
      (∀ t'' h'' tk'', Fr h₀ L h'' m → News h₀ L h'' ((M, ampMatch P T tx) :: (T, ampTup) :: (p, listOf #[] 0) :: news) → R (.str ⟨#[92, 38]⟩ t'') { s with heap := h'', toks := tk'' }) →
      wpAny (model prog w) A.in1 (call (.ref f) [.ref M]) R (fun e s' => wants Q E (.error e) s') { s with heap := h' })
    (hQ : ∀ t' h' tk', Fr h₀ L h' m → News h₀ L h' news → Q (.str ⟨#[92, 38, 46]⟩ t') { s with heap := h', toks := tk' }) :
    wpAny (model prog w) A (call (.builtin "re.Pattern.sub") [.ref P, .ref f, .str ampS tx]) Q E s := by
  refine lam_start F N hp₀ hf hc fun p h' F' N' hne => ?_
  refine codeAny_builtin entry_re_sub_loop ?_
  rw [Around.under_plainId plain_re_sub_loop]
  unfold Builtin.«re.Pattern.sub.loop»
  refine wpAny_bind (wp_whole (hp₀.keeps F'.keep) ?_)
  dsimp only
  rw [if_neg (by decide)]
  rw [if_neg (by decide)]
  have ho := of_matched out_hit.1
  have ho1 := of_failed out_hit.2
  unfold reNextFound
  dsimp only
  refine wpAny_bind (wp_rs (t := #[38, 46]) (p := 0) (.inl ⟨ho, ?_⟩))
  have hm := hit_facts
  generalize rs #[38, 46] 0 = mm at hm ⊢
  dsimp only
  have hs : ¬ (Int.toNat 0 < mm.start) := by rw [hm.1]; decide
  rw [if_neg hs]
  rw [if_neg (by decide)]
  refine wpAny_bind (m := reNewMatch (.ref P) (.str ampS tx) 1 0 2 mm) (new_amp F' N' hm fun M T h1 F1 N1 lt1 lt2 => ?_)
  rw [if_pos (by decide)]
  refine wpAny_bind (wpAny_holding ?_)
  refine hcall M T p h1 _ F1 N1 fun t'' h2 tk2 F2 N2 => ?_
  rw [if_pos (show (Value.str ⟨#[92, 38]⟩ t'' != Value.none) = true from rfl)]
  have N3 : News h₀ L h2 ((p, listOf (List.toArray []) 0) :: news) := fun q hq => N2 q (.tail _ (.tail _ hq))
  refine wpAny_bind (wp_push F2 N3 hne (by decide) fun h3 F3 N4 => ?_)
  rw [hm.1, hm.2.1]
  refine wpAny_pure ⟨plainId_quiet plain_re_sub_loop _, ?_⟩
  refine lam_last (st := 1) (s := { s with heap := h3, toks := tk2 }) (vs := [] ++ [.str ⟨#[92, 38]⟩ t'']) (pcs := [⟨#[92, 38]⟩]) F3 N4 hp₀ hne (.cons _ _ .nil) (by decide) (by decide) (by decide) (by decide) rfl ho1 fun t' h'' tk' F'' N'' => ?_
  exact hQ t' h'' tk' F'' N''
end
end Mine
end
section
open PySem PySem.W PyProof.Rows PySem.Calls
set_option Elab.async false
namespace Mine
theorem updF_mid {d : Addr} {o : Obj} {r : List (Addr × Obj)} (hr : ∀ q ∈ r, q.1 ≠ d) : ∀ {l : List (Addr × Obj)}, (∀ q ∈ l, q.1 ≠ d) → UpdF d o (l ++ (d, o) :: r) (fun o' => l ++ (d, o') :: r)
  | [], _ => .head hr
  | p :: _, h => .tail (h p (.head _)) (updF_mid hr fun q hq => h q (.tail _ hq))
theorem pat53 {w : World} {h₀ : Heap} (X : (KF w.params).In h₀) : PatAt h₀ 53 52 c53 1 := ⟨⟨_, _, _, _, X 53 _ rfl⟩, _, _, X 52 _ rfl, by kernel_rfl⟩
theorem among_other {pos : Pos} {a b : Int} {c : Value} (hne : (a == (pos.line : Int) && b == (pos.col : Int)) = false) : ∀ (l : List Value), TriplesOk l → codeAmong pos (l ++ [rawInt a, rawInt b, c]) = codeAmong pos l
  | [], _ => by
    show (if _ then _ else _) = _
    rw [hne]; rfl
  | .int x _ :: .int y _ :: z :: r, h => by
    show (if _ then _ else codeAmong pos (r ++ [rawInt a, rawInt b, c])) = (if _ then _ else codeAmong pos r)
    rw [among_other hne r h]
  | [.int _ _], h => by cases h
  | [.int _ _, .int _ _], h => by cases h
/-- the table with one more code -/
theorem tabL_snoc {ps : Array Value} {codes : List (Addr × Obj)} {pos : Pos} {c' : Addr} {oc : Obj} {vs : Array Value} {t : Tok} {qual : Str} (ht : TriplesOk ps.toList) (hc : ∀ q ∈ codes, q.1 ≠ 74) (h74 : c' ≠ 74)
    (hl : ∀ c, codeAmong lp ps.toList = some c → ∃ a oc vs t, c = Value.ref a ∧ (a, oc) ∈ codes ∧ oc.data = .fields vs ∧ vs[1]? = some (.str lq t))
    (hp : (((pos.line : Nat) : Int) == (lp.line : Int) && ((pos.col : Nat) : Int) == (lp.col : Int)) = false ∨ (pos = lp ∧ qual = lq ∧ codeAmong lp ps.toList = none)) (d1 : oc.data = .fields vs) (d2 : vs[1]? = some (.str qual t)) :
    TabL ((74, tabObj (ps ++ #[rawInt pos.line, rawInt pos.col, .ref c'])) :: (c', oc) :: codes) := by
  refine ⟨_, _, rfl, ?_, ?_, ?_⟩
  · rw [Array.toList_append]; exact TriplesOk_snoc _ _ _ _ ht
  · intro q hq
    rcases List.mem_cons.mp hq with rfl | hq
    · exact h74
    · exact hc q hq
  · intro c e
    rw [Array.toList_append] at e
    rcases hp with hp | ⟨rfl, rfl, hn⟩
    · rw [among_other hp _ ht] at e
      obtain ⟨a, oc', vs', t', e1, e2, e3, e4⟩ := hl c e
      exact ⟨a, oc', vs', t', e1, .tail _ e2, e3, e4⟩
    · have := codeAmong_snoc (pos := lp) (c := .ref c') ps.toList ht hn
      rw [show codeAmong lp (ps.toList ++ #[rawInt lp.line, rawInt lp.col, Value.ref c'].toList) = some (.ref c') from this] at e
      exact ⟨c', oc, vs, t, (Option.some.inj e).symm, .head _, d1, d2⟩
section
variable {M : Model} {A : Around} {E : Value → Shared → Prop} {s : Shared} {h₀ : Heap} {L a c : Addr} {m mg mb : Str → Option Value} {cn : Str} {cs : Scope} {ccd : Value} {cl : List (Str × Addr)} {big pre front tl : List (Addr × Obj)}
  {p : Program} {loose : List Str} {mean : ExcName → Option Value} {name : Str} {params : Arguments} {body : PySem.Expr} {scope : Scope} {firstLine : Nat} {clos : List (Str × Addr)}
/-- the codes stand apart from what is held -/
abbrev Off (pre tl tl' : List (Addr × Obj)) : Prop := ∀ d, d ≠ 74 → (∃ o, (d, o) ∈ pre) → (∀ q ∈ tl, q.1 ≠ d) → ∀ q ∈ tl', q.1 ≠ d
theorem off_snoc {ps ps' : Array Value} {codes : List (Addr × Obj)} {c' : Addr} {oc : Obj} (hlt : ∀ q ∈ pre, q.1 < c') : Off pre ((74, tabObj ps) :: codes) ((74, tabObj ps') :: (c', oc) :: codes) := by
  rintro d hd ⟨o, hm⟩ hold q hq
  rcases List.mem_cons.mp hq with rfl | hq
  · exact fun e => hd e.symm
  rcases List.mem_cons.mp hq with rfl | hq
  · exact fun e => absurd (hlt (d, o) hm) (by show ¬ d < c'; rw [← e]; exact Nat.lt_irrefl _)
  · exact hold q (.tail _ hq)
theorem lam_tab {Q : Value → Shared → Prop} (F : Fr h₀ L s.heap m) (N : News h₀ L s.heap big) (T : Top p loose mean mg mb h₀) (C : CodeHd h₀ c 74) (hcd : ccd = .ref c) (hT : TabL tl) (sub : ∀ p ∈ pre ++ (front ++ tl), p ∈ big) (hne : ∀ q ∈ pre ++ front, q.1 ≠ 74)
    (hcl : closureFor scope (envX cn cs L a ccd cl) = pure clos)
    (h : ∀ f c' oc vs t ctv h' tk tl', Fr h₀ L h' m → News h₀ L h' ((f, kla_obj name lq params body scope clos ((mg "__name__").getD .none) c' ctv) :: (pre ++ (front ++ tl'))) → TabL tl' → (c', oc) ∈ tl' → oc.data = .fields vs → vs[1]? = some (.str lq t) →
      Off pre tl tl' → Q (.ref f) { s with heap := h', toks := tk }) :
    wpAny M A (makeFunction name lq params (.expr body) scope (envX cn cs L a ccd cl) [] [] [] lp firstLine) Q E s := by
  obtain ⟨ps, codes, rfl, ht, hc, hl⟩ := hT
  have N0 : News h₀ L s.heap (pre ++ (front ++ (74, tabObj ps) :: codes)) := cb_drop N sub
  cases hf : codeAmong lp ps.toList with
  | none =>
    have e0 : pre ++ (front ++ (74, tabObj ps) :: codes) = (pre ++ front) ++ (74, tabObj ps) :: codes := (List.append_assoc ..).symm
    rw [e0] at N0
    have h74 : (74, tabObj ps) ∈ (pre ++ front) ++ (74, tabObj ps) :: codes := List.mem_append_right _ (.head _)
    refine kla_nest F N0 T C hcd (updF_mid hc hne) ht hf hcl fun f c' oc vs t ctv h' tk F' N' d1 d2 l1 l2 => ?_
    have hlt : ∀ q ∈ pre, q.1 < c' := fun q hq => l1 q (List.mem_append_left _ (List.mem_append_left _ hq))
    refine h f c' oc vs t ctv h' tk _ F' (cb_drop N' ?_) (tabL_snoc (pos := lp) ht hc (fun e => absurd (l1 _ h74) (by show ¬ 74 < c'; rw [e]; exact Nat.lt_irrefl _)) hl (.inr ⟨rfl, rfl, hf⟩) d1 d2) (.tail _ (.head _)) d1 d2 (off_snoc hlt)
    intro q hq
    rcases List.mem_cons.mp hq with rfl | hq
    · exact .head _
    rcases List.mem_append.mp hq with hq | hq
    · exact .tail _ (.tail _ (List.mem_append_left _ (List.mem_append_left _ hq)))
    rcases List.mem_append.mp hq with hq | hq
    · exact .tail _ (.tail _ (List.mem_append_left _ (List.mem_append_right _ hq)))
    rcases List.mem_cons.mp hq with rfl | hq
    · exact .tail _ (.tail _ (List.mem_append_right _ (.head _)))
    rcases List.mem_cons.mp hq with rfl | hq
    · exact .tail _ (.head _)
    · exact .tail _ (.tail _ (List.mem_append_right _ (.tail _ hq)))
  | some cv =>
    obtain ⟨a', oc, vs, t, rfl, hm, d1, d2⟩ := hl cv hf
    refine kla_hit F N0 T C hcd (List.mem_append_right _ (List.mem_append_right _ (.head _))) ht hf hcl fun f ctv h' tk F' N' l1 => ?_
    exact h f a' oc vs t ctv h' tk _ F' N' ⟨ps, codes, rfl, ht, hc, hl⟩ (.tail _ hm) d1 d2 fun d _ _ h => h
/-- the code of a generator expression -/
theorem gcode_tab {pos : Pos} {qn : Str} {Q : Value → Shared → Prop} (F : Fr h₀ L s.heap m) (N : News h₀ L s.heap big) (C : CodeHd h₀ c 74) (hcd : ccd = .ref c) (hT : TabL tl) (sub : ∀ p ∈ pre ++ (front ++ tl), p ∈ big) (hne : ∀ q ∈ pre ++ front, q.1 ≠ 74)
    (hp : (((pos.line : Nat) : Int) == (lp.line : Int) && ((pos.col : Nat) : Int) == (lp.col : Int)) = false)
    (h : ∀ code h' tk tl', Fr h₀ L h' m → News h₀ L h' (pre ++ (front ++ tl')) → TabL tl' → Off pre tl tl' → (∀ b o, b ≠ 74 → s.heap.get? b = some o → h'.get? b = some o) → s.heap.objs.size ≤ h'.objs.size → (∀ q ∈ tl', s.heap.objs.size ≤ q.1 ∨ ∃ o, (q.1, o) ∈ tl) → Q code { s with heap := h', toks := tk }) :
    wpAny M A (genexprCode (envX cn cs L a ccd cl) pos qn scope) Q E s := by
  obtain ⟨ps, codes, rfl, ht, hc, hl⟩ := hT
  have N0 : News h₀ L s.heap (pre ++ (front ++ (74, tabObj ps) :: codes)) := cb_drop N sub
  have hm := N0 (74, tabObj ps) (List.mem_append_right _ (List.mem_append_right _ (.head _)))
  have Cs := C.keeps F.keep
  cases hf : codeAmong pos ps.toList with
  | none =>
    refine wpAny_genexprCodeX hcd (Cs.code hm.1 ht) (Cs.tab hm.1) hf fun c' h' tk hx hge hlt _ hrec htb _ => ?_
    obtain ⟨c₂, oc, vs, t, e2, hoc, hd, hv⟩ := hrec
    cases e2
    have hLs : L < s.heap.objs.size := F.ns.lt
    have hLc : L < c' := Nat.lt_of_lt_of_le hLs hge
    have old : ∀ b o, h₀.get? b = some o → h'.get? b = some o := fun b o e => hx b o (fun q => by rw [q, hm.2.2] at e; cases e) (F.keep b o e)
    have fresh : ∀ b, L < b → h₀.get? b = none := fun b hb => Heap.get?_none_of_le (Nat.le_trans F.above (Nat.le_of_lt hb))
    have lt : ∀ q ∈ pre ++ (front ++ (74, tabObj ps) :: codes), q.1 < c' := fun q hq => Nat.lt_of_lt_of_le (Heap.lt_size (N0 q hq).1) hge
    refine h _ h' tk ((74, tabObj (ps ++ #[rawInt pos.line, rawInt pos.col, .ref c'])) :: (c', oc) :: codes) ⟨F.ns.extBut hx hm.2.1.symm, old, F.above⟩ ?_
      (tabL_snoc ht hc (fun e => absurd (lt _ (List.mem_append_right _ (List.mem_append_right _ (.head _)))) (by show ¬ 74 < c'; rw [e]; exact Nat.lt_irrefl _)) hl (.inl hp) hd hv)
      (off_snoc fun q hq => lt q (List.mem_append_left _ hq)) (fun b o hb e => hx b o hb e) (Nat.le_trans hge (Nat.le_of_lt hlt)) (fun q hq => ?_)
    rotate_left
    · rcases List.mem_cons.mp hq with rfl | hq
      · exact .inr ⟨_, .head _⟩
      rcases List.mem_cons.mp hq with rfl | hq
      · exact .inl hge
      · exact .inr ⟨q.2, .tail _ hq⟩
    intro q hq
    have same : ∀ q ∈ pre ++ (front ++ (74, tabObj ps) :: codes), q.1 ≠ 74 → h'.get? q.1 = some q.2 ∧ q.1 ≠ L ∧ h₀.get? q.1 = none := fun q hq h7 => ⟨hx _ _ h7 (N0 q hq).1, (N0 q hq).2⟩
    rcases List.mem_append.mp hq with hq | hq
    · exact same q (List.mem_append_left _ hq) (hne q (List.mem_append_left _ hq))
    rcases List.mem_append.mp hq with hq | hq
    · exact same q (List.mem_append_right _ (List.mem_append_left _ hq)) (hne q (List.mem_append_right _ hq))
    rcases List.mem_cons.mp hq with rfl | hq
    · exact ⟨htb.2, hm.2⟩
    rcases List.mem_cons.mp hq with rfl | hq
    · exact ⟨hoc, Nat.ne_of_gt hLc, fresh _ hLc⟩
    · exact same q (List.mem_append_right _ (List.mem_append_right _ (.tail _ hq))) (hc q hq)
  | some cv =>
    refine wpAny_codeAt_hit hcd (Cs.code hm.1 ht) hf ?_
    exact h cv s.heap s.toks _ F N0 ⟨ps, codes, rfl, ht, hc, hl⟩ (fun d _ _ h => h) (fun b o _ e => e) (Nat.le_refl _) (fun q hq => .inr ⟨q.2, hq⟩)
end
end Mine
end
section
open PySem PySem.W PyProof.Rows PySem.Calls
set_option Elab.async false
namespace Mine
abbrev yes : Nat → Bool := fun _ => true
theorem passing_yes (n : Nat) : passing yes n 0 = List.range n := by unfold passing; rw [List.drop_zero]; exact List.filter_eq_self.mpr fun _ _ => rfl
/-- a generator over a list, ready -/
def GenJ (prog : Program) (w : World) (A : Around) (a : Addr) (arr : Array Value) (L : Addr) (led : List (Addr × Obj)) (s : Shared) : Prop :=
  ∃ fp wr g St, WalksS prog w A.in4 a fp wr (GenOnlyQ g) (passing yes arr.size 0).length (fun j y => ∃ i, (passing yes arr.size 0)[j]? = some i ∧ arr[i]? = some y) St ∧ St 0 s ∧ (∀ i s', St i s' → s'.TypeIs (.ref a) "generator") ∧ a ∈ fp ∧ (∀ b ∈ fp, b < s.heap.objs.size) ∧ ∀ b ∈ wr, L < b ∧ ∀ q ∈ led, q.1 ≠ b
section
variable {prog : Program} {w : World} {A : Around} {E : Value → Shared → Prop} {s : Shared} {h₀ : Heap} {L a c CH : Addr} {m mg mb : Str → Option Value} {cn : Str} {cs : Scope} {ccd : Value} {cl : List (Str × Addr)} {big pre front tl : List (Addr × Obj)}
  {p : Program} {loose : List Str} {mean : ExcName → Option Value}
theorem gen_eval {elt iter : PySem.Expr} {x : Str} {px pos : Pos} {scope : Scope} {clos : List (Str × Addr)} {Q : Value → Shared → Prop} {arr : Array Value} {n : Nat}
    (hh : A.handled = none) (hroom : A.depth < recursionLimit) (F : Fr h₀ L s.heap m) (N : News h₀ L s.heap big) (T : Top p loose mean mg mb h₀) (C : CodeHd h₀ c 74) (hcd : ccd = .ref c) (hT : TabL tl) (sub : ∀ p ∈ pre ++ (front ++ tl), p ∈ big) (hne : ∀ q ∈ pre ++ front, q.1 ≠ 74)
    (hp : (((pos.line : Nat) : Int) == (lp.line : Int) && ((pos.col : Nat) : Int) == (lp.col : Int)) = false) (hm : (CH, listOf arr n) ∈ pre)
    (hi : ∀ Q' : Value → Shared → Prop, Q' (.ref CH) s → wpAny (model prog w) A (eval iter (envX cn cs L a ccd cl)) Q' E s)
    (he : ∀ (code : Value) (C0 : Addr) (A' : Around) (E' : Value → Shared → Prop) (i : Nat) (v : Value) (t : Shared) (m₂ : Str → Option Value), A'.handled = none → A'.depth ≤ A.depth + 1 → A'.units ≤ A.units + 8 → arr[i]? = some v → t.heap.Ns C0 m₂ → m₂ x = some v →
      wpAny (model prog w) A' (eval elt (genEnv scope clos C0 code builtinsNs (envX cn cs L a ccd cl))) (fun y s₃ => arr[i]? = some y ∧ Keeps t s₃) E' t)
    (hQ : ∀ a' h' tk' gs tl', gs.bare = true → Fr h₀ L h' m → News h₀ L h' (pre ++ (front ++ tl')) → TabL tl' → Off pre tl tl' → GenJ prog w A a' arr L (pre ++ (front ++ tl')) { s with heap := h', toks := tk', gens := s.gens.push gs } →
      Q (.ref a') { s with heap := h', toks := tk', gens := s.gens.push gs })
    (hco : scope.isCoroutine = false) (hclos : closureFor scope (envX cn cs L a ccd cl) = pure clos) (hcell : ∀ y ∈ scope.names, y.2 ≠ .cell) (h0 : scope.names.lookup (".0" : Str) = some NameKind.local)
    (hx : scope.names.lookup x = some .local) (hkind : scope.kind = .function) (hs : ∀ r, genFold iter (envX cn cs L a ccd cl) r = pure r) :
    wpAny (model prog w) A (eval (.GeneratorExp elt [⟨.Name x px, iter, [], 0⟩] scope pos) (envX cn cs L a ccd cl)) Q E s := by
  have N0 : News h₀ L s.heap (pre ++ (front ++ tl)) := cb_drop N sub
  have hmN := N0 (CH, listOf arr n) (List.mem_append_left _ hm)
  have hl : s.heap.IsList CH arr := ⟨_, hmN.1, rfl, n, rfl⟩
  have hlt : CH < s.heap.objs.size := Heap.lt_size hmN.1
  have hl0 : s.heap.NoLimit := T.nolimit.keeps F.keep
  have hcs : cStatics < s.heap.objs.size := let ⟨_, hn, _⟩ := hl0; hn.lt
  refine wpAny_GeneratorExp_walksQD hh hco hclos hcell h0 hx hkind hroom (hi _ (wpAny_pyIter_list hl ⟨hl0.push _, ?_⟩)) hs
  have N1 : News h₀ L (s.heap.push { cls := .type "list_iterator", data := .fields #[.ref CH, .int 0 0] }) (pre ++ (front ++ tl)) := fun q hq => ⟨Heap.get?_push_of_some _ (N0 q hq).1, (N0 q hq).2⟩
  refine gcode_tab (s := { s with heap := s.heap.push { cls := .type "list_iterator", data := .fields #[.ref CH, .int 0 0] } }) (F.keeps fun _ _ e => Heap.get?_push_of_some _ e) N1 C hcd hT (fun _ h => h) hne hp fun code h' tk tl' F' N' hT' off keep hsz hfar => ?_
  have h74 : (74 : Nat) < s.heap.objs.size := by
    obtain ⟨o, ho⟩ := hT.at
    exact Heap.lt_size (N0 _ (List.mem_append_right _ (List.mem_append_right _ ho))).1
  have hI74 : s.heap.objs.size ≠ 74 := Nat.ne_of_gt h74
  have hCH74 : CH ≠ 74 := hne _ (List.mem_append_left _ hm)
  have hgs := T.g.keeps F'.keep
  obtain ⟨bm, ob, b1, b2, b3, b4, b5, b6⟩ := T.bmain
  have hbG : bm ≠ mainGlobals := fun q => by
    obtain ⟨o, es, ep, e, hd, _⟩ := T.g
    rw [q, e] at b3; cases b3; rw [hd] at b6; cases b6
  refine wpAny_builtinsFor hgs b1 b2 (F'.keep _ _ b3) b4 b5 b6 ?_
  have hsz1 : s.heap.objs.size + 1 ≤ h'.objs.size := by rw [Heap.size_push] at hsz; exact hsz
  have hl4 : h'.NoLimit := T.nolimit.keeps F'.keep
  refine ⟨s.heap.objs.size, [s.heap.objs.size, CH], [s.heap.objs.size], arr.size, fun i v => arr[i]? = some v, fun i h => h.IsListIter s.heap.objs.size CH i ∧ h.IsList CH arr, yes, fun i y => arr[i]? = some y, rfl,
    fun A' hA => Walks.list hA _ _ (Nat.ne_of_lt hlt) arr, ⟨⟨_, keep _ _ hI74 (Heap.get?_push_size _ rfl), rfl, rfl⟩, ⟨_, keep _ _ hCH74 (Heap.get?_push_of_some _ hmN.1), rfl, n, rfl⟩⟩, ?_, hl4, ?_, ?_, ?_⟩
  · intro b hb
    rcases List.mem_cons.mp hb with rfl | hb
    · exact hsz1
    · rw [List.mem_singleton.mp hb]; exact Nat.lt_of_lt_of_le hlt (Nat.le_of_succ_le hsz1)
  · intro hb
    exact absurd hcs (by rw [List.mem_singleton.mp hb]; exact Nat.lt_irrefl _)
  · intro href _
    exact ⟨fun A' E' i v t m₂ hA hD hU hP hn hm₂ hk => wpAny_pure ⟨rfl, t.heap, t.toks, rfl, fun _ _ e => e⟩, fun A' E' i v t m₂ hA hD hU hP _ hn hm₂ hk => he code _ A' E' i v t m₂ hA hD hU hP hn hm₂⟩
  · intro a' h₅ tk₅ gs hb hag hsz₅ hk₅ W hat
    refine hQ a' h₅ tk₅ gs tl' hb (F'.keeps hk₅) (fun q hq => ⟨hk₅ _ _ (N' q hq).1, (N' q hq).2⟩) hT' off ⟨_, _, _, _, W, hat, fun i s' st => st.1.typeIs, List.mem_cons_self, ?_, ?_⟩
    · intro b hb
      show b < h₅.objs.size
      rw [hsz₅]
      rcases List.mem_cons.mp hb with rfl | hb
      · exact Nat.lt_succ_self _
      · rcases List.mem_cons.mp hb with rfl | hb
        · exact Nat.lt_succ_of_lt hag
        · exact Nat.lt_succ_of_lt (Nat.lt_trans (List.mem_range.mp hb) hag)
    · have hLs : L < s.heap.objs.size := F.ns.lt
      have old : ∀ q ∈ pre ++ (front ++ tl'), q.1 < h'.objs.size := fun q hq => Heap.lt_size (N' q hq).1
      intro b hb
      rcases List.mem_cons.mp hb with rfl | hb
      · exact ⟨Nat.lt_of_lt_of_le hLs (Nat.le_of_succ_le hsz1), fun q hq => Nat.ne_of_lt (old q hq)⟩
      · rw [List.mem_singleton.mp hb]
        refine ⟨hLs, fun q hq e => ?_⟩
        have older : ∀ d o, (d, o) ∈ pre ++ (front ++ tl) → d ≠ s.heap.objs.size := fun d o h => Nat.ne_of_lt (Heap.lt_size (N0 (d, o) h).1)
        rcases List.mem_append.mp hq with hq | hq
        · exact older q.1 q.2 (List.mem_append_left _ hq) e
        rcases List.mem_append.mp hq with hq | hq
        · exact older q.1 q.2 (List.mem_append_right _ (List.mem_append_left _ hq)) e
        · rcases hfar q hq with h | ⟨o, h⟩
          · rw [Heap.size_push, e] at h
            exact absurd h (Nat.not_succ_le_self _)
          · exact older q.1 o (List.mem_append_right _ (List.mem_append_right _ h)) e
theorem strs_fun {vs : List Value} {xs ys : List Str} (h1 : StrsAre vs xs) (h2 : StrsAre vs ys) : xs = ys := by
  induction h1 generalizing ys with
  | nil => cases h2; rfl
  | cons x t _ ih => cases h2 with | cons _ _ h2 => rw [ih h2]
theorem gen_join {a' : Addr} {arr : Array Value} {led : List (Addr × Obj)} {sep r : Str} {t : Tok} {ys : List Str} {Q : Value → Shared → Prop} (G : GenJ prog w A a' arr L led s) (F : Fr h₀ L s.heap m) (N : News h₀ L s.heap led) (hys : StrsAre arr.toList ys) (hok : JoinOk sep ys = true) (hz : arr.size ≤ 1000) (er : Txt.join sep ys = r)
    (h : ∀ h' t' tk' g', (AllBare s.gens → AllBare g') → Fr h₀ L h' m → News h₀ L h' led → Q (.str r t') { s with heap := h', toks := tk', gens := g' }) :
    wpAny (model prog w) A (call (.builtin "str.join") [.str sep t, .ref a']) Q E s := by
  subst er
  obtain ⟨fp, wr, g, St, W, hst, hT, ha, hfp, hwr⟩ := G
  have hn : (passing yes arr.size 0).length = arr.size := by rw [passing_yes, List.length_range]
  refine SC.joinGen W.in4_2 hT hst hfp ha (fun j v hv => ?_) (fun s' lt hm hacc => ?_) (by rw [hn]; exact Nat.le_trans hz (by decide))
  · obtain ⟨i, _, hi⟩ := hv
    have hmem : v ∈ arr.toList := by
      rw [← Array.getElem?_toList] at hi
      exact List.mem_of_getElem? hi
    obtain ⟨y, u, e⟩ : ∃ y u, v = .str y u := by
      clear hok h
      generalize arr.toList = l at hmem hys
      induction hys with
      | nil => cases hmem
      | cons x u _ ih =>
        rcases List.mem_cons.mp hmem with rfl | hmem
        · exact ⟨_, _, rfl⟩
        · exact ih hmem
    exact ⟨y, u, e⟩
  · have hsz : lt.length = arr.size := by have := hacc.1; rw [hn] at this; simpa [strValues] using this
    have e : strValues lt = arr.toList := by
      apply List.ext_getElem?
      intro j
      by_cases hj : j < lt.length
      · have hj' : j < (strValues lt).toArray.size := by simpa [strValues] using hj
        obtain ⟨i, h1, h2⟩ := hacc.2 j _ (Array.getElem?_eq_getElem hj')
        rw [passing_yes, List.getElem?_range (by lia)] at h1
        cases h1
        have h3 : arr.toList[j]? = some ((strValues lt).toArray[j]) := by rw [← h2]; simp
        rw [h3]
        have hj2 : j < (strValues lt).length := by simpa [strValues] using hj
        rw [List.getElem?_eq_getElem hj2]
        simp
      · rw [List.getElem?_eq_none (by simpa [strValues] using Nat.le_of_not_lt hj), List.getElem?_eq_none (by simp; lia)]
    have hl : lt.map (·.1) = ys := by
      have h2 := strsAre_of_values lt
      rw [e] at h2
      exact strs_fun h2 hys
    rw [hl]
    refine ⟨hok, fun t' k => ?_⟩
    have f1 := F.moved hm fun b hb => (hwr b hb).1
    have n1 : News h₀ L s'.heap led := fun q hq => ⟨hm.heap _ _ (fun hb => (hwr _ hb).2 q hq rfl) (N q hq).1, (N q hq).2⟩
    have es : ({ s' with toks := k } : Shared) = { s with heap := s'.heap, toks := k, gens := s'.gens } := by
      have := hm.drawn
      have := hm.os
      cases s'; cases s; simp_all
    rw [es]
    exact h _ t' k _ (fun g => g.movedS hm) f1 n1
end
end Mine
end
section
open PySem PySem.W PyProof.Rows PySem.Calls
set_option Elab.async false
namespace Mine
abbrev dNames (CH : Addr) (j k : Int) (tj tk : Tok) (pat mark : Str) (st D b : Addr) (i : Int) (t1 t2 ti tn : Tok) : List (Str × Value) :=
  (Str.ofString "chunks", .ref CH) :: (Str.ofString "j", .int j tj) :: (Str.ofString "k", .int k tk) :: trNames pat mark st D b i t1 t2 ti tn
def DashS (CH : Addr) (c : Str) (j k : Int) (tj : Tok) (pat mark : Str) (st D b : Addr) (i : Int) (t1 t2 tn : Tok) (rest : List (Addr × Obj)) (m : Str → Option Value) (nx : List (Addr × Obj)) : Prop :=
  ∃ tc ti tk nn, nx = (CH, listOf (List.toArray [.str c tc]) nn) :: rest ∧ ∀ p ∈ dNames CH j k tj tk pat mark st D b i t1 t2 ti tn, m p.1 = some p.2
def DashJ (m₀ : Str → Option Value) (nx₀ : List (Addr × Obj)) (S : (Str → Option Value) → List (Addr × Obj) → Prop) (n : Nat) (m : Str → Option Value) (nx : List (Addr × Obj)) : Prop := (n = 1 ∧ m = m₀ ∧ nx = nx₀) ∨ (n = 0 ∧ S m nx)
section
variable {prog : Program} {w : World} {A : Around} {E : Value → Shared → Prop} {s : Shared} {env : Env} {h₀ : Heap} {L : Addr} {Q : Flow → Shared → Prop} {m₀ : Str → Option Value} {big nx₀ rest : List (Addr × Obj)} {CH st D b : Addr} {c pat mark : Str} {i j k : Int} {t1 t2 tn tj : Tok}
theorem step_brk {J : Nat → (Str → Option Value) → List (Addr × Obj) → Prop} {n : Nat} {s₃ : Shared} (h : Q .next s₃) : WhileStep2 h₀ L s J Q n .brk s₃ := h
theorem dash_end {nn : Nat} {tc ti tk : Tok} {m' : Str → Option Value} {h' : Heap} {tks : Nat} (F : Fr h₀ L h' m') (N : News h₀ L h' big) (sub : ∀ p ∈ (CH, listOf (List.toArray [.str c tc]) nn) :: rest, p ∈ big)
    (g1 : m' (Str.ofString "chunks") = some (.ref CH)) (g2 : m' (Str.ofString "j") = some (.int j tj)) (g3 : m' (Str.ofString "k") = some (.int k tk))
    (m1 : m' (Str.ofString "pat") = some (.str pat t1)) (m2 : m' (Str.ofString "STAR") = some (.ref st)) (m3 : m' (Str.ofString "QUESTION_MARK") = some (.str mark t2)) (m4 : m' (Str.ofString "res") = some (.ref D)) (m5 : m' (Str.ofString "add") = some (.ref b)) (m6 : m' (Str.ofString "i") = some (.int i ti)) (m7 : m' (Str.ofString "n") = some (.int pat.length tn)) :
    WhileStep2 h₀ L s (DashJ m₀ nx₀ (DashS CH c j k tj pat mark st D b i t1 t2 tn rest)) Q 1 .next { s with heap := h', toks := tks } :=
  ⟨h', tks, m', _, 0, rfl, F, cb_drop N sub, Nat.zero_lt_one, .inr ⟨rfl, tc, ti, tk, nn, rfl, List.forall_mem_cons.mpr ⟨g1, List.forall_mem_cons.mpr ⟨g2, List.forall_mem_cons.mpr ⟨g3, all7 m1 m2 m3 m4 m5 m6 m7⟩⟩⟩⟩⟩
theorem dash_loop {test : PySem.Expr} {body : List Stmt} {pos : Pos} (F : Fr h₀ L s.heap m₀) (N : News h₀ L s.heap big) (g1 : m₀ (Str.ofString "chunks") = some (.ref CH)) (g2 : m₀ (Str.ofString "j") = some (.int j tj))
    (m1 : m₀ (Str.ofString "pat") = some (.str pat t1)) (m2 : m₀ (Str.ofString "STAR") = some (.ref st)) (m3 : m₀ (Str.ofString "QUESTION_MARK") = some (.str mark t2)) (m4 : m₀ (Str.ofString "res") = some (.ref D)) (m5 : m₀ (Str.ofString "add") = some (.ref b)) (m7 : m₀ (Str.ofString "n") = some (.int pat.length tn))
    (sub : ∀ p ∈ (CH, listOf #[] 0) :: rest, p ∈ big)
    (turn1 : ∀ h tk, Fr h₀ L h m₀ → News h₀ L h ((CH, listOf #[] 0) :: rest) →
      wpAny (model prog w) A (isTrue test env (eval test env)) (fun cc s₂ => if cc = true then wpAny (model prog w) A (execs body env) (WhileStep2 h₀ L s (DashJ m₀ ((CH, listOf #[] 0) :: rest) (DashS CH c j k tj pat mark st D b i t1 t2 tn rest)) Q 1) E s₂ else Q .next s₂) E { s with heap := h, toks := tk })
    (turn2 : ∀ u tc ti tk nn h tks, Fr h₀ L h (kstB u (dNames CH j k tj tk pat mark st D b i t1 t2 ti tn)) → News h₀ L h ((CH, listOf (List.toArray [.str c tc]) nn) :: rest) →
      wpAny (model prog w) A (isTrue test env (eval test env)) (fun cc s₂ => if cc = true then wpAny (model prog w) A (execs body env) (WhileStep2 h₀ L s (DashJ m₀ ((CH, listOf #[] 0) :: rest) (DashS CH c j k tj pat mark st D b i t1 t2 tn rest)) Q 0) E s₂ else Q .next s₂) E { s with heap := h, toks := tks })
    (hE : PassesOwn (model prog w) A env E := by passes_own) :
    wpAny (model prog w) A (exec (.While test body [] pos) env) Q E s := by
  refine While_inv2 (DashJ m₀ ((CH, listOf #[] 0) :: rest) (DashS CH c j k tj pat mark st D b i t1 t2 tn rest)) (n₀ := 1) F (cb_drop N sub) (.inl ⟨rfl, rfl, rfl⟩) ?_ hE
  rintro n m₁ news₁ h₁ tk₁ F₁ N₁ (⟨rfl, rfl, rfl⟩ | ⟨rfl, tc, ti, tk, nn, rfl, hm⟩)
  · exact turn1 h₁ tk₁ F₁ N₁
  · rw [mapK _ hm] at F₁
    exact turn2 m₁ tc ti tk nn h₁ tk₁ F₁ N₁
end
section
variable {prog : Program} {w : World} {A : Around} {E : Value → Shared → Prop} {s : Shared} {h₀ : Heap} {L CH : Addr} {m : Str → Option Value} {Q : Value → Shared → Prop}
theorem item_arr {value slice : PySem.Expr} {arr : Array Value} {news : List (Addr × Obj)} {n : Nat} {k : Int} {u : Tok} {v : Value} (N : News h₀ L s.heap news) (hm : (CH, listOf arr n) ∈ news) (h0 : 0 ≤ k) (hk : k < 2 ^ 63) (hv : arr[k.toNat]? = some v) (h : Q v s)
    (hs : subscripted slice false (.ref CH) (.int k u) = operate [.ref CH, .int k u] (getItem (.ref CH) (.int k u)) := by with_unfolding_all rfl) :
    wpAny (model prog w) A (subscriptTail value slice (.ref CH) (.int k u)) Q E s := by
  have hl : s.heap.IsList CH arr := ⟨_, N.get hm, rfl, n, rfl⟩
  exact tail_any hl.typeIs slot_list_getitem.lookup (wpAny_getItem_list hl h0 hk hv h) hs
theorem item_arrS {value slice : PySem.Expr} {arr : Array Value} {news : List (Addr × Obj)} {n : Nat} {k : Int} {u t : Tok} {x : Str} (N : News h₀ L s.heap news) (hm : (CH, listOf arr n) ∈ news) (h0 : 0 ≤ k) (hk : k < 2 ^ 63) (hv : arr[k.toNat]? = some (.str x t)) (h : Q (.str x t) s)
    (hs : subscripted slice false (.ref CH) (.int k u) = operate [.ref CH, .int k u] (getItem (.ref CH) (.int k u)) := by with_unfolding_all rfl) :
    wpAny (model prog w) A (subscriptTail value slice (.ref CH) (.int k u)) Q E s := item_arr N hm h0 hk hv h hs
theorem allLt_mem {d : Nat} : ∀ {l : List (Addr × Obj)}, AllLt d l → ∀ p ∈ l, p.1 < d
  | [], _, _, hp => nomatch hp
  | _ :: _, h, p, hp => by
    rcases List.mem_cons.mp hp with rfl | hp
    · exact h.1
    · exact allLt_mem h.2 p hp
theorem off3 {CH b D I : Addr} {o1 o2 o3 : Obj} {rest : List (Addr × Obj)} (h : CH < I ∧ b < I ∧ D < I ∧ AllLt I rest) : ∀ p ∈ (CH, o1) :: (b, o2) :: (D, o3) :: rest, p.1 ≠ I := fun p hp => by
  rcases List.mem_cons.mp hp with rfl | hp
  · exact Nat.ne_of_lt h.1
  rcases List.mem_cons.mp hp with rfl | hp
  · exact Nat.ne_of_lt h.2.1
  rcases List.mem_cons.mp hp with rfl | hp
  · exact Nat.ne_of_lt h.2.2.1
  · exact Nat.ne_of_lt (allLt_mem h.2.2.2 p hp)
theorem ch_add {vs : List Value} {n : Nat} {v : Value} {rest big : List (Addr × Obj)} (F : Fr h₀ L s.heap m) (N : News h₀ L s.heap big) (ap : ∀ q ∈ rest, q.1 ≠ CH)
    (sub : ∀ p ∈ (CH, listOf (List.toArray vs) n) :: rest, p ∈ big) (hz : vs.length ≤ 1000)
    (h : ∀ h', Fr h₀ L h' m → News h₀ L h' ((CH, listOf (List.toArray (vs ++ [v])) (n + 1)) :: rest) → Q .none { s with heap := h' }) : wpAny (model prog w) A (call (.builtin "list.append") [.ref CH, v]) Q E s :=
  append_K F (cb_drop N sub) (.head ap) (fun h' F' N' => h h' F' (by rw [← List.push_toArray]; exact N')) (Nat.le_trans (by rw [List.size_toArray]; exact hz) (by decide))
end
end Mine
end
section
open PySem PySem.W PyProof.Rows PySem.Calls
set_option Elab.async false
namespace Mine
theorem apart0 {b D : Addr} {o : Obj} {rest : List (Addr × Obj)} (h1 : ∀ p ∈ rest, p.1 < D) (h2 : ∀ q ∈ (D, o) :: rest, q.1 < b) : Apart b D rest :=
  ⟨Nat.ne_of_gt (h2 _ (.head _)), fun q hq => Nat.ne_of_lt (h1 q hq), fun q hq => Nat.ne_of_lt (h2 q (.tail _ hq))⟩
theorem gen_ne {front tl : List (Addr × Obj)} {CH b D : Addr} {o0 o1 o2 : Obj} (ap : Apart b D (front ++ tl)) (hT : TabL tl) (hfr : ∀ q ∈ front, q.1 ≠ 74) (h : b < CH ∧ D < CH ∧ AllLt CH (front ++ tl)) : ∀ q ∈ [(CH, o0), (b, o1), (D, o2)] ++ front, q.1 ≠ 74 := fun q hq => by
  rcases List.mem_cons.mp hq with rfl | hq
  · obtain ⟨o, ho⟩ := hT.at
    exact fun e => absurd (allLt_mem h.2.2 _ (List.mem_append_right _ ho)) (by show ¬ 74 < CH; rw [show CH = 74 from e]; exact Nat.lt_irrefl _)
  · exact lam_ne ap hT hfr q hq
def noOcc (y : Str) : Bool := (Builtin.Str.occurrences y (Str.ofString "\\") 0 y.length (y.length + 1)).isEmpty && (Builtin.Str.occurrences y (Str.ofString "-") 0 y.length (y.length + 1)).isEmpty
theorem elt_of {arr : Array Value} {ys : List Str} {i : Nat} {v : Value} (hs : StrsAre arr.toList ys) (h : (ys.all noOcc) = true) (hv : arr[i]? = some v) :
    ∃ y u, v = .str y u ∧ (Builtin.Str.occurrences y (Str.ofString "\\") 0 y.length (y.length + 1)).isEmpty = true ∧ (Builtin.Str.occurrences y (Str.ofString "-") 0 y.length (y.length + 1)).isEmpty = true := by
  have hmem : v ∈ arr.toList := by
    rw [← Array.getElem?_toList] at hv
    exact List.mem_of_getElem? hv
  clear hv
  generalize arr.toList = l at hmem hs
  induction hs with
  | nil => cases hmem
  | cons x t _ ih =>
    rw [List.all_cons, Bool.and_eq_true] at h
    rcases List.mem_cons.mp hmem with rfl | hmem
    · unfold noOcc at h
      exact ⟨_, _, rfl, Bool.and_eq_true_iff.mp h.1⟩
    · exact ih h.2 hmem
theorem ld_gen {M : Model} {A : Around} {E : Value → Shared → Prop} {s : Shared} {scope : Scope} {cl : List (Str × Addr)} {C : Addr} {code : Value} {env : Env} {m : Str → Option Value} {x : Str} {pos : Pos} {v : Value} {Q : Value → Shared → Prop} (hn : s.heap.Ns C m) (hv : m x = some v) (h : Q v s)
    (hk : scope.kind = .function := by rfl) (hl : (genEnv scope cl C code builtinsNs env).kindOf x = some .local := by rfl) (hd : (x == ("__debug__" : Str)) = false := by decide) :
    wpAny M A (eval (.Name x pos) (genEnv scope cl C code builtinsNs env)) Q E s := wpAny_Name (wpAny_loadName_local hk hl hn hv h) hd
theorem plainAttrs_match : PlainAttrs "re.Match" :=
  ⟨⟨"object.__getattribute__", by rw [typeLookup_type, builtinLookup_eq_fast]; kernel_rfl, by decide +kernel⟩, by rw [typeLookup_type, builtinLookup_eq_fast]; kernel_rfl⟩
theorem entry_group : entryFor table "re.Match.group" = some Builtin.«re.Match.group» := entryFor_of_fast (by kernel_rfl)
theorem slot_group : Slot "re.Match" "group" "re.Match.group" :=
  .of (owner := "re.Match") (n := "group") (by rw [typeLookup_type, builtinLookup_eq_fast]; kernel_rfl) (by decide +kernel) (by decide +kernel) (by decide +kernel)
    (by first | exact .inl (by decide +kernel) | exact .inr (by decide +kernel)) (by rw [isSubtype_type]; kernel_rfl)
theorem args_group (a b : Value) : argsOk "re.Match.group" ⟨[a, b], []⟩ := by unfold argsOk; kernel_rfl
theorem type_group : typeOf (.builtin "re.Match.group") = pure (.type "method_descriptor") := by show builtinType _ = _; rw [builtinType_eq_fast]; kernel_rfl
section
open PySem.Builtin PySem.Builtin.Re
variable {prog : Program} {w : World} {A : Around} {E : Value → Shared → Prop} {s : Shared} {h₀ : Heap} {L M T P : Addr} {m : Str → Option Value} {news : List (Addr × Obj)} {tx t : Tok}
theorem getMethod_group {Mo : Model} {vs : Array Value} {pl : Sem Bool} {Q : Value × List Value → Shared → Prop} (N : News h₀ L s.heap news) (hm : (M, ({ cls := .type "re.Match", data := .fields vs } : Obj)) ∈ news) (h : Q (.builtin "re.Match.group", [.ref M]) s) : wpAny Mo A (getMethod (.ref M) (Str.ofString "group") pl) Q E s :=
  getMethod_builtin (T := "re.Match") ⟨_, N.get hm, rfl⟩ plainAttrs_match slot_group type_group (fun b hb => by cases hb; exact ⟨_, N.get hm, rfl⟩) h
theorem group_one {Q : Value → Shared → Prop} (N : News h₀ L s.heap news) (hm : (M, ampMatch P T tx) ∈ news) (ht : (T, ampTup) ∈ news) (h : ∀ t' tk', Q (.str ⟨#[38]⟩ t') { s with toks := tk' }) : wpAny (model prog w) A (call (.builtin "re.Match.group") [.ref M, .int 1 t]) Q E s := by
  refine wpAny_call (codeAny_call_builtin slot_group.plain entry_group (slot_group.check _ _ _ _ _ _ _ _ ⟨_, N.get hm, rfl⟩ (args_group _ _) ?_))
  unfold Builtin.«re.Match.group» noKeywords
  show wpAny _ _ (reFound (.ref M) >>= _) _ _ _
  unfold reFound
  refine wpAny_bind (wpAny_bind (wpAny_fieldsOf (N.get hm) rfl ?_))
  show wpAny _ _ (reRawItems (.ref T) >>= _) _ _ _
  unfold reRawItems
  refine wpAny_bind (wpAny_bind (wpAny_seqItems (N.get ht) rfl (wpAny_pure ?_)))
  refine wpAny_pure ?_
  show wpAny _ _ (reGroupNumber _ (.int 1 t) >>= _) _ _ _
  unfold reGroupNumber
  refine wpAny_bind (wpAny_bind (wpAny_of_eq (a := some 1) rfl ?_))
  show wpAny _ _ (if ((some (1 : Int)).isSome) = true then _ else _) _ _ _
  rw [if_pos (show (some (1 : Int)).isSome = true from rfl)]
  refine wpAny_bind (wpAny_of_eq (a := (1 : Int)) rfl ?_)
  dsimp only
  split
  · next hh => simp at hh
  refine wpAny_pure ?_
  refine wpAny_bind (?_ : wpAny _ _ (reGroupText _ _ _) _ _ _)
  unfold reGroupText
  dsimp only
  split
  · next hh => simp [reRawOf, rawInt] at hh
  refine wpAny_bind (wpAny_bind (m := reTextOf (.str ampS tx)) (wpAny_of_eq (a := (#[38, 46], 0)) rfl (wpAny_pure ?_)))
  have es : (Array.map reRawOf ((some #[rawInt 0, rawInt 1, rawInt 0, rawInt 1]).getD #[])) = #[0, 1, 0, 1] := by simp [reRawOf, rawInt]
  rw [es]
  show wpAny _ _ (mkStr ⟨(#[38, 46] : Array Nat).extract 0 1⟩) _ _ _
  exact wpAny_mkStr (wpAny_pure (h _ _)) (Nat.le_of_ble_eq_true rfl)
end
end Mine
end
section
open PySem PySem.W PyProof.Rows PySem.Calls
set_option Elab.async false
set_option linter.unusedSectionVars false
namespace Mine
/-! ## the bracket's code, by its place in _translate -/
noncomputable def elseL : List Stmt → List Stmt
  | .If _ _ e _ :: _ => e
  | _ => []
noncomputable def thenL : List Stmt → List Stmt
  | .If _ t _ _ :: _ => t
  | _ => []
noncomputable def bodyL : List Stmt → List Stmt
  | .While _ b _ _ :: _ => b
  | _ => []
noncomputable def brBlock : List Stmt := thenL (elseL (elseL ((bodyL (bo13.1.drop 3)).drop 2)))
@[reducible] noncomputable def scanC : {l : List Stmt // brBlock.drop 3 = l} := ⟨_, by conv => lhs; whnf⟩
@[reducible] noncomputable def tailC : {l : List Stmt // (elseL (brBlock.drop 4)).drop 2 = l} := ⟨_, by conv => lhs; whnf⟩
@[reducible] noncomputable def dashC : {l : List Stmt // elseL ((elseL (brBlock.drop 4)).drop 1) = l} := ⟨_, by conv => lhs; whnf⟩
def tailT : List (List Nat) := [[33], [], brBody 2, brBody 3, [46, 45, 97], [93], brBody 6, brBody 7, [97, 92, 92]]
theorem nine {k : Nat} (h : k < 9) : k = 0 ∨ k = 1 ∨ k = 2 ∨ k = 3 ∨ k = 4 ∨ k = 5 ∨ k = 6 ∨ k = 7 ∨ k = 8 := by omega
section
variable {w : World} {p : Program} {loose : List Str} {mean : ExcName → Option Value} {mg mb : Str → Option Value} {dp un : Nat} {gd : Option (List Code)} {cn : Str} {cs : Scope} {a : Addr} {ccd : Value} {cl : List (Str × Addr)} {outer : List Env} {base g : Heap} {L₀ L : Addr} {s : Shared} {Q : Flow → Shared → Prop}
  {front tl big : List (Addr × Obj)} {pat mark : Str} {st D b : Addr} {t1 t2 ti tn tS tj : Tok} {vs : List Value} {nn k : Nat} {i e : Int} {m : Str → Option Value} {dl rs : List Nat}
  (B : Below (ktrTop dp un gd cn cs L₀ a ccd cl outer) base (envX cn cs L₀ a ccd cl :: outer) g) (X : (KF w.params).In g) (T : Top p loose mean mg mb g) (C1 : CodeHd g 78 74) (hdp : dp + 32 < recursionLimit) (hu : un + 256 < cLine)
  (hT : TabL tl) (hfr : ∀ q ∈ front, q.1 ≠ 74) (hvs : vs.length ≤ 1000) (hz : pat.length ≤ 1000) (ap : Apart b D (front ++ tl))
  (F : Fr g L s.heap m) (N : News g L s.heap big) (sub : ∀ p ∈ (b, boundO D) :: (D, listOf (List.toArray vs) nn) :: (front ++ tl), p ∈ big)
  (mj : m (Str.ofString "j") = some (.int e tj))
  (m1 : m (Str.ofString "pat") = some (.str pat t1)) (m2 : m (Str.ofString "STAR") = some (.ref st)) (m3 : m (Str.ofString "QUESTION_MARK") = some (.str mark t2)) (m4 : m (Str.ofString "res") = some (.ref D)) (m5 : m (Str.ofString "add") = some (.ref b)) (m6 : m (Str.ofString "i") = some (.int i ti)) (m7 : m (Str.ofString "n") = some (.int pat.length tn))
include B X T C1 hdp hu hT hfr hvs hz ap F N sub mj m1 m2 m3 m4 m5 m6 m7
set_option maxRecDepth 100000 in
set_option maxHeartbeats 8000000 in
theorem tail_walk (hk9 : k < 9) {S : Str} (hS : S = ⟨(tailT.getD k []).toArray⟩) (ms : m (Str.ofString "stuff") = some (.str S tS))
    (fin : ∀ x t h' tk' tl' ti' m' nn', x = brOut k → Fr g L h' m' → News g L h' ((b, boundO D) :: (D, listOf (List.toArray (vs ++ [.str x t])) nn') :: (front ++ tl')) → TabL tl' → Apart b D (front ++ tl') → (∀ q ∈ trNames pat mark st D b (e + 1) t1 t2 ti' tn, m' q.1 = some q.2) → Q .next { s with heap := h', toks := tk' }) :
    wpAny (model PySem.Challenge.rw_ij0163_01.row.prog w) ((ktrTop dp un gd cn cs L₀ a ccd cl outer).deeper (envOf (Str.ofString "_translate") sc13.1 L 79 (.ref 78))) (execs tailC.1 (envOf (Str.ofString "_translate") sc13.1 L 79 (.ref 78))) Q (fun _ _ => False) s := by
  k_with_none
  have F1 := fmapB ((Str.ofString "stuff", .str S tS) :: (Str.ofString "j", .int e tj) :: trNames pat mark st D b i t1 t2 ti tn) F (List.forall_mem_cons.mpr ⟨ms, List.forall_mem_cons.mpr ⟨mj, all7 m1 m2 m3 m4 m5 m6 m7⟩⟩)
  have N1 := cb_drop N sub
  clear F N sub ms mj m1 m2 m3 m4 m5 m6 m7
  dsimp only [kstB] at F1
  dsimp only [tailC, sc13]
  k_with "eval Name" => (k_here; k_dflt (refine ld (by k_asm) (by exact rfl) ?_))
  k_with "callWith ref" => (k_dflt (refine callW_held (by k_asm) (by k_mem) ?_))
  k_with "And" => ((with_reducible show Frag.In _ _ ∧ _); refine ⟨X.keeps (Fr.keep (by k_asm)), ?_⟩; (try dsimp only [List.nil_append, List.cons_append]))
  k_with "formatField str" => (k_dflt (refine PyProof.Rows.formatField_str ?_ (by decide +kernel)); intro t' tk')
  k_with "HeldNow" => (refine heldNow_ (News.get (by k_asm) (by k_mem)) ?_)
  k_with "WhileStep2" => (refine hold_ ?_)

  k_with "call builtin:str.replace" => (k_dflt (first | refine replace_no (by decide +kernel) ?_ | refine hold_ ?_))
  k_with "getMethod ref" => (k_here; k_dflt (refine' getMethod_pat ?k1 ?k2 ?k3 ?_; (case k1 => k_asm); (case k2 => k_asm); (case k3 => k_is); k_whole))
  k_with "eval Lambda" => (k_here; k_dflt (refine kla_eval rfl ?_; refine lam_tab (pre := [(b, boundO _), (_, listOf (List.toArray vs) nn)]) (front := front) (by k_asm) (by k_asm) (by k_asm) C1 rfl hT (by intro p hp; repeat (first | exact hp | apply List.Mem.tail)) (lam_ne ap hT hfr) rfl ?_); intro f c' oc vs' t ctv h' tk tl' F' N' hT' hm' d1 d2 hd'; have ap' := apart_on ap hT ⟨_, .tail _ (.head _)⟩ ⟨_, .head _⟩ hd'; dsimp only [List.cons_append, List.nil_append] at N')
  k_with "call builtin:re.Pattern.sub" => (k_here; first | (k_dflt (refine sub_lam_none (by k_asm) (by k_asm) (pat53 (by k_asm)) (by k_mem) rfl (by decide +kernel) (none_failed (by decide)) ?_); intro t' h' tk' F' N') | (refine hold_ ?_))
  k_with "call ref" => (k_here; first | (k_dflt (refine tr_add (by k_asm) (by k_asm) (by assumption) (by intro p hp; repeat (first | exact hp | apply List.Mem.tail)) hvs ?_); intro h' F' N') | refine hold_ ?_)
  k_with "compareOp Eq str str" => (k_dflt (first | refine eq_is (v := true) (by decide +kernel) ?_ | refine eq_is (v := false) (by first | assumption | decide +kernel) ?_))
  k_with "compareOp NotIn str str" => (first | (k_dflt (first | refine notIn_is (v := true) (by decide +kernel) ?_ | refine notIn_is (v := false) (by decide +kernel) ?_)) | (refine hold_ ?_))
  k_with "exec While" => (refine hold_ ?_)
  have hsub : k ≠ 7 → S.cps.size ≤ 1000 ∧ (rs S.cps 0).outcome = some .failed := by
    intro h7
    rw [hS]
    rcases nine hk9 with rfl | rfl | rfl | rfl | rfl | rfl | rfl | rfl | rfl
    all_goals first | exact absurd rfl h7 | exact ⟨by decide +kernel, none_failed (by decide +kernel)⟩
  by_cases h7 : k = 7
  · subst h7
    clear hsub
    cases hS.trans (show (⟨(tailT.getD 7 []).toArray⟩ : Str) = ⟨#[38, 46]⟩ from rfl)
    k_steps
    unfold Hold
    have hcr := codeRec_news (by assumption) (List.mem_cons_of_mem _ (List.mem_cons_of_mem _ (List.mem_cons_of_mem _ (List.mem_append_right front hm')))) d1 d2
    refine sub_lam_amp (by k_asm) (by k_asm) (pat53 (by k_asm)) (by k_mem) rfl ?_ ?_
    · intro M T p h' R F3 N3 hR
      k_with "getMethod ref" => (k_here; k_dflt (refine getMethod_group (by k_asm) (by k_mem) ?_))
      k_with "call builtin:re.Match.group" => (k_here; k_dflt (refine group_one (by k_asm) (by k_mem) (by k_mem) ?_); intro t' tk')
      refine wpAny_call ?_
      have hcr3 := codeRec_news N3 (by repeat (first | exact .tail _ (List.mem_append_right front hm') | apply List.Mem.tail)) d1 d2
      refine kla_code (by k_asm) (by k_asm) (by k_asm) (by k_asm) (by k_asm) rfl rfl rfl (by k_mem) hcr3 (by ktr_room) rfl (locs rfl) ?_ rfl rfl rfl (by decide)
      intro g' L' h' FG' F' N' B' X' T'
      (try dsimp only)
      k_steps
      exact hR _ _ _ (by k_asm) (by k_asm)
    · intro t' h' tk' F' N'
      k_steps
      refine fin _ _ _ _ _ _ _ _ ?_ (by k_asm) (cb_drop (by k_asm) (by intro p hp; repeat (first | exact hp | apply List.Mem.tail))) (by assumption) (by assumption) (all7 rfl rfl rfl rfl rfl rfl rfl) <;> decide +kernel
  · obtain ⟨hs1, hs2⟩ := hsub h7
    clear hsub
    k_with "call builtin:re.Pattern.sub" => (k_here; k_dflt (refine sub_lam_none (by k_asm) (by k_asm) (pat53 (by k_asm)) (by k_mem) rfl hs1 hs2 ?_); intro t' h' tk' F' N')
    k_with "exec If" => (refine hold_ ?_)
    k_steps
    unfold Hold
    clear hs1 hs2
    k_with_none
    k_with "eval Name" => (k_here; k_dflt (refine ld (by k_asm) (by exact rfl) ?_))
    k_with "callWith ref" => (k_dflt (refine callW_held (by k_asm) (by k_mem) ?_))
    k_with "And" => ((with_reducible show Frag.In _ _ ∧ _); refine ⟨X.keeps (Fr.keep (by k_asm)), ?_⟩; (try dsimp only [List.nil_append, List.cons_append]))
    k_with "formatField str" => (k_dflt (refine PyProof.Rows.formatField_str ?_ (by decide +kernel)); intro t' tk')
    k_with "HeldNow" => (refine heldNow_ (News.get (by k_asm) (by k_mem)) ?_)
    k_with "WhileStep2" => (refine hold_ ?_)

    k_with "call builtin:str.replace" => (k_dflt (first | refine replace_no (by decide +kernel) ?_ | refine hold_ ?_))
    k_with "getMethod ref" => (k_here; k_dflt (refine' getMethod_pat ?k1 ?k2 ?k3 ?_; (case k1 => k_asm); (case k2 => k_asm); (case k3 => k_is); k_whole))
    k_with "eval Lambda" => (k_here; k_dflt (refine kla_eval rfl ?_; refine lam_tab (pre := [(b, boundO _), (_, listOf (List.toArray vs) nn)]) (front := front) (by k_asm) (by k_asm) (by k_asm) C1 rfl hT (by intro p hp; repeat (first | exact hp | apply List.Mem.tail)) (lam_ne ap hT hfr) rfl ?_); intro f c' oc vs' t ctv h' tk tl' F' N' hT' hm' d1 d2 hd'; have ap' := apart_on ap hT ⟨_, .tail _ (.head _)⟩ ⟨_, .head _⟩ hd'; dsimp only [List.cons_append, List.nil_append] at N')
    k_with "call builtin:re.Pattern.sub" => (k_here; first | (k_dflt (refine sub_lam_none (by k_asm) (by k_asm) (pat53 (by k_asm)) (by k_mem) rfl (by decide +kernel) (none_failed (by decide)) ?_); intro t' h' tk' F' N') | (refine hold_ ?_))
    k_with "call ref" => (k_here; first | (k_dflt (refine tr_add (by k_asm) (by k_asm) (by assumption) (by intro p hp; repeat (first | exact hp | apply List.Mem.tail)) hvs ?_); intro h' F' N') | refine hold_ ?_)
    k_with "compareOp Eq str str" => (k_dflt (first | refine eq_is (v := true) (by decide +kernel) ?_ | refine eq_is (v := false) (by first | assumption | decide +kernel) ?_))
    k_with "compareOp NotIn str str" => (first | (k_dflt (first | refine notIn_is (v := true) (by decide +kernel) ?_ | refine notIn_is (v := false) (by decide +kernel) ?_)) | (refine hold_ ?_))
    k_with "exec While" => (refine hold_ ?_)
    rcases nine hk9 with rfl | rfl | rfl | rfl | rfl | rfl | rfl | rfl | rfl
    · cases hS.trans (show (⟨(tailT.getD 0 []).toArray⟩ : Str) = ⟨#[33]⟩ from rfl)
      k_steps
      refine fin _ _ _ _ _ _ _ _ ?_ (by k_asm) (cb_drop (by k_asm) (by intro p hp; repeat (first | exact hp | apply List.Mem.tail))) (by assumption) (by assumption) (all7 rfl rfl rfl rfl rfl rfl rfl) <;> decide +kernel
    · cases hS.trans (show (⟨(tailT.getD 1 []).toArray⟩ : Str) = ⟨#[]⟩ from rfl)
      k_steps
      refine fin _ _ _ _ _ _ _ _ ?_ (by k_asm) (cb_drop (by k_asm) (by intro p hp; repeat (first | exact hp | apply List.Mem.tail))) (by assumption) (by assumption) (all7 rfl rfl rfl rfl rfl rfl rfl) <;> decide +kernel
    · cases hS.trans (show (⟨(tailT.getD 2 []).toArray⟩ : Str) = ⟨#[11, 46]⟩ from rfl)
      k_steps
      refine fin _ _ _ _ _ _ _ _ ?_ (by k_asm) (cb_drop (by k_asm) (by intro p hp; repeat (first | exact hp | apply List.Mem.tail))) (by assumption) (by assumption) (all7 rfl rfl rfl rfl rfl rfl rfl) <;> decide +kernel
    · cases hS.trans (show (⟨(tailT.getD 3 []).toArray⟩ : Str) = ⟨#[33, 46]⟩ from rfl)
      k_steps
      refine fin _ _ _ _ _ _ _ _ ?_ (by k_asm) (cb_drop (by k_asm) (by intro p hp; repeat (first | exact hp | apply List.Mem.tail))) (by assumption) (by assumption) (all7 rfl rfl rfl rfl rfl rfl rfl) <;> decide +kernel
    · cases hS.trans (show (⟨(tailT.getD 4 []).toArray⟩ : Str) = ⟨#[46, 45, 97]⟩ from rfl)
      k_steps
      refine fin _ _ _ _ _ _ _ _ ?_ (by k_asm) (cb_drop (by k_asm) (by intro p hp; repeat (first | exact hp | apply List.Mem.tail))) (by assumption) (by assumption) (all7 rfl rfl rfl rfl rfl rfl rfl) <;> decide +kernel
    · cases hS.trans (show (⟨(tailT.getD 5 []).toArray⟩ : Str) = ⟨#[93]⟩ from rfl)
      k_steps
      refine fin _ _ _ _ _ _ _ _ ?_ (by k_asm) (cb_drop (by k_asm) (by intro p hp; repeat (first | exact hp | apply List.Mem.tail))) (by assumption) (by assumption) (all7 rfl rfl rfl rfl rfl rfl rfl) <;> decide +kernel
    · cases hS.trans (show (⟨(tailT.getD 6 []).toArray⟩ : Str) = ⟨#[94]⟩ from rfl)
      k_steps
      refine fin _ _ _ _ _ _ _ _ ?_ (by k_asm) (cb_drop (by k_asm) (by intro p hp; repeat (first | exact hp | apply List.Mem.tail))) (by assumption) (by assumption) (all7 rfl rfl rfl rfl rfl rfl rfl) <;> decide +kernel
    · exact absurd rfl h7
    · cases hS.trans (show (⟨(tailT.getD 8 []).toArray⟩ : Str) = ⟨#[97, 92, 92]⟩ from rfl)
      k_steps
      refine fin _ _ _ _ _ _ _ _ ?_ (by k_asm) (cb_drop (by k_asm) (by intro p hp; repeat (first | exact hp | apply List.Mem.tail))) (by assumption) (by assumption) (all7 rfl rfl rfl rfl rfl rfl rfl) <;> decide +kernel
set_option maxRecDepth 100000 in
set_option maxHeartbeats 8000000 in
theorem dash_walk (hk3 : k = 0 ∨ k = 1 ∨ k = 4) (hx : pat.cps.toList = (dl ++ [91]) ++ (brBody k ++ (93 :: rs))) (hi : i = (dl.length : Int) + 1) (he : e = (dl.length : Int) + ((brBody k).length + 1 : Nat)) (ms : m (Str.ofString "stuff") = some (.str ⟨(brBody k).toArray⟩ tS))
    (fin : ∀ t h' tk' g' tl' i' ti' m', (AllBare s.gens → AllBare g') → Fr g L h' m' → News g L h' ((b, boundO D) :: (D, listOf (List.toArray vs) nn) :: (front ++ tl')) → TabL tl' → Apart b D (front ++ tl') → m' (Str.ofString "stuff") = some (.str ⟨(tailT.getD k []).toArray⟩ t) → m' (Str.ofString "j") = some (.int e tj) →
      (∀ q ∈ trNames pat mark st D b i' t1 t2 ti' tn, m' q.1 = some q.2) → Q .next { s with heap := h', toks := tk', gens := g' }) :
    wpAny (model PySem.Challenge.rw_ij0163_01.row.prog w) ((ktrTop dp un gd cn cs L₀ a ccd cl outer).deeper (envOf (Str.ofString "_translate") sc13.1 L 79 (.ref 78))) (execs dashC.1 (envOf (Str.ofString "_translate") sc13.1 L 79 (.ref 78))) Q (fun _ _ => False) s := by
  k_with_none
  have F1 := fmapB ((Str.ofString "stuff", .str ⟨(brBody k).toArray⟩ tS) :: (Str.ofString "j", .int e tj) :: trNames pat mark st D b i t1 t2 ti tn) F (List.forall_mem_cons.mpr ⟨ms, List.forall_mem_cons.mpr ⟨mj, all7 m1 m2 m3 m4 m5 m6 m7⟩⟩)
  have N1 := cb_drop N sub
  clear F N sub ms mj m1 m2 m3 m4 m5 m6 m7
  subst hi he
  dsimp only [kstB] at F1
  dsimp only [dashC, sc13]
  have hl1 := len_text hx
  rw [List.length_append, List.length_append, List.length_append, List.length_cons, List.length_cons] at hl1
  rcases hk3 with rfl | rfl | rfl
  · k_with_none
    k_with "eval Name" => (k_here; k_dflt (refine ld (by k_asm) (by exact rfl) ?_))
    k_with "callWith ref" => (k_dflt (refine callW_held (by k_asm) (by k_mem) ?_))
    k_with "And" => ((with_reducible show Frag.In _ _ ∧ _); refine ⟨X.keeps (Fr.keep (by k_asm)), ?_⟩; (try dsimp only [List.nil_append, List.cons_append]))
    k_with "formatField str" => (k_dflt (refine PyProof.Rows.formatField_str ?_ (by decide +kernel)); intro t' tk')
    k_with "HeldNow" => (refine heldNow_ (News.get (by k_asm) (by k_mem)) ?_)
    k_with "WhileStep2" => (refine hold_ ?_)

    k_with "compareOp Eq str str" => (k_dflt (first | refine eq_is (v := true) (by decide +kernel) ?_ | refine eq_is (v := false) (by first | assumption | decide +kernel) ?_))
    k_with "exec While" => (refine hold_ ?_)
    have hx1 : pat.cps.toList = (dl ++ [91]) ++ ([33,98] ++ (45 :: 97 :: 93 :: rs)) := hx
    have hl2 := hl1
    have hbl : (brBody 0).length = 4 := rfl
    rw [hbl] at hl2
    simp only [List.length_cons, List.length_nil] at hl2
    have hxB : pat.cps.toList = (dl ++ [91, 33,98, 45]) ++ ([97] ++ (93 :: rs)) := by rw [hx1]; simp
    have haA : (dl ++ [91]).length = dl.length + 1 := by simp
    have haB : (dl ++ [91, 33,98, 45]).length = dl.length + 4 := by simp
    have cp : chAt pat (dl.length + 1 : Int) 33 := chAt_of (a := dl ++ [91]) _ hx1 (by rw [List.length_append]; rfl)
    have cd : chAt pat (dl.length + 1 + 2 : Int) 45 := chAt_of (a := dl ++ [91, 33,98]) (b := 97 :: 93 :: rs) _ (by rw [hx1]; simp) (by simp; omega)
    k_with "subscriptTail Name Name str int" => (k_dflt (refine item_c (by assumption) hz ?_); intro t' tk')
    k_with "call builtin:str.find" => (k_here; k_dflt (first | refine find_hit (c := 45) (by assumption) (by rw [hbl]; omega) (by rw [hbl]; omega) ?_ | refine find_miss (by omega) (by rw [hbl]; omega) (by rw [hbl]; omega) ?_); intro tk')
    k_with "subscriptTail Name Slice str ref" => (k_here; k_dflt (refine slice_is (by k_asm) (by k_asm) (by first | exact seg_of hx1 (by omega) (by simp only [List.length_cons, List.length_nil]; omega) | exact seg_of hxB (by omega) (by rw [hbl]; simp only [List.length_cons, List.length_nil]; omega)) hz ?_); intro h' t' tk' F' N')
    k_steps
    unfold Hold
    refine dash_loop (c := ⟨#[33,98]⟩) (j := (dl.length : Int) + ((brBody 0).length + 1 : Nat)) (k := dl.length + 1 + 2 + 3) (i := dl.length + 1 + 2 + 1) (by k_asm) (by k_asm) rfl rfl rfl rfl rfl rfl rfl rfl (by intro p hp; exact hp) ?_ ?_
    · intro h tk F2 N2
      k_steps
      unfold Hold
      exact dash_end (by k_asm) (by k_asm) (by intro p hp; repeat (first | exact hp | apply List.Mem.tail)) rfl rfl rfl rfl rfl rfl rfl rfl rfl rfl
    · intro u tc ti' tk' nn' h tks F2 N2
      dsimp only [kstB] at F2
      k_steps
      unfold Hold
      refine step_brk ?_
      k_with "pyIter ref" => (k_here; krs_unr)
      k_with "subscriptTail Name Name ref int" => (k_here; k_dflt (refine item_arrS (by k_asm) (by k_mem) (by decide) (by decide) rfl ?_))
      k_with "subscriptTail Name BinOp ref int" => (k_here; k_dflt (refine item_arrS (by k_asm) (by k_mem) (by decide) (by decide) rfl ?_))
      k_with "UnrEnd" => (refine UnrEnd.intro (by k_asm) (by k_asm) ((_, listOf _ _) :: (b, boundO _) :: (_, listOf (List.toArray vs) nn) :: (front ++ tl)) (by intro p hp; repeat (first | exact hp | apply List.Mem.tail)) (off3 (by assumption)) ?_)
      k_with "eval GeneratorExp" => (refine hold_ ?_)
      k_steps
      unfold Hold
      refine gen_eval (pre := [(_, listOf _ _), (b, boundO _), (_, listOf (List.toArray vs) nn)]) (front := front) (clos := []) rfl (by ktr_room) (by k_asm) (by k_asm) (by k_asm) C1 rfl hT (by intro p hp; repeat (first | exact hp | apply List.Mem.tail)) (gen_ne ap hT hfr (by assumption)) rfl (.head _) ?_ ?_ ?_ rfl rfl (by decide) rfl rfl rfl (fun _ => rfl)
      · intro Q' hq
        k_steps
        exact hq
      · intro code C0 A' E' i v t m₂ hA hD hU hv hn hm₂
        obtain ⟨y, u, rfl, o1, o2⟩ := elt_of (ys := [⟨#[33]⟩]) (by exact .cons _ _ .nil) (by decide +kernel) hv
        obtain ⟨h, g, d, tk, os⟩ := t
        k_with "eval Name" => (k_dflt (refine ld_gen hn hm₂ ?_))
        k_with "call builtin:str.replace" => (k_dflt (first | refine replace_no o1 ?_ | refine replace_no o2 ?_))
        k_steps
        first | exact ⟨hv, _, _, rfl, fun _ _ e => e⟩ | exact ⟨_, _, rfl, fun _ _ e => e⟩
      · intro a' h' tk' gs tl9 hgs F' N' hT9 hoff hG
        have hT := hT9
        dsimp only [List.cons_append, List.nil_append] at N' hG
        have ap := apart_on ap (by assumption : TabL tl) ⟨_, .tail _ (.tail _ (.head _))⟩ ⟨_, .tail _ (.head _)⟩ hoff
        k_with "call builtin:str.join" => (k_here; k_dflt (refine gen_join (r := ⟨#[33]⟩) (ys := [⟨#[33]⟩]) hG (by k_asm) (by k_asm) (by exact .cons _ _ .nil) (by decide +kernel) (Nat.le_of_ble_eq_true rfl) (by decide +kernel) ?_); intro h' t' tk' g' hg' F' N'; have hg := fun q => hg' (AllBare.push q hgs))
        k_with "eval GeneratorExp" => (fail)
        k_steps
        exact fin _ _ _ _ _ _ _ _ hg (by k_asm) (cb_drop (by k_asm) (by intro p hp; repeat (first | exact hp | apply List.Mem.tail))) (by assumption) (by assumption) rfl rfl (all7 rfl rfl rfl rfl rfl rfl rfl)
  · k_with_none
    k_with "eval Name" => (k_here; k_dflt (refine ld (by k_asm) (by exact rfl) ?_))
    k_with "callWith ref" => (k_dflt (refine callW_held (by k_asm) (by k_mem) ?_))
    k_with "And" => ((with_reducible show Frag.In _ _ ∧ _); refine ⟨X.keeps (Fr.keep (by k_asm)), ?_⟩; (try dsimp only [List.nil_append, List.cons_append]))
    k_with "formatField str" => (k_dflt (refine PyProof.Rows.formatField_str ?_ (by decide +kernel)); intro t' tk')
    k_with "HeldNow" => (refine heldNow_ (News.get (by k_asm) (by k_mem)) ?_)
    k_with "WhileStep2" => (refine hold_ ?_)

    k_with "compareOp Eq str str" => (k_dflt (first | refine eq_is (v := true) (by decide +kernel) ?_ | refine eq_is (v := false) (by first | assumption | decide +kernel) ?_))
    k_with "exec While" => (refine hold_ ?_)
    have hx1 : pat.cps.toList = (dl ++ [91]) ++ ([98] ++ (45 :: 97 :: 93 :: rs)) := hx
    have hl2 := hl1
    have hbl : (brBody 1).length = 3 := rfl
    rw [hbl] at hl2
    simp only [List.length_cons, List.length_nil] at hl2
    have hxB : pat.cps.toList = (dl ++ [91, 98, 45]) ++ ([97] ++ (93 :: rs)) := by rw [hx1]; simp
    have haA : (dl ++ [91]).length = dl.length + 1 := by simp
    have haB : (dl ++ [91, 98, 45]).length = dl.length + 3 := by simp
    have cp : chAt pat (dl.length + 1 : Int) 98 := chAt_of (a := dl ++ [91]) _ hx1 (by rw [List.length_append]; rfl)
    have cd : chAt pat (dl.length + 1 + 1 : Int) 45 := chAt_of (a := dl ++ [91, 98]) (b := 97 :: 93 :: rs) _ (by rw [hx1]; simp) (by simp; omega)
    k_with "subscriptTail Name Name str int" => (k_dflt (refine item_c (by assumption) hz ?_); intro t' tk')
    k_with "call builtin:str.find" => (k_here; k_dflt (first | refine find_hit (c := 45) (by assumption) (by rw [hbl]; omega) (by rw [hbl]; omega) ?_ | refine find_miss (by omega) (by rw [hbl]; omega) (by rw [hbl]; omega) ?_); intro tk')
    k_with "subscriptTail Name Slice str ref" => (k_here; k_dflt (refine slice_is (by k_asm) (by k_asm) (by first | exact seg_of hx1 (by omega) (by simp only [List.length_cons, List.length_nil]; omega) | exact seg_of hxB (by omega) (by rw [hbl]; simp only [List.length_cons, List.length_nil]; omega)) hz ?_); intro h' t' tk' F' N')
    k_steps
    unfold Hold
    refine dash_loop (c := ⟨#[98]⟩) (j := (dl.length : Int) + ((brBody 1).length + 1 : Nat)) (k := dl.length + 1 + 1 + 3) (i := dl.length + 1 + 1 + 1) (by k_asm) (by k_asm) rfl rfl rfl rfl rfl rfl rfl rfl (by intro p hp; exact hp) ?_ ?_
    · intro h tk F2 N2
      k_steps
      unfold Hold
      exact dash_end (by k_asm) (by k_asm) (by intro p hp; repeat (first | exact hp | apply List.Mem.tail)) rfl rfl rfl rfl rfl rfl rfl rfl rfl rfl
    · intro u tc ti' tk' nn' h tks F2 N2
      dsimp only [kstB] at F2
      k_steps
      unfold Hold
      refine step_brk ?_
      k_with "pyIter ref" => (k_here; krs_unr)
      k_with "subscriptTail Name Name ref int" => (k_here; k_dflt (refine item_arrS (by k_asm) (by k_mem) (by decide) (by decide) rfl ?_))
      k_with "subscriptTail Name BinOp ref int" => (k_here; k_dflt (refine item_arrS (by k_asm) (by k_mem) (by decide) (by decide) rfl ?_))
      k_with "UnrEnd" => (refine UnrEnd.intro (by k_asm) (by k_asm) ((_, listOf _ _) :: (b, boundO _) :: (_, listOf (List.toArray vs) nn) :: (front ++ tl)) (by intro p hp; repeat (first | exact hp | apply List.Mem.tail)) (off3 (by assumption)) ?_)
      k_with "eval GeneratorExp" => (refine hold_ ?_)
      k_steps
      unfold Hold
      refine gen_eval (pre := [(_, listOf _ _), (b, boundO _), (_, listOf (List.toArray vs) nn)]) (front := front) (clos := []) rfl (by ktr_room) (by k_asm) (by k_asm) (by k_asm) C1 rfl hT (by intro p hp; repeat (first | exact hp | apply List.Mem.tail)) (gen_ne ap hT hfr (by assumption)) rfl (.head _) ?_ ?_ ?_ rfl rfl (by decide) rfl rfl rfl (fun _ => rfl)
      · intro Q' hq
        k_steps
        exact hq
      · intro code C0 A' E' i v t m₂ hA hD hU hv hn hm₂
        obtain ⟨y, u, rfl, o1, o2⟩ := elt_of (ys := [⟨#[]⟩]) (by exact .cons _ _ .nil) (by decide +kernel) hv
        obtain ⟨h, g, d, tk, os⟩ := t
        k_with "eval Name" => (k_dflt (refine ld_gen hn hm₂ ?_))
        k_with "call builtin:str.replace" => (k_dflt (first | refine replace_no o1 ?_ | refine replace_no o2 ?_))
        k_steps
        first | exact ⟨hv, _, _, rfl, fun _ _ e => e⟩ | exact ⟨_, _, rfl, fun _ _ e => e⟩
      · intro a' h' tk' gs tl9 hgs F' N' hT9 hoff hG
        have hT := hT9
        dsimp only [List.cons_append, List.nil_append] at N' hG
        have ap := apart_on ap (by assumption : TabL tl) ⟨_, .tail _ (.tail _ (.head _))⟩ ⟨_, .tail _ (.head _)⟩ hoff
        k_with "call builtin:str.join" => (k_here; k_dflt (refine gen_join (r := ⟨#[]⟩) (ys := [⟨#[]⟩]) hG (by k_asm) (by k_asm) (by exact .cons _ _ .nil) (by decide +kernel) (Nat.le_of_ble_eq_true rfl) (by decide +kernel) ?_); intro h' t' tk' g' hg' F' N'; have hg := fun q => hg' (AllBare.push q hgs))
        k_with "eval GeneratorExp" => (fail)
        k_steps
        exact fin _ _ _ _ _ _ _ _ hg (by k_asm) (cb_drop (by k_asm) (by intro p hp; repeat (first | exact hp | apply List.Mem.tail))) (by assumption) (by assumption) rfl rfl (all7 rfl rfl rfl rfl rfl rfl rfl)
  · k_with_none
    k_with "eval Name" => (k_here; k_dflt (refine ld (by k_asm) (by exact rfl) ?_))
    k_with "callWith ref" => (k_dflt (refine callW_held (by k_asm) (by k_mem) ?_))
    k_with "And" => ((with_reducible show Frag.In _ _ ∧ _); refine ⟨X.keeps (Fr.keep (by k_asm)), ?_⟩; (try dsimp only [List.nil_append, List.cons_append]))
    k_with "formatField str" => (k_dflt (refine PyProof.Rows.formatField_str ?_ (by decide +kernel)); intro t' tk')
    k_with "HeldNow" => (refine heldNow_ (News.get (by k_asm) (by k_mem)) ?_)
    k_with "WhileStep2" => (refine hold_ ?_)

    k_with "compareOp Eq str str" => (k_dflt (first | refine eq_is (v := true) (by decide +kernel) ?_ | refine eq_is (v := false) (by first | assumption | decide +kernel) ?_))
    k_with "exec While" => (refine hold_ ?_)
    have hx1 : pat.cps.toList = (dl ++ [91]) ++ ([46] ++ (45 :: 97 :: 93 :: rs)) := hx
    have hl2 := hl1
    have hbl : (brBody 4).length = 3 := rfl
    rw [hbl] at hl2
    simp only [List.length_cons, List.length_nil] at hl2
    have hxB : pat.cps.toList = (dl ++ [91, 46, 45]) ++ ([97] ++ (93 :: rs)) := by rw [hx1]; simp
    have haA : (dl ++ [91]).length = dl.length + 1 := by simp
    have haB : (dl ++ [91, 46, 45]).length = dl.length + 3 := by simp
    have cp : chAt pat (dl.length + 1 : Int) 46 := chAt_of (a := dl ++ [91]) _ hx1 (by rw [List.length_append]; rfl)
    have cd : chAt pat (dl.length + 1 + 1 : Int) 45 := chAt_of (a := dl ++ [91, 46]) (b := 97 :: 93 :: rs) _ (by rw [hx1]; simp) (by simp; omega)
    k_with "subscriptTail Name Name str int" => (k_dflt (refine item_c (by assumption) hz ?_); intro t' tk')
    k_with "call builtin:str.find" => (k_here; k_dflt (first | refine find_hit (c := 45) (by assumption) (by rw [hbl]; omega) (by rw [hbl]; omega) ?_ | refine find_miss (by omega) (by rw [hbl]; omega) (by rw [hbl]; omega) ?_); intro tk')
    k_with "subscriptTail Name Slice str ref" => (k_here; k_dflt (refine slice_is (by k_asm) (by k_asm) (by first | exact seg_of hx1 (by omega) (by simp only [List.length_cons, List.length_nil]; omega) | exact seg_of hxB (by omega) (by rw [hbl]; simp only [List.length_cons, List.length_nil]; omega)) hz ?_); intro h' t' tk' F' N')
    k_steps
    unfold Hold
    refine dash_loop (c := ⟨#[46]⟩) (j := (dl.length : Int) + ((brBody 4).length + 1 : Nat)) (k := dl.length + 1 + 1 + 3) (i := dl.length + 1 + 1 + 1) (by k_asm) (by k_asm) rfl rfl rfl rfl rfl rfl rfl rfl (by intro p hp; exact hp) ?_ ?_
    · intro h tk F2 N2
      k_steps
      unfold Hold
      exact dash_end (by k_asm) (by k_asm) (by intro p hp; repeat (first | exact hp | apply List.Mem.tail)) rfl rfl rfl rfl rfl rfl rfl rfl rfl rfl
    · intro u tc ti' tk' nn' h tks F2 N2
      dsimp only [kstB] at F2
      k_steps
      unfold Hold
      refine step_brk ?_
      k_with "pyIter ref" => (k_here; krs_unr)
      k_with "subscriptTail Name Name ref int" => (k_here; k_dflt (refine item_arrS (by k_asm) (by k_mem) (by decide) (by decide) rfl ?_))
      k_with "subscriptTail Name BinOp ref int" => (k_here; k_dflt (refine item_arrS (by k_asm) (by k_mem) (by decide) (by decide) rfl ?_))
      k_with "UnrEnd" => (refine UnrEnd.intro (by k_asm) (by k_asm) ((_, listOf _ _) :: (b, boundO _) :: (_, listOf (List.toArray vs) nn) :: (front ++ tl)) (by intro p hp; repeat (first | exact hp | apply List.Mem.tail)) (off3 (by assumption)) ?_)
      k_with "eval GeneratorExp" => (refine hold_ ?_)
      k_steps
      unfold Hold
      refine gen_eval (pre := [(_, listOf _ _), (b, boundO _), (_, listOf (List.toArray vs) nn)]) (front := front) (clos := []) rfl (by ktr_room) (by k_asm) (by k_asm) (by k_asm) C1 rfl hT (by intro p hp; repeat (first | exact hp | apply List.Mem.tail)) (gen_ne ap hT hfr (by assumption)) rfl (.head _) ?_ ?_ ?_ rfl rfl (by decide) rfl rfl rfl (fun _ => rfl)
      · intro Q' hq
        k_steps
        exact hq
      · intro code C0 A' E' i v t m₂ hA hD hU hv hn hm₂
        obtain ⟨y, u, rfl, o1, o2⟩ := elt_of (ys := [⟨#[46]⟩, ⟨#[97]⟩]) (by exact .cons _ _ (.cons _ _ .nil)) (by decide +kernel) hv
        obtain ⟨h, g, d, tk, os⟩ := t
        k_with "eval Name" => (k_dflt (refine ld_gen hn hm₂ ?_))
        k_with "call builtin:str.replace" => (k_dflt (first | refine replace_no o1 ?_ | refine replace_no o2 ?_))
        k_steps
        first | exact ⟨hv, _, _, rfl, fun _ _ e => e⟩ | exact ⟨_, _, rfl, fun _ _ e => e⟩
      · intro a' h' tk' gs tl9 hgs F' N' hT9 hoff hG
        have hT := hT9
        dsimp only [List.cons_append, List.nil_append] at N' hG
        have ap := apart_on ap (by assumption : TabL tl) ⟨_, .tail _ (.tail _ (.head _))⟩ ⟨_, .tail _ (.head _)⟩ hoff
        k_with "call builtin:str.join" => (k_here; k_dflt (refine gen_join (r := ⟨#[46, 45, 97]⟩) (ys := [⟨#[46]⟩, ⟨#[97]⟩]) hG (by k_asm) (by k_asm) (by exact .cons _ _ (.cons _ _ .nil)) (by decide +kernel) (Nat.le_of_ble_eq_true rfl) (by decide +kernel) ?_); intro h' t' tk' g' hg' F' N'; have hg := fun q => hg' (AllBare.push q hgs))
        k_with "eval GeneratorExp" => (fail)
        k_steps
        exact fin _ _ _ _ _ _ _ _ hg (by k_asm) (cb_drop (by k_asm) (by intro p hp; repeat (first | exact hp | apply List.Mem.tail))) (by assumption) (by assumption) rfl rfl (all7 rfl rfl rfl rfl rfl rfl rfl)
set_option maxRecDepth 100000 in
set_option maxHeartbeats 8000000 in
theorem br_rest (hk9 : k < 9) {pre bd : List Nat} (hb : brBody k = pre ++ bd) (hn : ∀ c ∈ bd, c ≠ 93) (hx : pat.cps.toList = (dl ++ [91]) ++ (brBody k ++ (93 :: rs))) (hi : i = (dl.length : Int) + 1) (he : e = (dl.length : Int) + 1 + pre.length)
    (fin : ∀ x t h' tk' g' tl' i' ti' m' nn', x = brOut k → (AllBare s.gens → AllBare g') → Fr g L h' m' → News g L h' ((b, boundO D) :: (D, listOf (List.toArray (vs ++ [.str x t])) nn') :: (front ++ tl')) → TabL tl' → Apart b D (front ++ tl') → i' = (dl.length : Int) + ((brBody k).length + 1 : Nat) + 1 →
      (∀ q ∈ trNames pat mark st D b i' t1 t2 ti' tn, m' q.1 = some q.2) → Q .next { s with heap := h', toks := tk', gens := g' }) :
    wpAny (model PySem.Challenge.rw_ij0163_01.row.prog w) ((ktrTop dp un gd cn cs L₀ a ccd cl outer).deeper (envOf (Str.ofString "_translate") sc13.1 L 79 (.ref 78))) (execs scanC.1 (envOf (Str.ofString "_translate") sc13.1 L 79 (.ref 78))) Q (fun _ _ => False) s := by
  k_with_none
  have F1 := fmapB ((Str.ofString "j", .int e tj) :: trNames pat mark st D b i t1 t2 ti tn) F (List.forall_mem_cons.mpr ⟨mj, all7 m1 m2 m3 m4 m5 m6 m7⟩)
  have N1 := cb_drop N sub
  clear F N sub mj m1 m2 m3 m4 m5 m6 m7
  subst hi he
  dsimp only [kstB] at F1
  dsimp only [scanC, sc13]
  have hl1 := len_text hx
  rw [List.length_append, List.length_append, List.length_append, List.length_cons, List.length_cons] at hl1
  have hbl : (brBody k).length = pre.length + bd.length := by rw [hb, List.length_append]
  have hx1 : pat.cps.toList = ((dl ++ [91]) ++ pre) ++ (bd ++ (93 :: rs)) := by rw [hx, hb]; simp
  k_with "eval Name" => (k_here; k_dflt (refine ld (by k_asm) (by exact rfl) ?_))
  k_with "callWith ref" => (k_dflt (refine callW_held (by k_asm) (by k_mem) ?_))
  k_with "And" => ((with_reducible show Frag.In _ _ ∧ _); refine ⟨X.keeps (Fr.keep (by k_asm)), ?_⟩; (try dsimp only [List.nil_append, List.cons_append]))
  k_with "formatField str" => (k_dflt (refine PyProof.Rows.formatField_str ?_ (by decide +kernel)); intro t' tk')
  k_with "HeldNow" => (refine heldNow_ (News.get (by k_asm) (by k_mem)) ?_)
  k_with "WhileStep2" => (refine hold_ ?_)

  k_with "call builtin:str.replace" => (k_dflt (first | refine replace_no (by decide +kernel) ?_ | refine hold_ ?_))
  k_with "getMethod ref" => (k_here; k_dflt (refine' getMethod_pat ?k1 ?k2 ?k3 ?_; (case k1 => k_asm); (case k2 => k_asm); (case k3 => k_is); k_whole))
  k_with "eval Lambda" => (k_here; k_dflt (refine kla_eval rfl ?_; refine lam_tab (pre := [(b, boundO _), (_, listOf (List.toArray vs) nn)]) (front := front) (by k_asm) (by k_asm) (by k_asm) C1 rfl hT (by intro p hp; repeat (first | exact hp | apply List.Mem.tail)) (lam_ne ap hT hfr) rfl ?_); intro f c' oc vs' t ctv h' tk tl' F' N' hT' hm' d1 d2 hd'; have ap' := apart_on ap hT ⟨_, .tail _ (.head _)⟩ ⟨_, .head _⟩ hd'; dsimp only [List.cons_append, List.nil_append] at N')
  k_with "call builtin:re.Pattern.sub" => (k_here; first | (k_dflt (refine sub_lam_none (by k_asm) (by k_asm) (pat53 (by k_asm)) (by k_mem) rfl (by decide +kernel) (none_failed (by decide)) ?_); intro t' h' tk' F' N') | (refine hold_ ?_))
  k_with "call ref" => (k_here; first | (k_dflt (refine tr_add (by k_asm) (by k_asm) (by assumption) (by intro p hp; repeat (first | exact hp | apply List.Mem.tail)) hvs ?_); intro h' F' N') | refine hold_ ?_)
  k_with "compareOp Eq str str" => (k_dflt (first | refine eq_is (v := true) (by decide +kernel) ?_ | refine eq_is (v := false) (by first | assumption | decide +kernel) ?_))
  k_with "compareOp NotIn str str" => (first | (k_dflt (first | refine notIn_is (v := true) (by decide +kernel) ?_ | refine notIn_is (v := false) (by decide +kernel) ?_)) | (refine hold_ ?_))
  k_with "exec While" => (refine hold_ ?_)
  k_with "execs cons" => ((with_reducible show wpAny _ _ (execs (PySem.Stmt.Assign _ _ _ :: PySem.Stmt.Assign _ _ _ :: _) _) _ _ _); refine hold_ ?_)
  k_with "compareOp Lt int int" => (k_dflt (refine lt_is (v := true) (decide_eq_true (by omega)) ?_))
  k_with "compareOp GtE int int" => (k_dflt (refine ge_is (v := false) (decide_eq_false (by omega)) ?_))
  k_with "subscriptTail Name Name str int" => (k_dflt (refine item_c (by assumption) hz ?_); intro t' tk')
  k_steps
  unfold Hold
  refine scan_tr (a := (dl ++ [91]) ++ pre) (bd := bd) (rest := rs) (nx := (b, boundO _) :: (_, listOf (List.toArray vs) nn) :: (front ++ tl)) (e := (dl.length : Int) + ((brBody k).length + 1 : Nat)) (by k_asm) (by k_asm) (by intro p hp; repeat (first | exact hp | apply List.Mem.tail)) hx1 hn ?_ ?_ rfl rfl rfl rfl rfl rfl rfl rfl ?_ ?_
  · rw [List.length_append, List.length_append, List.length_cons, List.length_nil]; omega
  · rw [List.length_append, List.length_append, List.length_cons, List.length_nil]; omega
  · intro u j c tj h tk g0 g1 hc hne hjn F2 N2
    dsimp only [kstB] at F2
    k_with "compareOp NotEq str str" => (k_dflt (refine ne_is (v := true) (ne1 hne) ?_))
    k_steps
    unfold Hold
    exact scan_end (by k_asm) (by k_asm) (by intro p hp; repeat (first | exact hp | apply List.Mem.tail)) g0 g1 rfl (all7 rfl rfl rfl rfl rfl rfl rfl)
  · intro u tj h tk hc hjn F2 N2
    dsimp only [kstB] at F2
    k_with "compareOp NotEq str str" => (k_dflt (refine ne_is (v := false) rfl ?_))
    k_with "subscriptTail Name Slice str ref" => (k_here; k_dflt (refine slice_is (r := ⟨(brBody k).toArray⟩) (by k_asm) (by k_asm) (seg_of hx (by rw [List.length_append]; rfl) (by rw [List.length_append, List.length_cons, List.length_nil]; omega)) hz ?_); intro h' t' tk' F' N')
    k_with "compareOp NotIn str str" => (refine hold_ ?_)
    k_steps
    unfold Hold
    clear hx1 hl1 hn
    rcases nine hk9 with rfl | rfl | rfl | rfl | rfl | rfl | rfl | rfl | rfl
    · refine notIn_is (v := false) (by decide +kernel) ?_
      k_steps
      unfold Hold
      refine dash_walk B X T C1 hdp hu hT hfr hvs hz ap (by k_asm) (by k_asm) (by intro p hp; repeat (first | exact hp | apply List.Mem.tail)) rfl rfl rfl rfl rfl rfl rfl rfl (by decide) hx rfl rfl rfl ?_
      intro t h' tk' g' tl' i' ti' m' hg F' N' hT' ap' ms' mj' mm'
      k_steps
      unfold Hold
      refine tail_walk B X T C1 hdp hu hT' hfr hvs hz ap' F' N' (fun _ hp => hp) mj' (mm' _ (.head _)) (mm' _ (.tail _ (.head _))) (mm' _ (.tail _ (.tail _ (.head _)))) (mm' _ (.tail _ (.tail _ (.tail _ (.head _))))) (mm' _ (.tail _ (.tail _ (.tail _ (.tail _ (.head _)))))) (mm' _ (.tail _ (.tail _ (.tail _ (.tail _ (.tail _ (.head _))))))) (mm' _ (.tail _ (.tail _ (.tail _ (.tail _ (.tail _ (.tail _ (.head _)))))))) hk9 rfl ms' ?_
      intro x t h' tk' tl' ti' m' nn' hx F' N' hT' ap' hm'
      k_steps
      exact fin _ _ _ _ _ _ _ _ _ _ hx hg F' N' hT' ap' rfl hm'
    · refine notIn_is (v := false) (by decide +kernel) ?_
      k_steps
      unfold Hold
      refine dash_walk B X T C1 hdp hu hT hfr hvs hz ap (by k_asm) (by k_asm) (by intro p hp; repeat (first | exact hp | apply List.Mem.tail)) rfl rfl rfl rfl rfl rfl rfl rfl (by decide) hx rfl rfl rfl ?_
      intro t h' tk' g' tl' i' ti' m' hg F' N' hT' ap' ms' mj' mm'
      k_steps
      unfold Hold
      refine tail_walk B X T C1 hdp hu hT' hfr hvs hz ap' F' N' (fun _ hp => hp) mj' (mm' _ (.head _)) (mm' _ (.tail _ (.head _))) (mm' _ (.tail _ (.tail _ (.head _)))) (mm' _ (.tail _ (.tail _ (.tail _ (.head _))))) (mm' _ (.tail _ (.tail _ (.tail _ (.tail _ (.head _)))))) (mm' _ (.tail _ (.tail _ (.tail _ (.tail _ (.tail _ (.head _))))))) (mm' _ (.tail _ (.tail _ (.tail _ (.tail _ (.tail _ (.tail _ (.head _)))))))) hk9 rfl ms' ?_
      intro x t h' tk' tl' ti' m' nn' hx F' N' hT' ap' hm'
      k_steps
      exact fin _ _ _ _ _ _ _ _ _ _ hx hg F' N' hT' ap' rfl hm'
    · refine notIn_is (v := true) (by decide +kernel) ?_
      k_steps
      unfold Hold
      refine tail_walk B X T C1 hdp hu (by assumption) hfr hvs hz (by assumption) (by k_asm) (by k_asm) (by intro p hp; repeat (first | exact hp | apply List.Mem.tail)) rfl rfl rfl rfl rfl rfl rfl rfl hk9 rfl rfl ?_
      intro x t h' tk' tl' ti' m' nn' hx F' N' hT' ap' hm'
      k_steps
      exact fin _ _ _ _ _ _ _ _ _ _ hx (fun q => q) F' N' hT' ap' rfl hm'
    · refine notIn_is (v := true) (by decide +kernel) ?_
      k_steps
      unfold Hold
      refine tail_walk B X T C1 hdp hu (by assumption) hfr hvs hz (by assumption) (by k_asm) (by k_asm) (by intro p hp; repeat (first | exact hp | apply List.Mem.tail)) rfl rfl rfl rfl rfl rfl rfl rfl hk9 rfl rfl ?_
      intro x t h' tk' tl' ti' m' nn' hx F' N' hT' ap' hm'
      k_steps
      exact fin _ _ _ _ _ _ _ _ _ _ hx (fun q => q) F' N' hT' ap' rfl hm'
    · refine notIn_is (v := false) (by decide +kernel) ?_
      k_steps
      unfold Hold
      refine dash_walk B X T C1 hdp hu hT hfr hvs hz ap (by k_asm) (by k_asm) (by intro p hp; repeat (first | exact hp | apply List.Mem.tail)) rfl rfl rfl rfl rfl rfl rfl rfl (by decide) hx rfl rfl rfl ?_
      intro t h' tk' g' tl' i' ti' m' hg F' N' hT' ap' ms' mj' mm'
      k_steps
      unfold Hold
      refine tail_walk B X T C1 hdp hu hT' hfr hvs hz ap' F' N' (fun _ hp => hp) mj' (mm' _ (.head _)) (mm' _ (.tail _ (.head _))) (mm' _ (.tail _ (.tail _ (.head _)))) (mm' _ (.tail _ (.tail _ (.tail _ (.head _))))) (mm' _ (.tail _ (.tail _ (.tail _ (.tail _ (.head _)))))) (mm' _ (.tail _ (.tail _ (.tail _ (.tail _ (.tail _ (.head _))))))) (mm' _ (.tail _ (.tail _ (.tail _ (.tail _ (.tail _ (.tail _ (.head _)))))))) hk9 rfl ms' ?_
      intro x t h' tk' tl' ti' m' nn' hx F' N' hT' ap' hm'
      k_steps
      exact fin _ _ _ _ _ _ _ _ _ _ hx hg F' N' hT' ap' rfl hm'
    · refine notIn_is (v := true) (by decide +kernel) ?_
      k_steps
      unfold Hold
      refine tail_walk B X T C1 hdp hu (by assumption) hfr hvs hz (by assumption) (by k_asm) (by k_asm) (by intro p hp; repeat (first | exact hp | apply List.Mem.tail)) rfl rfl rfl rfl rfl rfl rfl rfl hk9 rfl rfl ?_
      intro x t h' tk' tl' ti' m' nn' hx F' N' hT' ap' hm'
      k_steps
      exact fin _ _ _ _ _ _ _ _ _ _ hx (fun q => q) F' N' hT' ap' rfl hm'
    · refine notIn_is (v := true) (by decide +kernel) ?_
      k_steps
      unfold Hold
      refine tail_walk B X T C1 hdp hu (by assumption) hfr hvs hz (by assumption) (by k_asm) (by k_asm) (by intro p hp; repeat (first | exact hp | apply List.Mem.tail)) rfl rfl rfl rfl rfl rfl rfl rfl hk9 rfl rfl ?_
      intro x t h' tk' tl' ti' m' nn' hx F' N' hT' ap' hm'
      k_steps
      exact fin _ _ _ _ _ _ _ _ _ _ hx (fun q => q) F' N' hT' ap' rfl hm'
    · refine notIn_is (v := true) (by decide +kernel) ?_
      k_steps
      unfold Hold
      refine tail_walk B X T C1 hdp hu (by assumption) hfr hvs hz (by assumption) (by k_asm) (by k_asm) (by intro p hp; repeat (first | exact hp | apply List.Mem.tail)) rfl rfl rfl rfl rfl rfl rfl rfl hk9 rfl rfl ?_
      intro x t h' tk' tl' ti' m' nn' hx F' N' hT' ap' hm'
      k_steps
      exact fin _ _ _ _ _ _ _ _ _ _ hx (fun q => q) F' N' hT' ap' rfl hm'
    · refine notIn_is (v := true) (by decide +kernel) ?_
      k_with "execs cons" => ((with_reducible refine wpAny_execs_cons ?_); try dsimp only)
      generalize hq : tk' + 1 = tq
      have hq0 : tq ≠ 0 := by rw [← hq]; exact Nat.succ_ne_zero _
      k_with "call builtin:str.replace" => (k_dflt (refine replace_is (r := ⟨#[97, 92, 92]⟩) (Nat.succ_ne_zero _) (Nat.succ_ne_zero _) (Nat.ne_of_lt (Nat.lt_succ_self _)) (by decide +kernel) (by decide) (by decide) (by decide +kernel) ?_); intro t' k')
      k_with "execs cons" => ((with_reducible show wpAny _ _ (execs (PySem.Stmt.Assign _ _ _ :: PySem.Stmt.Assign _ _ _ :: _) _) _ _ _); refine hold_ ?_)
      k_steps
      unfold Hold
      refine tail_walk B X T C1 hdp hu (by assumption) hfr hvs hz (by assumption) (by k_asm) (by k_asm) (by intro p hp; repeat (first | exact hp | apply List.Mem.tail)) rfl rfl rfl rfl rfl rfl rfl rfl hk9 rfl rfl ?_
      intro x t h' tk' tl' ti' m' nn' hx F' N' hT' ap' hm'
      k_steps
      exact fin _ _ _ _ _ _ _ _ _ _ hx (fun q => q) F' N' hT' ap' rfl hm'
end
end Mine
end
section
open PySem PySem.W PyProof.Rows PySem.Calls
set_option Elab.async false
namespace Mine
theorem noErr {α : Type} {M : Model} {A : Around} {t : Sem α} {Q : α → Shared → Prop} {E : Value → Shared → Prop} {s : Shared} (h : wpAny M A t Q (fun _ _ => False) s) : wpAny M A t Q E s := wpAny_mono h (fun _ _ x => x) fun _ _ x => x.elim
abbrev TrR (mark : Str) (st : Addr) (ts : List Tk) (front : List (Addr × Obj)) (r : Value) (news' : List (Addr × Obj)) : Prop :=
  ∃ D vs nn tl', r = .ref D ∧ news' = (D, listOf (List.toArray vs) nn) :: (front ++ tl') ∧ TabL tl' ∧ PartsAre st vs (partsOf mark ts)
set_option maxRecDepth 100000 in
set_option maxHeartbeats 8000000 in
theorem trans_claim (w : World) (front tl : List (Addr × Obj)) (hT : TabL tl) (hfr : ∀ q ∈ front, q.1 ≠ 74) (pat mark : Str) (st : Addr) (t1 t2 : Tok) (hz : pat.length ≤ 1000) (ts : List Tk) (hts : pat.cps.toList = textOf ts) (hok : ts.all tkOk = true) :
    ClaimG 4 w 79 (front ++ tl) [.str pat t1, .ref st, .str mark t2] (TrR mark st ts front) := by
    k_with_none
    intro p loose mean mg mb dp un gd cn cs a ccd cl outer A₀ base h₀ L m s Q E B F X N T C hk hdp hu hret
    refine wpAny_call ?_
    k_dflt cell_enter
    have C1 := C.keeps (Fr.keep (by assumption : Fr h₀ L _ m))
    k_with "getAttr" => (first | (k_here; k_dflt (refine append_held (by k_asm) (by k_asm) (by k_mem) ?_); intro b h' tk' F' N' lt') | (refine hold_ ?_))
    k_with "exec While" => (refine hold_ ?_)
    k_steps
    unfold Hold
    refine trans_loop (ts := ts) (front := front) (tl := tl) (by k_asm) (cb_drop (by k_asm) (fun p hp => .tail _ hp)) hT (apart0 (by assumption) lt') rfl rfl rfl rfl rfl rfl rfl ?_
    intro done rest vs nn u ti tl h tk g hg e hps hT ap F1 N1
    dsimp only [kstB] at F1
    have hvs := parts_small hps hts e hz
    match rest, e with
    | [], e =>
      have hlen := len_text hts
      rw [e, List.append_nil] at hlen
      k_with "compareOp Lt int int" => (k_dflt (refine lt_is (v := false) (decide_eq_false (by rw [hlen]; exact Int.lt_irrefl _)) ?_))
      k_with "compareOp Eq int int" => (k_dflt (refine eqi_is (v := true) (by rw [hlen]; exact beq_self_eq_true _) ?_))
      k_steps
      rw [List.append_nil] at e
      exact hret _ _ _ _ _ hg (by k_asm) (cb_drop (by k_asm) (fun p hp => .tail _ hp)) ⟨_, vs, nn, tl, rfl, rfl, hT, e ▸ hps⟩
    | tok :: rest, e =>
      have hx := turn_text hts e
      have hlen := len_text hx
      rw [List.length_append, List.length_append] at hlen
      have hcov := e ▸ hok
      k_with "compareOp Lt int int" => (k_dflt (refine lt_is (v := true) (decide_eq_true (by lia)) ?_))
      k_with "subscriptTail Name Name str int" => (k_dflt (refine item_c (by assumption) hz ?_); intro t' tk')
      k_with "compareOp Eq str str" => (k_dflt (first | refine eq_is (v := true) (by decide +kernel) ?_ | refine eq_is (v := false) (by first | assumption | decide +kernel) ?_))
      k_with "callWith ref" => (k_dflt (refine callW_held (by k_asm) (by k_mem) ?_))
      k_with "HeldNow" => (refine heldNow_ (News.get (by k_asm) (by k_mem)) ?_)
      k_with "WhileStepG" => (refine hold_ ?_)
      k_with "WhileStep2" => (refine hold_ ?_)
      cases tok with
      | star =>
        have c0 : chAt pat ((textOf done).length : Nat) 42 := chAt_of _ hx rfl
        have h1 : (tkText .star).length = 1 := rfl
        k_with "call ref" => (k_here; (k_dflt (refine tr_add (by k_asm) (by k_asm) (by assumption) (by intro p hp; repeat (first | exact hp | apply List.Mem.tail)) hvs ?_); intro h' F' N'))
        rcases hps.last with ⟨e1, e2⟩ | ⟨e1, e2⟩ | ⟨x, t, e1, e2⟩
        · k_with "truthy ref" => (k_dflt (refine truthy_L (v := false) (by k_asm) (by k_mem) hvs (by rw [e2]; rfl) ?_); intro tk')
          k_steps
          unfold Hold
          exact tr_end (by assumption) (by k_asm) (by k_asm) e ((star_add (mark := mark) (ps := partsOf mark done) (by rw [e1]; exact nofun)).symm ▸ hps.snoc_star) hT ap rfl (by intro p hp; repeat (first | exact hp | apply List.Mem.tail)) rfl rfl rfl rfl rfl rfl rfl
        · k_with "subscriptTail Name UnaryOp ref int" => (k_here; k_dflt (refine last_item (by k_asm) (by k_mem) e2 ?_))
          k_with "truthy ref" => (k_dflt (refine truthy_L (v := true) (by k_asm) (by k_mem) hvs (by cases vs <;> first | cases e2 | rfl) ?_); intro tk')
          k_with "compareOp IsNot ref ref" => (k_here; k_dflt (refine isnot_ref_same ?_))
          k_steps
          unfold Hold
          exact tr_end (by assumption) (by k_asm) (by k_asm) e ((star_no (mark := mark) e1).symm ▸ hps) hT ap rfl (by intro p hp; repeat (first | exact hp | apply List.Mem.tail)) rfl rfl rfl rfl rfl rfl rfl
        · k_with "subscriptTail Name UnaryOp ref int" => (k_here; k_dflt (refine last_item (by k_asm) (by k_mem) e2 ?_))
          k_with "truthy ref" => (k_dflt (refine truthy_L (v := true) (by k_asm) (by k_mem) hvs (by cases vs <;> first | cases e2 | rfl) ?_); intro tk')
          k_with "compareOp IsNot str ref" => (k_here; k_dflt (refine wpAny_isNot_other (by rfl) (by intro x; cases x) ?_))
          k_steps
          unfold Hold
          exact tr_end (by assumption) (by k_asm) (by k_asm) e ((star_add (mark := mark) (ps := partsOf mark done) (by rw [e1]; exact nofun)).symm ▸ hps.snoc_star) hT ap rfl (by intro p hp; repeat (first | exact hp | apply List.Mem.tail)) rfl rfl rfl rfl rfl rfl rfl
      | quest =>
        have c0 : chAt pat ((textOf done).length : Nat) 63 := chAt_of _ hx rfl
        have h1 : (tkText .quest).length = 1 := rfl
        k_with "call ref" => (k_here; (k_dflt (refine tr_add (by k_asm) (by k_asm) (by assumption) (by intro p hp; repeat (first | exact hp | apply List.Mem.tail)) hvs ?_); intro h' F' N'))
        k_steps
        unfold Hold
        exact tr_end (by assumption) (by k_asm) (by k_asm) e hps.snoc_text hT ap rfl (by intro p hp; repeat (first | exact hp | apply List.Mem.tail)) rfl rfl rfl rfl rfl rfl rfl
      | lit c =>
        have c0 : chAt pat ((textOf done).length : Nat) c := chAt_of _ hx rfl
        have h1 : (tkText (.lit c)).length = 1 := rfl
        have hc := List.all_eq_true.mp hcov (.lit c) (List.mem_append_right _ (.head _))
        unfold tkOk at hc
        simp only [Bool.and_eq_true, bne_iff_ne, decide_eq_true_eq] at hc
        have q1 : ((⟨#[c]⟩ : Str) == Str.ofString "*") = false := one_ne hc.1.1.1
        have q2 : ((⟨#[c]⟩ : Str) == Str.ofString "?") = false := one_ne hc.1.1.2
        have q3 : ((⟨#[c]⟩ : Str) == Str.ofString "[") = false := one_ne hc.1.2
        k_with "call ref" => (k_here; first | (k_dflt (refine tr_add (by k_asm) (by k_asm) (by assumption) (by intro p hp; repeat (first | exact hp | apply List.Mem.tail)) hvs ?_); intro h' F' N') | (k_dflt (refine' escape_claim _ _ _ _ _ _ _ _ _ _ _ _ _ _ _ _ _ _ _ _ _ _ _ _ _ _ ?B ?F ?X ?N ?T ?C ?k ?d ?u ?R; (case B => k_asm); (case F => k_asm); (case X => k_asm); (case N => k_asm); (case T => k_asm); (case C => exact C1); (case k => first | exact rfl | assumption); (case d => ktr_room); (case u => ktr_units)); rintro _ h' tk' _ F' N' ⟨rfl, t', rfl⟩) | refine hold_ ?_)
        k_steps
        unfold Hold
        exact tr_end (by assumption) (by k_asm) (by k_asm) e hps.snoc_text hT ap rfl (by intro p hp; repeat (first | exact hp | apply List.Mem.tail)) rfl rfl rfl rfl rfl rfl rfl
      | br k =>
        have hkk := List.all_eq_true.mp hcov (.br k) (List.mem_append_right _ (.head _))
        have hk9 : k < 9 := of_decide_eq_true hkk
        have ht : tkText (.br k) = 91 :: (brBody k ++ [93]) := rfl
        rw [ht] at hx hlen
        have c0 : chAt pat ((textOf done).length : Nat) 91 := chAt_of _ hx rfl
        clear hkk hcov
        k_with "execs cons" => ((with_reducible show wpAny _ _ (execs (PySem.Stmt.While _ _ _ _ :: _) _) _ _ _); refine hold_ ?_)
        have hxr : pat.cps.toList = (textOf done ++ [91]) ++ (brBody k ++ (93 :: textOf rest)) := by rw [hx]; simp
        rcases br_ways hk9 with ⟨r1, hb, hn, c2, r2, rfl⟩ | hb | ⟨c1, r1, hb, h33, hn⟩
        · have hx1 : pat.cps.toList = (textOf done ++ [91]) ++ ((33 :: c2 :: r2) ++ (93 :: textOf rest)) := by rw [hx, hb]; simp
          have hl1 := len_text hx1
          rw [List.length_append, List.length_append, List.length_append, List.length_cons, List.length_cons, List.length_cons] at hl1
          have cb1 : chAt pat ((textOf done).length + 1 : Int) 33 := chAt_of (a := textOf done ++ [91]) _ hx1 (by rw [List.length_append]; rfl)
          have cb2 : chAt pat ((textOf done).length + 1 + 1 : Int) c2 := chAt_of (a := (textOf done ++ [91]) ++ [33]) _ (by rw [hx1]; simp; rfl) (by rw [List.length_append, List.length_append]; rfl)
          have q2 : ((⟨#[c2]⟩ : Str) == Str.ofString "]") = false := one_ne (hn _ (.head _))
          k_steps
          unfold Hold
          refine noErr (br_rest (dl := textOf done) (rs := textOf rest) (pre := [33]) (bd := c2 :: r2) (by assumption) (by k_asm) (by k_asm) C1 hdp hu hT hfr hvs hz ap (by k_asm) (by k_asm) (by intro p hp; repeat (first | exact hp | apply List.Mem.tail)) rfl rfl rfl rfl rfl rfl rfl rfl hk9 hb hn hxr rfl (by simp only [List.length_cons, List.length_nil]; lia) ?_)
          intro x t h' tk' g' tl' i' ti' m' nn' hx' hg' F' N' hT' ap' hi' hm'
          k_steps
          unfold Hold
          exact tr_end (fun q => hg' (hg q)) F' N' e (br_part hps (beq_iff_eq.mpr hx')) hT' ap' (by rw [hi', ht, List.length_cons, List.length_append]; simp only [List.length_cons, List.length_nil]; lia) (fun _ hp => hp) (hm' _ (.head _)) (hm' _ (.tail _ (.head _))) (hm' _ (.tail _ (.tail _ (.head _)))) (hm' _ (.tail _ (.tail _ (.tail _ (.head _))))) (hm' _ (.tail _ (.tail _ (.tail _ (.tail _ (.head _)))))) (hm' _ (.tail _ (.tail _ (.tail _ (.tail _ (.tail _ (.head _))))))) (hm' _ (.tail _ (.tail _ (.tail _ (.tail _ (.tail _ (.tail _ (.head _))))))))
        · have hx1 : pat.cps.toList = (textOf done ++ [91]) ++ ([93] ++ (93 :: textOf rest)) := by rw [hx, hb]; simp
          have hl1 := len_text hx1
          rw [List.length_append, List.length_append, List.length_append, List.length_cons, List.length_cons, List.length_cons] at hl1
          have cb1 : chAt pat ((textOf done).length + 1 : Int) 93 := chAt_of (a := textOf done ++ [91]) _ hx1 (by rw [List.length_append]; rfl)
          k_steps
          unfold Hold
          refine noErr (br_rest (dl := textOf done) (rs := textOf rest) (pre := [93]) (bd := []) (by assumption) (by k_asm) (by k_asm) C1 hdp hu hT hfr hvs hz ap (by k_asm) (by k_asm) (by intro p hp; repeat (first | exact hp | apply List.Mem.tail)) rfl rfl rfl rfl rfl rfl rfl rfl hk9 hb (fun _ h => nomatch h) hxr rfl (by simp only [List.length_cons, List.length_nil]; lia) ?_)
          intro x t h' tk' g' tl' i' ti' m' nn' hx' hg' F' N' hT' ap' hi' hm'
          k_steps
          unfold Hold
          exact tr_end (fun q => hg' (hg q)) F' N' e (br_part hps (beq_iff_eq.mpr hx')) hT' ap' (by rw [hi', ht, List.length_cons, List.length_append]; simp only [List.length_cons, List.length_nil]; lia) (fun _ hp => hp) (hm' _ (.head _)) (hm' _ (.tail _ (.head _))) (hm' _ (.tail _ (.tail _ (.head _)))) (hm' _ (.tail _ (.tail _ (.tail _ (.head _))))) (hm' _ (.tail _ (.tail _ (.tail _ (.tail _ (.head _)))))) (hm' _ (.tail _ (.tail _ (.tail _ (.tail _ (.tail _ (.head _))))))) (hm' _ (.tail _ (.tail _ (.tail _ (.tail _ (.tail _ (.tail _ (.head _))))))))
        · have hx1 : pat.cps.toList = (textOf done ++ [91]) ++ ((c1 :: r1) ++ (93 :: textOf rest)) := by rw [hx, hb]; simp
          have hl1 := len_text hx1
          rw [List.length_append, List.length_append, List.length_append, List.length_cons, List.length_cons, List.length_cons] at hl1
          have cb1 : chAt pat ((textOf done).length + 1 : Int) c1 := chAt_of (a := textOf done ++ [91]) _ hx1 (by rw [List.length_append]; rfl)
          have q1 : ((⟨#[c1]⟩ : Str) == Str.ofString "!") = false := one_ne h33
          have q2 : ((⟨#[c1]⟩ : Str) == Str.ofString "]") = false := one_ne (hn _ (.head _))
          k_steps
          unfold Hold
          refine noErr (br_rest (dl := textOf done) (rs := textOf rest) (pre := []) (bd := c1 :: r1) (by assumption) (by k_asm) (by k_asm) C1 hdp hu hT hfr hvs hz ap (by k_asm) (by k_asm) (by intro p hp; repeat (first | exact hp | apply List.Mem.tail)) rfl rfl rfl rfl rfl rfl rfl rfl hk9 hb hn hxr rfl (by simp only [List.length_cons, List.length_nil]; lia) ?_)
          intro x t h' tk' g' tl' i' ti' m' nn' hx' hg' F' N' hT' ap' hi' hm'
          k_steps
          unfold Hold
          exact tr_end (fun q => hg' (hg q)) F' N' e (br_part hps (beq_iff_eq.mpr hx')) hT' ap' (by rw [hi', ht, List.length_cons, List.length_append]; simp only [List.length_cons, List.length_nil]; lia) (fun _ hp => hp) (hm' _ (.head _)) (hm' _ (.tail _ (.head _))) (hm' _ (.tail _ (.tail _ (.head _)))) (hm' _ (.tail _ (.tail _ (.tail _ (.head _))))) (hm' _ (.tail _ (.tail _ (.tail _ (.tail _ (.head _)))))) (hm' _ (.tail _ (.tail _ (.tail _ (.tail _ (.tail _ (.head _))))))) (hm' _ (.tail _ (.tail _ (.tail _ (.tail _ (.tail _ (.tail _ (.head _))))))))
end Mine
end
section
open PySem
namespace Mine
/-! ## the parts are the told rows -/
/-- a row, with the question mark's part -/
def dueOf (mark r : Str) : Str := if r == Str.ofString "?" then mark else r
def partOf (mark r : Str) : Option Str := if r == Str.ofString "" then none else some (dueOf mark r)
def tokensOf (xs : List Int) : List Tk := xs.flatMap fun x => pieceTk (valueOf x)
def kindOk (ts : List Tk) (r : Str) : Bool :=
  match ts with
  | [.star] => r == Str.ofString ""
  | [.star, .star] => r == Str.ofString ""
  | [.quest] => (r == Str.ofString "?") && ((r == Str.ofString "") == false)
  | [.lit c] => (escOf c == r) && ((r == Str.ofString "?") == false) && ((r == Str.ofString "") == false)
  | [.br k] => (brOut k == r) && ((r == Str.ofString "?") == false) && ((r == Str.ofString "") == false)
  | _ => false
theorem tab_kind : ∀ i, i < 18 → kindOk (tabTk.getD i []) (tabP.getD i ("", "")).2 = true := by decide +kernel
theorem kind_part (mark : Str) (ts : List Tk) (r : Str) (ps : List (Option Str)) (h : kindOk ts r = true) : ts.foldl (addPart mark) ps =
    if r == Str.ofString "" then (if ps.getLast? = some none then ps else ps ++ [none]) else ps ++ [some (dueOf mark r)] := by
  unfold kindOk at h
  split at h
  · rw [h]; rfl
  · rw [h]
    show addPart mark (addPart mark ps .star) .star = if ps.getLast? = some none then ps else ps ++ [none]
    by_cases h : ps.getLast? = some none
    · rw [star_no h, star_no h, if_pos h]
    · rw [star_add h, if_neg h, star_no (by simp)]
  · simp only [Bool.and_eq_true, beq_iff_eq] at h
    rw [show (r == Str.ofString "") = false from h.2, if_neg (by decide)]
    unfold dueOf
    rw [show (r == Str.ofString "?") = true from by rw [h.1]; decide, if_pos rfl]; rfl
  · simp only [Bool.and_eq_true, beq_iff_eq] at h
    rw [show (r == Str.ofString "") = false from h.2, if_neg (by decide)]
    unfold dueOf
    rw [show (r == Str.ofString "?") = false from h.1.2, if_neg (by decide), ← h.1.1]; rfl
  · simp only [Bool.and_eq_true, beq_iff_eq] at h
    rw [show (r == Str.ofString "") = false from h.2, if_neg (by decide)]
    unfold dueOf
    rw [show (r == Str.ofString "?") = false from h.1.2, if_neg (by decide), ← h.1.1]; rfl
  · cases h
theorem tab_part (mark : Str) (i : Nat) (hi : i < 18) (ps : List (Option Str)) : (tabTk.getD i []).foldl (addPart mark) ps =
    if (tabP.getD i ("", "")).2 == Str.ofString "" then (if ps.getLast? = some none then ps else ps ++ [none]) else ps ++ [some (dueOf mark (tabP.getD i ("", "")).2)] := kind_part mark _ _ ps (tab_kind i hi)
theorem sign_low : ∀ c, c < 128 → c ∉ [42, 63, 91, 13, 10] → escIs c = decide (c ∈ [40, 41, 93, 123, 125, 43, 45, 124, 94, 36, 92, 46, 38, 126, 35, 32, 9, 11, 12]) := by decide +kernel
theorem big_out (l : List Nat) (c : Nat) (h : (l.all (· < 128)) = true) (hc : ¬ c < 128) : decide (c ∈ l) = false := by
  rw [decide_eq_false_iff_not]
  intro hm
  have := List.all_eq_true.mp h c hm
  exact hc (of_decide_eq_true this)
theorem sign_row (c : Nat) (h : c ∉ [42, 63, 91, 13, 10]) : (if isIn ⟨#[c]⟩ "()]{}+-|^$\\.&~# \t\x0b\x0c" then Str.ofString "\\" ++ ⟨#[c]⟩ else (⟨#[c]⟩ : Str)) = escOf c := by
  have e : (Str.ofString "()]{}+-|^$\\.&~# \t\x0b\x0c").cps.toList = [40, 41, 93, 123, 125, 43, 45, 124, 94, 36, 92, 46, 38, 126, 35, 32, 9, 11, 12] := by decide +kernel
  rw [isIn_one, e]
  unfold escOf
  have : escIs c = decide (c ∈ [40, 41, 93, 123, 125, 43, 45, 124, 94, 36, 92, 46, 38, 126, 35, 32, 9, 11, 12]) := by
    by_cases hc : c < 128
    · exact sign_low c hc h
    · rw [big_out _ c (by decide) hc]
      unfold escIs
      rw [List.contains_eq_mem]
      exact big_out _ c (by decide) hc
  rw [this]
  split <;> rfl
theorem esc_ne (c : Nat) (h : c ∉ [42, 63, 91, 13, 10]) : (escOf c == Str.ofString "") = false ∧ (escOf c == Str.ofString "?") = false := by
  unfold escOf
  simp only [List.mem_cons, List.not_mem_nil, or_false, not_or] at h
  split
  · exact ⟨rfl, rfl⟩
  · exact ⟨rfl, one_ne h.2.1⟩
theorem piece_part (mark : Str) (v : Int) (ps : List (Option Str)) : (pieceTk v).foldl (addPart mark) ps =
    if (pieceOf v).2 == Str.ofString "" then (if ps.getLast? = some none then ps else ps ++ [none]) else ps ++ [some (dueOf mark (pieceOf v).2)] := by
  unfold pieceTk pieceOf
  split
  · next h =>
    have h0 := Int.fmod_nonneg_of_pos v (show (0 : Int) < 20 by decide)
    exact tab_part mark _ (by omega) ps
  · obtain ⟨c, e, h, hc⟩ := sign_one v
    rw [e]
    dsimp only
    have hr := sign_row c h
    rw [show (Str.ofString "\\" ++ (⟨#[c]⟩ : Str)) = ("\\" ++ ⟨#[c]⟩ : Str) from rfl] at hr
    rw [hr, (esc_ne c h).1, if_neg (by decide)]
    unfold dueOf
    rw [(esc_ne c h).2, if_neg (by decide)]; rfl
theorem getLast_part (mark : Str) (rows : List Str) : ((rows.map (partOf mark)).getLast? = some none) = ((lastOf rows != [Str.ofString ""]) = false) := by
  rcases rows.eq_nil_or_concat with rfl | ⟨l, a, rfl⟩
  · simp [lastOf]
  · have e : lastOf (l ++ [a]) = [a] := by
      show List.take ((l ++ [a]).length - ((l ++ [a]).length - 1)) (List.drop ((l ++ [a]).length - 1) (l ++ [a])) = [a]
      rw [List.length_append]; simp
    rw [List.concat_eq_append, e, List.map_append, List.map_cons, List.map_nil, List.getLast?_concat]
    unfold partOf
    rw [eq_iff_iff]
    constructor
    · intro h
      split at h
      · next q => rw [eq_of_beq q]; decide
      · cases h
    · intro h
      have h' : ([a] == [Str.ofString ""]) = true := by
        unfold bne at h; simpa using h
      have : a = Str.ofString "" := by simpa using h'
      rw [this]; rfl
theorem parts_step (mark : Str) (st : Plan) (x : Int) (ps : List (Option Str)) (h : ps = st.rows.map (partOf mark)) : (pieceTk (valueOf x)).foldl (addPart mark) ps = (planStep st x).rows.map (partOf mark) := by
  rw [piece_part]
  have hl : (ps.getLast? = some none) = ((lastOf st.rows != [Str.ofString ""]) = false) := by rw [h]; exact getLast_part mark st.rows
  unfold planStep
  cases h1 : (pieceOf (valueOf x)).2 == Str.ofString "" with
  | true =>
    rw [if_pos rfl]
    have h2 : ((pieceOf (valueOf x)).2 != Str.ofString "") = false := by unfold bne; rw [h1]; rfl
    rw [h2, Bool.false_or]
    cases h3 : lastOf st.rows != [Str.ofString ""] with
    | true =>
      rw [if_neg (by rw [hl, h3]; decide), if_pos rfl, h, List.map_append]
      show _ ++ [none] = _ ++ [partOf mark _]
      unfold partOf; rw [h1]; rfl
    | false => rw [if_pos (by rw [hl, h3]), if_neg (by decide), h]
  | false =>
    have h2 : ((pieceOf (valueOf x)).2 != Str.ofString "") = true := by unfold bne; rw [h1]; rfl
    rw [if_neg (by decide), h2, Bool.true_or, if_pos rfl, h, List.map_append]
    show _ ++ [some (dueOf mark _)] = _ ++ [partOf mark _]
    unfold partOf; rw [h1, if_neg (by decide)]
theorem parts_fold (mark : Str) : ∀ (xs : List Int) (st : Plan) (ps : List (Option Str)), ps = st.rows.map (partOf mark) → (tokensOf xs).foldl (addPart mark) ps = (xs.foldl planStep st).rows.map (partOf mark)
  | [], st, ps, h => h
  | x :: xs, st, ps, h => by
    unfold tokensOf
    rw [List.flatMap_cons, List.foldl_append, List.foldl_cons]
    exact parts_fold mark xs (planStep st x) _ (parts_step mark st x ps h)
theorem parts_rows (mark : Str) (xs : List Int) : partsOf mark (tokensOf xs) = (planOf xs).rows.map (partOf mark) := parts_fold mark xs _ [] rfl
theorem text_fold : ∀ (xs : List Int) (st : Plan), (xs.foldl planStep st).pat.cps.toList = st.pat.cps.toList ++ textOf (tokensOf xs)
  | [], st => by unfold tokensOf textOf; simp
  | x :: xs, st => by
    rw [List.foldl_cons, text_fold xs]
    have e : (planStep st x).pat = st.pat ++ (pieceOf (valueOf x)).1 := by unfold planStep; split <;> rfl
    have e2 : (st.pat ++ (pieceOf (valueOf x)).1).cps.toList = st.pat.cps.toList ++ (pieceOf (valueOf x)).1.cps.toList := Array.toList_append ..
    rw [e, e2, (piece_tk (valueOf x)).1]
    unfold tokensOf textOf
    rw [List.flatMap_cons, List.flatMap_append, List.append_assoc]
theorem pat_text (xs : List Int) : (planOf xs).pat.cps.toList = textOf (tokensOf xs) := by
  unfold planOf
  rw [text_fold]; simp; rfl
theorem tokens_ok (xs : List Int) : (tokensOf xs).all tkOk = true := by
  rw [List.all_eq_true]
  intro t ht
  obtain ⟨x, _, hx⟩ := List.mem_flatMap.mp ht
  exact List.all_eq_true.mp (piece_tk (valueOf x)).2 t hx
end Mine
end
section
open PySem
namespace Mine
/-! ## the mail -/
def joinL (sep : List Nat) : List (List Nat) → List Nat
  | [] => []
  | [r] => r
  | r :: r2 :: rest => r ++ (sep ++ joinL sep (r2 :: rest))
def wireL (l : List (List Nat × List Nat)) : List Nat := l.flatMap fun p => p.1 ++ p.2
def clean (r : List Nat) : Prop := ∀ c ∈ r, c ≠ 10 ∧ c ≠ 13
inductive WireOk : List (List Nat × List Nat) → Prop
  | last {r} : clean r → WireOk [(r, [])]
  | more {r e r2 e2 l} : clean r → (e = [13, 10] ∨ e = [10] ∨ e = [13]) → (e = [13] → r2 = [] → e2 ≠ [10]) → (e2 = [] ∨ e2 = [13, 10] ∨ e2 = [10] ∨ e2 = [13]) → WireOk ((r2, e2) :: l) → WireOk ((r, e) :: (r2, e2) :: l)
section
variable {t : Array Nat}
theorem getD_drop {p c : Nat} {r : List Nat} (h : t.toList.drop p = c :: r) : p < t.size ∧ t.getD p 0 = c ∧ t.toList.drop (p + 1) = r := by
  have hp : p < t.toList.length := by
    rcases Nat.lt_or_ge p t.toList.length with h' | h'
    · exact h'
    · rw [List.drop_of_length_le h'] at h; cases h
  rw [List.drop_eq_getElem_cons hp] at h
  have h1 := (List.cons.inj h).1
  refine ⟨by simpa using hp, ?_, (List.cons.inj h).2⟩
  rw [← h1]
  have hp' : p < t.size := by simpa using hp
  simp [hp']
theorem drop_end {p : Nat} (h : t.toList.drop p = []) : t.size ≤ p := by
  have := List.drop_eq_nil_iff.mp h
  simpa using this
theorem H2 (t : Array Nat) : HitsIn t (hit2 t) (len2 t) := by
  intro q h
  unfold hit2 at h
  simp only [Bool.and_eq_true, decide_eq_true_eq] at h
  refine ⟨h.1, ?_, ?_⟩ <;> unfold len2 <;> split <;> lia
theorem H1 (t : Array Nat) : HitsIn t (hit1 t) (fun _ => 1) := by
  intro q h
  unfold hit1 at h
  simp only [Bool.and_eq_true, decide_eq_true_eq] at h
  exact ⟨h.2.1, Nat.le_refl _, h.2.1⟩
abbrev R2 (t : Array Nat) (p : Nat) : List Nat := resAt t (hit2 t) (len2 t) [13, 10] p
theorem r2_clean : ∀ (row rest : List Nat) (p : Nat), clean row → t.toList.drop p = row ++ rest → R2 t p = row ++ R2 t (p + row.length) ∧ t.toList.drop (p + row.length) = rest
  | [], rest, p, _, h => ⟨rfl, h⟩
  | c :: row, rest, p, hc, h => by
    obtain ⟨h1, h2, h3⟩ := getD_drop h
    have hh : hit2 t p = false := by
      unfold hit2; rw [h2]
      have := hc c (.head _)
      simp [this.1, this.2]
    obtain ⟨a, b⟩ := r2_clean row rest (p + 1) (fun d hd => hc d (.tail _ hd)) h3
    have e : p + 1 + row.length = p + (c :: row).length := by rw [List.length_cons]; lia
    rw [e] at a b
    refine ⟨?_, b⟩
    unfold R2
    rw [resAt_miss (H2 t) h1 hh, h2]
    exact congrArg (c :: ·) a
theorem r2_lf {p : Nat} {rest : List Nat} (h : t.toList.drop p = 10 :: rest) : R2 t p = [13, 10] ++ R2 t (p + 1) ∧ t.toList.drop (p + 1) = rest := by
  obtain ⟨h1, h2, h3⟩ := getD_drop h
  refine ⟨?_, h3⟩
  have hh : hit2 t p = true := by unfold hit2; rw [h2]; simp [h1]
  have hl : len2 t p = 1 := by unfold len2; rw [h2]; rfl
  unfold R2
  rw [resAt_hit (H2 t) hh, hl]
theorem r2_crlf {p : Nat} {rest : List Nat} (h : t.toList.drop p = 13 :: 10 :: rest) : R2 t p = [13, 10] ++ R2 t (p + 2) ∧ t.toList.drop (p + 2) = rest := by
  obtain ⟨h1, h2, h3⟩ := getD_drop h
  obtain ⟨h4, h5, h6⟩ := getD_drop h3
  refine ⟨?_, h6⟩
  have hh : hit2 t p = true := by unfold hit2; rw [h2]; simp [h1]
  have hl : len2 t p = 2 := by unfold len2; rw [h2, h5, if_pos ⟨rfl, h4, rfl⟩]
  unfold R2
  rw [resAt_hit (H2 t) hh, hl]
theorem r2_cr {p : Nat} {rest : List Nat} (h : t.toList.drop p = 13 :: rest) (hr : rest.head? ≠ some 10) : R2 t p = [13, 10] ++ R2 t (p + 1) ∧ t.toList.drop (p + 1) = rest := by
  obtain ⟨h1, h2, h3⟩ := getD_drop h
  refine ⟨?_, h3⟩
  have hh : hit2 t p = true := by unfold hit2; rw [h2]; simp [h1]
  have hl : len2 t p = 1 := by
    unfold len2
    rw [if_neg]
    rintro ⟨_, h4, h5⟩
    apply hr
    have h6 : p + 1 < t.toList.length := by simpa using h4
    rw [← h3, List.drop_eq_getElem_cons h6, List.head?_cons]
    have : t.getD (p + 1) 0 = t.toList[p + 1] := by simp [h4]
    rw [← this, h5]
  unfold R2
  rw [resAt_hit (H2 t) hh, hl]
theorem lined_wire : ∀ (l : List (List Nat × List Nat)) (p : Nat), WireOk l → t.toList.drop p = wireL l → R2 t p = joinL [13, 10] (l.map (·.1)) := by
  intro l
  induction l with
  | nil => intro p h; cases h
  | cons q l ih =>
    intro p h hp
    cases h with
    | @last r hc =>
      have hp' : t.toList.drop p = r ++ [] := by rw [hp]; simp [wireL]
      obtain ⟨a, b⟩ := r2_clean r [] p hc hp'
      rw [a]
      unfold R2
      rw [resAt_end (drop_end b)]
      simp [joinL]
    | @more r e r2 e2 l hc he hx he2 hl =>
      have hp' : t.toList.drop p = r ++ (e ++ wireL ((r2, e2) :: l)) := by rw [hp]; simp [wireL]
      obtain ⟨a, b⟩ := r2_clean r _ p hc hp'
      rw [a]
      show _ = r ++ ([13, 10] ++ joinL [13, 10] (((r2, e2) :: l).map (·.1)))
      congr 1
      rcases he with rfl | rfl | rfl
      · obtain ⟨c, d⟩ := r2_crlf b
        rw [c, ih _ hl d]
      · obtain ⟨c, d⟩ := r2_lf b
        rw [c, ih _ hl d]
      · have hr : (wireL ((r2, e2) :: l)).head? ≠ some 10 := by
          have hcl : clean r2 := by cases hl <;> assumption
          show (r2 ++ e2 ++ wireL l).head? ≠ some 10
          cases r2 with
          | cons c r2 => exact fun e => (hcl c (.head _)).1 (Option.some.inj e)
          | nil =>
            have h3 := hx rfl rfl
            rcases he2 with rfl | rfl | rfl | rfl
            · cases hl with
              | last => simp [wireL]
              | more _ h4 => rcases h4 with h4 | h4 | h4 <;> cases h4
            · simp
            · exact absurd rfl h3
            · simp
        obtain ⟨c, d⟩ := r2_cr b hr
        rw [c, ih _ hl d]
/-! ### the dots -/
abbrev R1 (t : Array Nat) (p : Nat) : List Nat := resAt t (hit1 t) (fun _ => 1) [46, 46] p
def atStart (t : Array Nat) (p : Nat) : Bool := p == 0 || t.getD (p - 1) 0 == 10
def stuffL (r : List Nat) : List Nat := if r.head? = some 46 then 46 :: r else r
theorem r1_dot {p : Nat} {rest : List Nat} (h : t.toList.drop p = 46 :: rest) (hs : atStart t p = true) : R1 t p = [46, 46] ++ R1 t (p + 1) ∧ t.toList.drop (p + 1) = rest := by
  obtain ⟨h1, h2, h3⟩ := getD_drop h
  refine ⟨?_, h3⟩
  have hh : hit1 t p = true := by unfold hit1; unfold atStart at hs; rw [hs, h2]; simp [h1]
  unfold R1
  rw [resAt_hit (H1 t) hh]
theorem r1_other {p c : Nat} {rest : List Nat} (h : t.toList.drop p = c :: rest) (hs : c ≠ 46 ∨ atStart t p = false) : R1 t p = c :: R1 t (p + 1) ∧ t.toList.drop (p + 1) = rest := by
  obtain ⟨h1, h2, h3⟩ := getD_drop h
  refine ⟨?_, h3⟩
  have hh : hit1 t p = false := by
    unfold hit1; unfold atStart at hs
    rcases hs with hs | hs
    · rw [h2]; simp [hs]
    · rw [hs]; rfl
  unfold R1
  rw [resAt_miss (H1 t) h1 hh, h2]
theorem start_succ {p c : Nat} {rest : List Nat} (h : t.toList.drop p = c :: rest) : atStart t (p + 1) = (c == 10) := by
  obtain ⟨h1, h2, h3⟩ := getD_drop h
  unfold atStart
  rw [Nat.add_sub_cancel, h2]; simp
theorem r1_in : ∀ (row rest : List Nat) (p : Nat), clean row → atStart t p = false → t.toList.drop p = row ++ rest → R1 t p = row ++ R1 t (p + row.length) ∧ t.toList.drop (p + row.length) = rest
  | [], rest, p, _, _, h => ⟨rfl, h⟩
  | c :: row, rest, p, hc, hs, h => by
    obtain ⟨a0, h3⟩ := r1_other h (.inr hs)
    have hs' : atStart t (p + 1) = false := by rw [start_succ h]; simpa using (hc c (.head _)).1
    obtain ⟨a, b⟩ := r1_in row rest (p + 1) (fun d hd => hc d (.tail _ hd)) hs' h3
    have e : p + 1 + row.length = p + (c :: row).length := by rw [List.length_cons]; lia
    rw [e] at a b
    exact ⟨by rw [a0, a]; rfl, b⟩
theorem r1_row (row rest : List Nat) (p : Nat) (hc : clean row) (hs : atStart t p = true) (h : t.toList.drop p = row ++ rest) : R1 t p = stuffL row ++ R1 t (p + row.length) ∧ t.toList.drop (p + row.length) = rest := by
  cases row with
  | nil => exact ⟨rfl, h⟩
  | cons c row =>
    have hs' : atStart t (p + 1) = false := by rw [start_succ h]; simpa using (hc c (.head _)).1
    have e : p + 1 + row.length = p + (c :: row).length := by rw [List.length_cons]; lia
    by_cases hd : c = 46
    · subst hd
      obtain ⟨a0, h3⟩ := r1_dot h hs
      obtain ⟨a, b⟩ := r1_in row rest (p + 1) (fun d hd => hc d (.tail _ hd)) hs' h3
      rw [e] at a b
      exact ⟨by rw [a0, a]; rfl, b⟩
    · obtain ⟨a0, h3⟩ := r1_other h (.inl hd)
      obtain ⟨a, b⟩ := r1_in row rest (p + 1) (fun d hd => hc d (.tail _ hd)) hs' h3
      rw [e] at a b
      refine ⟨?_, b⟩
      rw [a0, a]
      unfold stuffL
      rw [if_neg (by simpa using hd)]; rfl
theorem dotted_wire : ∀ (rows : List (List Nat)) (p : Nat), rows ≠ [] → (∀ r ∈ rows, clean r) → atStart t p = true → t.toList.drop p = joinL [13, 10] rows → R1 t p = joinL [13, 10] (rows.map stuffL)
  | [], _, h, _, _, _ => absurd rfl h
  | [r], p, _, hc, hs, hp => by
    obtain ⟨a, b⟩ := r1_row r [] p (hc r (.head _)) hs (by rw [hp]; simp [joinL])
    rw [a]
    unfold R1
    rw [resAt_end (drop_end b)]
    simp [joinL]
  | r :: r2 :: rest, p, _, hc, hs, hp => by
    obtain ⟨a, b⟩ := r1_row r _ p (hc r (.head _)) hs hp
    obtain ⟨c, d⟩ := r1_other (show t.toList.drop (p + r.length) = 13 :: (10 :: joinL [13, 10] (r2 :: rest)) from b) (.inl (by decide))
    obtain ⟨e, f⟩ := r1_other d (.inl (by decide))
    have hs' : atStart t (p + r.length + 1 + 1) = true := by rw [start_succ d]; rfl
    rw [a, c, e, dotted_wire (r2 :: rest) _ (List.cons_ne_nil _ _) (fun q hq => hc q (.tail _ hq)) hs' f]
    rfl
end
/-! ### the cut at both signs -/
section
open Builtin Builtin.Str StrLaws
def cutsL : Nat → List Nat → List Nat
  | _, [] => []
  | p, c :: r => if c = 13 ∧ r.head? = some 10 then p :: cutsL (p + 1) r else cutsL (p + 1) r
abbrev crlf : Str := ⟨#[13, 10]⟩
theorem occ_cuts {x : Str} (l : List Nat) : ∀ (p : Nat) (found : Array Nat) (free : Nat), x.cps.toList.drop p = l → (free ≤ p ∨ (free = p + 1 ∧ l.head? = some 10)) → found.size ≤ p → p + l.length = x.length →
    (forIn (List.range' p (l.length + 1)) (found, free) (occBody x crlf x.length (x.length + 1))).run.fst.toList = found.toList ++ cutsL p l := by
  induction l with
  | nil =>
    intro p found free h hf hs hl
    rw [List.range'_succ, List.forIn_cons]
    unfold occBody
    rw [if_neg (by show ¬ ((_ ∧ p + 2 ≤ _) ∧ _); rw [List.length_nil] at hl; lia)]
    simp [cutsL]
  | cons c r ih =>
    intro p found free h hf hs hl
    have hd : x.cps.toList.drop (p + 1) = r := by rw [← List.drop_drop, h]; rfl
    rw [List.length_cons] at hl
    have hsub : subAt x crlf p = ((c :: r).take 2 == [13, 10]) := by rw [subAt_eq, h]; rfl
    rw [List.length_cons, List.range'_succ, List.forIn_cons]
    unfold cutsL
    by_cases hc : c = 13 ∧ r.head? = some 10
    · obtain ⟨rfl, hr⟩ := hc
      obtain ⟨r', er⟩ : ∃ r', r = 10 :: r' := by
        cases r with
        | nil => cases hr
        | cons a r' => exact ⟨r', by rw [Option.some.inj hr]⟩
      have hfree : free ≤ p := by
        rcases hf with hf | ⟨_, hf⟩
        · exact hf
        · cases hf
      have hlr : r.length = r'.length + 1 := by rw [er]; rfl
      have e : occBody x crlf x.length (x.length + 1) p (found, free) = pure (ForInStep.yield (found.push p, p + 2)) := by
        unfold occBody
        rw [if_pos ⟨⟨⟨by show found.size < _; lia, hfree⟩, by show p + 2 ≤ _; lia⟩, by rw [hsub, er]; rfl⟩]; rfl
      rw [e, if_pos ⟨rfl, hr⟩]
      have := ih (p + 1) (found.push p) (p + 2) hd (.inr ⟨rfl, hr⟩) (by rw [Array.size_push]; lia) (by lia)
      refine Eq.trans this ?_
      rw [Array.toList_push, List.append_assoc]; rfl
    · have e : occBody x crlf x.length (x.length + 1) p (found, free) = pure (ForInStep.yield (found, free)) := by
        unfold occBody
        rw [if_neg]
        rintro ⟨_, h2⟩
        rw [hsub] at h2
        apply hc
        cases r with
        | nil => simp at h2
        | cons a r' =>
          have : [c, a] = [13, 10] := by simpa using h2
          exact ⟨(List.cons.inj this).1, by rw [(List.cons.inj (List.cons.inj this).2).1]; rfl⟩
      rw [e, if_neg hc]
      exact ih (p + 1) found free hd (.inl (by rcases hf with hf | hf <;> lia)) (by lia) (by lia)
theorem cuts_row : ∀ (row rest : List Nat) (p : Nat), clean row → cutsL p (row ++ rest) = cutsL (p + row.length) rest
  | [], _, _, _ => rfl
  | c :: row, rest, p, h => by
    show (if c = 13 ∧ _ then _ else cutsL (p + 1) (row ++ rest)) = _
    rw [if_neg (fun q => (h c (.head _)).2 q.1), cuts_row row rest (p + 1) (fun d hd => h d (.tail _ hd)), List.length_cons]
    congr 1; lia
theorem parts_cuts {x : Str} : ∀ (rows : List (List Nat)) (p : Nat), rows ≠ [] → (∀ r ∈ rows, clean r) → x.cps.toList.drop p = joinL [13, 10] rows → partsFrom x 2 p (cutsL p (joinL [13, 10] rows)) = rows.map fun r => ⟨r.toArray⟩
  | [], _, h, _, _ => absurd rfl h
  | [r], p, _, hc, hp => by
    have e : cutsL p (joinL [13, 10] [r]) = [] := by
      have := cuts_row r [] p (hc r (.head _))
      rw [List.append_nil] at this
      exact this
    rw [e]
    show [strSub x p x.length] = [_]
    congr 1
    apply Str.ext'
    apply Array.toList_inj.mp
    rw [strSub_toList, hp]
    have : (joinL [13, 10] [r]).length ≤ x.length - p := by rw [← hp, List.length_drop]; simp [Str.length]
    exact List.take_of_length_le this
  | r :: r2 :: rest, p, _, hc, hp => by
    have e : cutsL p (joinL [13, 10] (r :: r2 :: rest)) = (p + r.length) :: cutsL (p + r.length + 2) (joinL [13, 10] (r2 :: rest)) := by
      show cutsL p (r ++ (13 :: 10 :: joinL [13, 10] (r2 :: rest))) = _
      rw [cuts_row r _ p (hc r (.head _))]
      show (if (13 : Nat) = 13 ∧ _ then _ else _) = _
      rw [if_pos ⟨rfl, rfl⟩]
      congr 1
    have hp' : x.cps.toList.drop p = r ++ (13 :: 10 :: joinL [13, 10] (r2 :: rest)) := hp
    rw [e]
    show strSub x p (p + r.length) :: partsFrom x 2 (p + r.length + 2) _ = _
    rw [parts_cuts (r2 :: rest) (p + r.length + 2) (List.cons_ne_nil _ _) (fun q hq => hc q (.tail _ hq)) (by rw [Nat.add_assoc, ← List.drop_drop, hp', ← List.drop_drop, List.drop_append, List.drop_of_length_le (Nat.le_refl _), Nat.sub_self]; rfl)]
    show _ :: _ = _ :: _
    congr 1
    apply Str.ext'
    apply Array.toList_inj.mp
    rw [strSub_toList, hp', Nat.add_sub_cancel_left]
    simp
theorem split_rows (rows : List (List Nat)) (x : Str) (hn : rows ≠ []) (hc : ∀ r ∈ rows, clean r) (hx : x.cps.toList = joinL [13, 10] rows) : Txt.split x crlf = rows.map fun r => ⟨r.toArray⟩ := by
  have hl : x.cps.toList.length = x.length := by simp [Str.length]
  have ho : occurrences x crlf 0 x.length (x.length + 1) = cutsL 0 (joinL [13, 10] rows) := by
    rw [occ_eq]
    have := occ_cuts (x := x) (joinL [13, 10] rows) 0 #[] 0 hx (.inl (Nat.le_refl _)) (Nat.zero_le _) (by rw [← hx]; lia)
    rw [show x.length + 1 - 0 = (joinL [13, 10] rows).length + 1 by rw [← hx]; lia, this]; rfl
  have hp := parts_cuts (x := x) rows 0 hn hc hx
  unfold Txt.split
  rw [ho]
  have one : ∀ r, rows = [r] → [x] = rows.map fun r => (⟨r.toArray⟩ : Str) := by
    rintro r rfl
    show [x] = [_]
    congr 1
    apply Str.ext'
    apply Array.toList_inj.mp
    rw [hx]; rfl
  have hk : ¬ (Builtin.Str.strKind x < Builtin.Str.strKind crlf) := by
    have e1 : Builtin.Str.strKind crlf = 1 := by decide +kernel
    rw [e1]; unfold Builtin.Str.strKind; split
    · lia
    · split <;> lia
  rcases rows with _ | ⟨r, _ | ⟨r2, rest⟩⟩
  · exact absurd rfl hn
  · have e : cutsL 0 (joinL [13, 10] [r]) = [] := by
      have := cuts_row r [] 0 (hc r (.head _))
      rw [List.append_nil] at this
      exact this
    rw [e]
    split
    · exact one r rfl
    · exact one r rfl
  · have e : cutsL 0 (joinL [13, 10] (r :: r2 :: rest)) ≠ [] := by
      intro q
      have h1 := hp
      rw [q] at h1
      have := congrArg List.length h1
      simp [partsFrom] at this
    have h2 : ¬ (x.length < crlf.length) := by
      have : x.cps.toList.length = (r ++ (13 :: 10 :: joinL [13, 10] (r2 :: rest))).length := by rw [hx]; rfl
      rw [List.length_append, List.length_cons, List.length_cons] at this
      show ¬ (x.length < 2)
      lia
    rw [if_neg (by simp only [Bool.or_eq_true, decide_eq_true_eq, not_or]; exact ⟨h2, hk⟩), if_neg (by simpa using e), partsBetween_eq]
    exact hp
end
end Mine
end
section
open PySem
namespace Mine
/-! ## what the plan keeps -/
inductive Adj {α : Type} (R : α → α → Prop) : List α → Prop
  | nil : Adj R []
  | one {a} : Adj R [a]
  | more {a b l} : R a b → Adj R (b :: l) → Adj R (a :: b :: l)
theorem Adj.snoc {α : Type} {R : α → α → Prop} {l : List α} {x : α} (h : Adj R l) (hx : ∀ b, l.getLast? = some b → R b x) : Adj R (l ++ [x]) := by
  induction h with
  | nil => exact .one
  | one => exact .more (hx _ rfl) .one
  | more hr _ ih => exact .more hr (ih fun b hb => hx b (by rw [List.getLast?_cons_cons]; exact hb))
abbrev crS : Str := Str.ofString "\r"
abbrev lfS : Str := Str.ofString "\n"
abbrev clS : Str := Str.ofString "\r\n"
def Next (a b : Str × Str) : Prop := (a.2 = crS → b.1 = Str.ofString "" → b.2 ≠ lfS) ∧ ¬ (a.1 = Str.ofString "" ∧ b.1 = Str.ofString "")
def cleanB (r : List Nat) : Bool := r.all fun c => c != 10 && c != 13
theorem clean_of {r : List Nat} (h : cleanB r = true) : clean r := fun c hc => by
  have := List.all_eq_true.mp h c hc
  simpa using this
theorem tab_clean : ∀ i, i < 18 → cleanB (tabP.getD i ("", "")).2.cps.toList = true := by decide +kernel
theorem piece_clean (v : Int) : cleanB (pieceOf v).2.cps.toList = true := by
  unfold pieceOf
  split
  · next h =>
    have h0 := Int.fmod_nonneg_of_pos v (show (0 : Int) < 20 by decide)
    exact tab_clean _ (by lia)
  · obtain ⟨c, e, h, hc⟩ := sign_one v
    rw [e]
    dsimp only
    have hr := sign_row c h
    rw [show (Str.ofString "\\" ++ (⟨#[c]⟩ : Str)) = ("\\" ++ ⟨#[c]⟩ : Str) from rfl] at hr
    rw [hr]
    simp only [List.mem_cons, List.not_mem_nil, or_false, not_or] at h
    unfold escOf cleanB
    split <;> simp [h.2.2.2.1, h.2.2.2.2]
theorem piece_size (v : Int) : (pieceOf v).2.cps.size ≤ 8 := by
  have k := (piece_ok v).2
  unfold smallOk at k
  exact of_decide_eq_true (Bool.and_eq_true_iff.mp k).1
structure PlanInv (st : Plan) : Prop where
  len : st.ends.length = st.rows.length
  rowsC : ∀ r ∈ st.rows, cleanB r.cps.toList = true ∧ r.cps.size ≤ 8
  endsI : ∀ e ∈ st.ends, e = clS ∨ e = lfS ∨ e = crS
  adj : Adj Next (st.rows.zip st.ends)
theorem end_in (v : Int) : endOf v = clS ∨ endOf v = lfS ∨ endOf v = crS := by
  have h1 := Int.fmod_nonneg_of_pos (v.fdiv 20) (show (0 : Int) < 3 by decide)
  have h2 := Int.fmod_lt_of_pos (v.fdiv 20) (show (0 : Int) < 3 by decide)
  unfold endOf
  obtain ⟨k, hk, hk'⟩ : ∃ k, ((v.fdiv 20).fmod 3).toNat = k ∧ k < 3 := ⟨_, rfl, by lia⟩
  rw [hk]
  match k, hk' with
  | 0, _ => exact .inl rfl
  | 1, _ => exact .inr (.inl rfl)
  | 2, _ => exact .inr (.inr rfl)
theorem lastOf_get (l : List Str) (b : Str) (h : l.getLast? = some b) : lastOf l = [b] := by
  rcases l.eq_nil_or_concat with rfl | ⟨l, a, rfl⟩
  · cases h
  · rw [List.concat_eq_append] at h ⊢
    rw [List.getLast?_concat] at h
    rw [← Option.some.inj h]
    show List.take ((l ++ [a]).length - ((l ++ [a]).length - 1)) (List.drop ((l ++ [a]).length - 1) (l ++ [a])) = [a]
    rw [List.length_append]; simp
theorem zip_last {l m : List Str} {b : Str × Str} (hl : m.length = l.length) (h : (l.zip m).getLast? = some b) : l.getLast? = some b.1 ∧ m.getLast? = some b.2 := by
  rcases l.eq_nil_or_concat with rfl | ⟨l, a, rfl⟩
  · simp at h
  · rcases m.eq_nil_or_concat with rfl | ⟨m, c, rfl⟩
    · simp at h
    · rw [List.concat_eq_append] at *
      rw [List.concat_eq_append] at *
      have hl' : l.length = m.length := by rw [List.length_append, List.length_append] at hl; simp at hl; lia
      rw [List.zip_append hl'] at h
      simp at h
      rw [List.getLast?_concat, List.getLast?_concat, ← h]
      exact ⟨rfl, rfl⟩
theorem PlanInv.step {st : Plan} {x : Int} (h : PlanInv st) : PlanInv (planStep st x) := by
  unfold planStep
  split
  · next hc =>
    refine ⟨by simp [h.len], ?_, ?_, ?_⟩
    · intro r hr
      rcases List.mem_append.mp hr with hr | hr
      · exact h.rowsC r hr
      · rw [List.mem_singleton.mp hr]; exact ⟨piece_clean _, piece_size _⟩
    · intro e he
      rcases List.mem_append.mp he with he | he
      · exact h.endsI e he
      · rw [List.mem_singleton.mp he]
        split
        · exact .inl rfl
        · exact end_in _
    · show Adj Next ((st.rows ++ [_]).zip (st.ends ++ [_]))
      rw [List.zip_append h.len.symm]
      refine h.adj.snoc fun b hb => ?_
      obtain ⟨g1, g2⟩ := zip_last h.len hb
      refine ⟨fun q1 q2 q3 => ?_, fun q => ?_⟩
      · have e1 := lastOf_get _ _ g2
        dsimp only at q2 q3
        rw [q1] at e1
        have e2 : (lastOf st.ends == [crS]) = true := by rw [e1]; decide
        have e3 : ((pieceOf (valueOf x)).2 == Str.ofString "") = true := by rw [q2]; decide
        have e2' : (lastOf st.ends == [Str.ofString "\r"]) = true := e2
        rw [e2', e3, Bool.true_and, Bool.and_true] at q3
        split at q3
        · exact absurd q3 (by decide)
        · next hne => exact hne (by rw [q3]; decide)
      · have e1 := lastOf_get _ _ g1
        rw [q.1] at e1
        have e3 : ((pieceOf (valueOf x)).2 != Str.ofString "") = false := by rw [show (pieceOf (valueOf x)).2 = Str.ofString "" from q.2]; decide
        have e2' : (lastOf st.rows != [Str.ofString ""]) = false := by rw [e1]; decide
        rw [e3, e2'] at hc
        cases hc
  · exact ⟨h.len, h.rowsC, h.endsI, h.adj⟩
theorem plan_inv_fold : ∀ (xs : List Int) (st : Plan), PlanInv st → PlanInv (xs.foldl planStep st)
  | [], _, h => h
  | x :: xs, st, h => plan_inv_fold xs _ h.step
theorem plan_inv (xs : List Int) : PlanInv (planOf xs) := plan_inv_fold xs _ ⟨rfl, fun _ h => (nomatch h), fun _ h => (nomatch h), .nil⟩
theorem rows_ne_fold : ∀ (xs : List Int) (st : Plan), st.rows ≠ [] → (xs.foldl planStep st).rows ≠ []
  | [], _, h => h
  | x :: xs, st, h => by
    refine rows_ne_fold xs _ ?_
    unfold planStep
    split
    · simp
    · exact h
theorem rows_ne (xs : List Int) (h : xs ≠ []) : (planOf xs).rows ≠ [] := by
  cases xs with
  | nil => exact absurd rfl h
  | cons x xs =>
    refine rows_ne_fold xs _ ?_
    unfold planStep
    split
    · simp
    · next hc =>
      have : (lastOf ([] : List Str) != [Str.ofString ""]) = true := by decide
      rw [this, Bool.or_true] at hc
      exact absurd rfl hc
/-! ## the mail of the plan -/
def endsOut (ends : List Str) : List Str := List.take (ends.length - 1 - 0) (List.drop 0 ends) ++ [Str.ofString ""]
def wireTexts (due ends : List Str) : List Str := List.zipWith (· ++ ·) due ends
abbrev L (x : Str) : List Nat := x.cps.toList
theorem due_empty {mark r : Str} (hm : mark ≠ Str.ofString "") (h : dueOf mark r = Str.ofString "") : r = Str.ofString "" := by
  unfold dueOf at h
  split at h
  · exact absurd h hm
  · exact h
theorem L_empty {r : Str} (h : L r = []) : r = Str.ofString "" := by
  apply Str.ext'
  apply Array.toList_inj.mp
  exact h
theorem L_inj {r q : Str} (h : L r = L q) : r = q := Str.ext' (Array.toList_inj.mp h)
theorem end_L {e : Str} (h : e = clS ∨ e = lfS ∨ e = crS) : L e = [13, 10] ∨ L e = [10] ∨ L e = [13] := by
  rcases h with rfl | rfl | rfl
  · exact .inl (by decide +kernel)
  · exact .inr (.inl (by decide +kernel))
  · exact .inr (.inr (by decide +kernel))
theorem wire_ok {mark : Str} (hm : mark ≠ Str.ofString "") (hc : cleanB (L mark) = true) : ∀ (rows ends : List Str), ends.length = rows.length → rows ≠ [] → (∀ r ∈ rows, cleanB (L r) = true) → (∀ e ∈ ends, e = clS ∨ e = lfS ∨ e = crS) → Adj Next (rows.zip ends) →
    WireOk (((rows.map (dueOf mark)).map L).zip ((endsOut ends).map L))
  | [], _, _, h, _, _, _ => absurd rfl h
  | r :: rows, [], h, _, _, _, _ => by cases h
  | [r], [e], _, _, hr, _, _ => by
    refine WireOk.last (clean_of ?_)
    unfold dueOf
    split
    · exact hc
    · exact hr r (.head _)
  | [r], e :: e2 :: es, h, _, _, _, _ => by cases h
  | r :: r2 :: rows, [e], h, _, _, _, _ => by cases h
  | r :: r2 :: rows, e :: e2 :: es, h, _, hr, he, ha => by
    have hl : (e2 :: es).length = (r2 :: rows).length := Nat.succ.inj h
    cases ha with
    | more hn ha =>
      have ih := wire_ok hm hc (r2 :: rows) (e2 :: es) hl (List.cons_ne_nil _ _) (fun q hq => hr q (.tail _ hq)) (fun q hq => he q (.tail _ hq)) ha
      have e0 : endsOut (e :: e2 :: es) = e :: endsOut (e2 :: es) := by
        unfold endsOut
        simp
      have e1 : ∃ x xs, endsOut (e2 :: es) = x :: xs ∧ (x = e2 ∨ x = Str.ofString "") := by
        cases es with
        | nil => exact ⟨_, _, rfl, .inr rfl⟩
        | cons e3 es => exact ⟨e2, endsOut (e3 :: es), by unfold endsOut; simp, .inl rfl⟩
      obtain ⟨x, xs, ex, hx⟩ := e1
      rw [e0]
      rw [ex] at ih ⊢
      refine WireOk.more (clean_of ?_) (end_L (he e (.head _))) (fun q1 q2 q3 => ?_) ?_ ih
      · unfold dueOf
        split
        · exact hc
        · exact hr r (.head _)
      · have g2 : r2 = Str.ofString "" := due_empty hm (L_empty q2)
        have g1 : e = crS := L_inj (q1.trans (by decide +kernel))
        rcases hx with rfl | rfl
        · exact hn.1 g1 g2 (L_inj (q3.trans (by decide +kernel)))
        · revert q3; decide +kernel
      · rcases hx with rfl | rfl
        · exact .inr (end_L (he _ (.tail _ (.head _))))
        · exact .inl (by decide +kernel)
theorem catS_wire : ∀ (due ends : List Str), catS (wireTexts due ends) = wireL ((due.map L).zip (ends.map L))
  | [], _ => by simp [wireTexts, catS, wireL]
  | _ :: _, [] => by simp [wireTexts, catS, wireL]
  | d :: due, e :: ends => by
    have ih := catS_wire due ends
    unfold wireTexts catS wireL at *
    rw [List.zipWith_cons_cons, List.flatMap_cons, ih]
    show (d.cps ++ e.cps).toList ++ _ = _
    rw [Array.toList_append]; rfl
def stuff (r : Str) : Str := ⟨(stuffL (L r)).toArray⟩
theorem zip_fst {α β : Type} : ∀ (l : List α) (m : List β), l.length ≤ m.length → (l.zip m).map (·.1) = l
  | [], _, _ => rfl
  | _ :: _, [], h => absurd h (by simp)
  | a :: l, b :: m, h => by
    rw [List.zip_cons_cons, List.map_cons, zip_fst l m (Nat.le_of_succ_le_succ h)]
theorem endsOut_len {ends : List Str} {n : Nat} (h : ends.length = n) (hn : 0 < n) : (endsOut ends).length = n := by
  unfold endsOut; simp; lia
/-- what quotedata makes of the mail -/
theorem mail_made {mark : Str} (hm : mark ≠ Str.ofString "") (hc : cleanB (L mark) = true) (xs : List Int) (hx : xs ≠ []) (v : Str) (hv : L v = catS (wireTexts ((planOf xs).rows.map (dueOf mark)) (endsOut (planOf xs).ends))) :
    let t := (R2 v.cps 0).toArray
    R1 t 0 = joinL [13, 10] (((planOf xs).rows.map (dueOf mark)).map fun r => stuffL (L r)) := by
  intro t
  have inv := plan_inv xs
  have hn := rows_ne xs hx
  have hp : 0 < (planOf xs).rows.length := by cases h : (planOf xs).rows with
    | nil => exact absurd h hn
    | cons => exact Nat.succ_pos _
  have hw := wire_ok hm hc (planOf xs).rows (planOf xs).ends inv.len hn (fun r hr => (inv.rowsC r hr).1) inv.endsI inv.adj
  have e1 := lined_wire (t := v.cps) _ 0 hw (by rw [List.drop_zero]; show L v = _; rw [hv, catS_wire])
  rw [zip_fst _ _ (by rw [List.length_map, List.length_map, List.length_map, endsOut_len inv.len hp]; exact Nat.le_refl _)] at e1
  have ht : t.toList = joinL [13, 10] (((planOf xs).rows.map (dueOf mark)).map L) := e1
  have e2 := dotted_wire (t := t) (((planOf xs).rows.map (dueOf mark)).map L) 0 (by simpa using hn) ?_ rfl (by rw [List.drop_zero]; exact ht)
  · rw [e2, List.map_map]; rfl
  · intro r hr
    obtain ⟨q, hq, rfl⟩ := List.mem_map.mp hr
    obtain ⟨q', hq', rfl⟩ := List.mem_map.mp hq
    refine clean_of ?_
    unfold dueOf
    split
    · exact hc
    · exact (inv.rowsC q' hq').1
end Mine
end
section
open PySem
namespace Mine
/-! ## the heard rows -/
def unst (row : Str) : Str := if Txt.slice row none (some 1) == Str.ofString "." then Txt.slice row (some 1) none else row
theorem head_slice (x : Str) : Txt.slice x none (some 1) = ⟨((L x).take 1).toArray⟩ := by
  cases h : L x with
  | nil =>
    have : x = Str.ofString "" := L_empty h
    rw [this]; decide +kernel
  | cons c r =>
    have := eq_of_beq (PyProof.Rows.slice_closes_to (x := x) (j := 1) ⟨by decide, by show (1 : Int) ≤ ((L x).length : Nat); rw [h, List.length_cons]; lia⟩)
    rw [this]
    show (⟨(((L x).drop 0).take 1).toArray⟩ : Str) = _
    rw [h]; rfl
theorem tail_slice {x : Str} {c : Nat} {r : List Nat} (h : L x = c :: r) : Txt.slice x (some 1) none = ⟨r.toArray⟩ := by
  have hl : x.length = r.length + 1 := by
    have : (L x).length = x.length := by simp [Str.length]
    rw [← this, h]; rfl
  rw [PyProof.Rows.slice_from_eq (b := x.length) (by decide) (by lia) rfl]
  show (⟨(((L x).drop 1).take _).toArray⟩ : Str) = _
  rw [h]
  apply congrArg
  apply congrArg
  show List.take _ r = r
  exact List.take_of_length_le (by lia)
theorem toStr_L (x : Str) : (⟨(L x).toArray⟩ : Str) = x := by simp [L]
theorem unst_stuff (r : Str) : unst (stuff r) = r := by
  unfold unst
  rw [head_slice]
  show (if (⟨((stuffL (L r)).take 1).toArray⟩ : Str) == Str.ofString "." then _ else _) = _
  by_cases h : (L r).head? = some 46
  · have e : stuffL (L r) = 46 :: L r := if_pos h
    have e2 : L (stuff r) = 46 :: L r := e
    rw [e, tail_slice e2, if_pos (by show ((⟨[46].toArray⟩ : Str) == Str.ofString ".") = true; decide)]
  · have e : stuffL (L r) = L r := if_neg h
    rw [e]
    have e3 : stuff r = r := by unfold stuff; rw [e]
    rw [e3, if_neg]
    intro q
    apply h
    cases hr : L r with
    | nil => rw [hr] at q; cases q
    | cons c l =>
      rw [hr] at q
      have q' := congrArg L (eq_of_beq q)
      have : [c] = [46] := q'.trans (by decide +kernel)
      rw [List.head?_cons, (List.cons.inj this).1]
def dotB (r : Str) : Bool := Txt.slice r none (some 1) == Str.ofString "."
theorem dotB_is (r : Str) : dotB r = decide ((L r).head? = some 46) := by
  unfold dotB
  rw [head_slice]
  cases hr : L r with
  | nil => decide
  | cons c l =>
    rw [List.head?_cons, Bool.eq_iff_iff]
    constructor
    · intro q
      have : [c] = [46] := (congrArg L (eq_of_beq q)).trans (by decide +kernel)
      rw [(List.cons.inj this).1]; decide
    · intro q
      have : c = 46 := by simpa using q
      subst this; rfl
theorem len_joinL (sep : List Nat) : ∀ (l : List (List Nat)), (joinL sep l).length = (l.map List.length).sum + (l.length - 1) * sep.length
  | [] => by simp [joinL]
  | [r] => by simp [joinL]
  | r :: r2 :: rest => by
    show (r ++ (sep ++ joinL sep (r2 :: rest))).length = _
    rw [List.length_append, List.length_append, len_joinL sep (r2 :: rest)]
    simp [Nat.add_mul]; lia
theorem len_stuff (rows : List Str) : ((rows.map fun r => stuffL (L r)).map List.length).sum = ((rows.map L).map List.length).sum + (rows.filter dotB).length := by
  induction rows with
  | nil => rfl
  | cons r rows ih =>
    simp only [List.map_cons, List.sum_cons, List.filter_cons, dotB_is r]
    rw [ih]
    by_cases h : (L r).head? = some 46
    · rw [decide_eq_true h, if_pos rfl, List.length_cons]
      have e : stuffL (L r) = 46 :: L r := if_pos h
      rw [e, List.length_cons]; lia
    · rw [decide_eq_false h, if_neg (by decide)]
      have e : stuffL (L r) = L r := if_neg h
      rw [e]; lia
theorem L_join (sep : Str) : ∀ (l : List Str), L (Str.join sep l) = joinL (L sep) (l.map L)
  | [] => rfl
  | [r] => rfl
  | r :: r2 :: rest => by
    show (r.cps ++ sep.cps ++ (Str.join sep (r2 :: rest)).cps).toList = _
    rw [Array.toList_append, Array.toList_append, List.append_assoc]
    show L r ++ (L sep ++ L (Str.join sep (r2 :: rest))) = _
    rw [L_join sep (r2 :: rest)]; rfl
theorem len_L (x : Str) : x.length = (L x).length := by simp [Str.length]
/-- the mail is longer by the dots -/
theorem mail_len (due : List Str) (wire : Str) (h : L wire = joinL [13, 10] (due.map fun r => stuffL (L r))) : wire.length = (Str.join (Str.ofString "\r\n") due).length + (due.filter dotB).length := by
  have e : L (Str.ofString "\r\n") = [13, 10] := by decide +kernel
  rw [len_L, len_L, h, L_join, e, len_joinL, len_joinL, len_stuff]
  simp only [List.length_map]; lia
theorem stuff_clean {r : List Nat} (h : clean r) : clean (stuffL r) := by
  unfold stuffL
  split
  · intro c hc
    rcases List.mem_cons.mp hc with rfl | hc
    · decide
    · exact h c hc
  · exact h
/-! ## the told text -/
def runsOf : List (Option Str) → List Str
  | [] => [Str.ofString ""]
  | some x :: r => match runsOf r with
    | h :: t => (x ++ h) :: t
    | [] => [x]
  | none :: r => Str.ofString "" :: runsOf r
def midsOf : List Str → Str
  | [] => Str.ofString ""
  | [last] => Str.ofString ".*" ++ last
  | run :: rest => (Str.ofString "(?>.*?" ++ run ++ Str.ofString ")") ++ midsOf rest
def headS : List Str → Str
  | h :: _ => h
  | [] => Str.ofString ""
def joinOf (ps : List (Option Str)) : Str := Str.ofString "(?s:" ++ (headS (runsOf ps) ++ midsOf (runsOf ps).tail) ++ Str.ofString ")\\Z"
theorem runs_ne (ps : List (Option Str)) : runsOf ps ≠ [] := by
  cases ps with
  | nil => exact List.cons_ne_nil _ _
  | cons p ps =>
    cases p with
    | none => exact List.cons_ne_nil _ _
    | some x => unfold runsOf; split <;> exact List.cons_ne_nil _ _
end Mine
end
section
open PySem
namespace Mine
/-! ## one sign's cut -/
section
open Builtin Builtin.Str StrLaws
def noLf (r : List Nat) : Prop := ∀ c ∈ r, c ≠ 10
abbrev lfs : Str := ⟨#[10]⟩
def cuts1 : Nat → List Nat → List Nat
  | _, [] => []
  | p, c :: r => if c = 10 then p :: cuts1 (p + 1) r else cuts1 (p + 1) r
theorem occ_cuts1 {x : Str} (l : List Nat) : ∀ (p : Nat) (found : Array Nat) (free : Nat), x.cps.toList.drop p = l → free ≤ p → found.size ≤ p → p + l.length = x.length →
    (forIn (List.range' p (l.length + 1)) (found, free) (occBody x lfs x.length (x.length + 1))).run.fst.toList = found.toList ++ cuts1 p l := by
  induction l with
  | nil =>
    intro p found free h hf hs hl
    rw [List.range'_succ, List.forIn_cons]
    unfold occBody
    rw [if_neg (by show ¬ ((_ ∧ p + 1 ≤ _) ∧ _); rw [List.length_nil] at hl; lia)]
    simp [cuts1]
  | cons c r ih =>
    intro p found free h hf hs hl
    have hd : x.cps.toList.drop (p + 1) = r := by rw [← List.drop_drop, h]; rfl
    rw [List.length_cons] at hl
    have hsub : subAt x lfs p = ([c] == [10]) := by rw [subAt_eq, h]; rfl
    rw [List.length_cons, List.range'_succ, List.forIn_cons]
    unfold cuts1
    by_cases hc : c = 10
    · subst hc
      have e : occBody x lfs x.length (x.length + 1) p (found, free) = pure (ForInStep.yield (found.push p, p + 1)) := by
        unfold occBody
        rw [if_pos ⟨⟨⟨by show found.size < _; lia, hf⟩, by show p + 1 ≤ _; lia⟩, by rw [hsub]; rfl⟩]; rfl
      rw [e, if_pos rfl]
      have := ih (p + 1) (found.push p) (p + 1) hd (Nat.le_refl _) (by rw [Array.size_push]; lia) (by lia)
      refine Eq.trans this ?_
      rw [Array.toList_push, List.append_assoc]; rfl
    · have e : occBody x lfs x.length (x.length + 1) p (found, free) = pure (ForInStep.yield (found, free)) := by
        unfold occBody
        rw [if_neg]
        rintro ⟨_, h2⟩
        rw [hsub] at h2
        have : [c] = [10] := by simpa using h2
        exact hc (List.cons.inj this).1
      rw [e, if_neg hc]
      exact ih (p + 1) found free hd (by lia) (by lia) (by lia)
theorem cuts1_row : ∀ (row rest : List Nat) (p : Nat), noLf row → cuts1 p (row ++ rest) = cuts1 (p + row.length) rest
  | [], _, _, _ => rfl
  | c :: row, rest, p, h => by
    show (if c = 10 then _ else cuts1 (p + 1) (row ++ rest)) = _
    rw [if_neg (h c (.head _)), cuts1_row row rest (p + 1) (fun d hd => h d (.tail _ hd)), List.length_cons]
    congr 1; lia
theorem parts_cuts1 {x : Str} : ∀ (rows : List (List Nat)) (p : Nat), rows ≠ [] → (∀ r ∈ rows, noLf r) → x.cps.toList.drop p = joinL [10] rows → partsFrom x 1 p (cuts1 p (joinL [10] rows)) = rows.map fun r => ⟨r.toArray⟩
  | [], _, h, _, _ => absurd rfl h
  | [r], p, _, hc, hp => by
    have e : cuts1 p (joinL [10] [r]) = [] := by
      have := cuts1_row r [] p (hc r (.head _))
      rw [List.append_nil] at this
      exact this
    rw [e]
    show [strSub x p x.length] = [_]
    congr 1
    apply Str.ext'
    apply Array.toList_inj.mp
    rw [strSub_toList, hp]
    have : (joinL [10] [r]).length ≤ x.length - p := by rw [← hp, List.length_drop]; simp [Str.length]
    exact List.take_of_length_le this
  | r :: r2 :: rest, p, _, hc, hp => by
    have e : cuts1 p (joinL [10] (r :: r2 :: rest)) = (p + r.length) :: cuts1 (p + r.length + 1) (joinL [10] (r2 :: rest)) := by
      show cuts1 p (r ++ (10 :: joinL [10] (r2 :: rest))) = _
      rw [cuts1_row r _ p (hc r (.head _))]
      show (if (10 : Nat) = 10 then _ else _) = _
      rw [if_pos rfl]
    have hp' : x.cps.toList.drop p = r ++ (10 :: joinL [10] (r2 :: rest)) := hp
    rw [e]
    show strSub x p (p + r.length) :: partsFrom x 1 (p + r.length + 1) _ = _
    rw [parts_cuts1 (r2 :: rest) (p + r.length + 1) (List.cons_ne_nil _ _) (fun q hq => hc q (.tail _ hq)) (by rw [Nat.add_assoc, ← List.drop_drop, hp', ← List.drop_drop, List.drop_append, List.drop_of_length_le (Nat.le_refl _), Nat.sub_self]; rfl)]
    show _ :: _ = _ :: _
    congr 1
    apply Str.ext'
    apply Array.toList_inj.mp
    rw [strSub_toList, hp', Nat.add_sub_cancel_left]
    simp
theorem split_lf (rows : List (List Nat)) (x : Str) (hn : rows ≠ []) (hc : ∀ r ∈ rows, noLf r) (hx : x.cps.toList = joinL [10] rows) : Txt.split x lfs = rows.map fun r => ⟨r.toArray⟩ := by
  have hl : x.cps.toList.length = x.length := by simp [Str.length]
  have ho : occurrences x lfs 0 x.length (x.length + 1) = cuts1 0 (joinL [10] rows) := by
    rw [occ_eq]
    have := occ_cuts1 (x := x) (joinL [10] rows) 0 #[] 0 hx (Nat.le_refl _) (Nat.zero_le _) (by rw [← hx]; lia)
    rw [show x.length + 1 - 0 = (joinL [10] rows).length + 1 by rw [← hx]; lia, this]; rfl
  have hp := parts_cuts1 (x := x) rows 0 hn hc hx
  unfold Txt.split
  rw [ho]
  have one : ∀ r, rows = [r] → [x] = rows.map fun r => (⟨r.toArray⟩ : Str) := by
    rintro r rfl
    show [x] = [_]
    congr 1
    apply Str.ext'
    apply Array.toList_inj.mp
    rw [hx]; rfl
  have hk : ¬ (Builtin.Str.strKind x < Builtin.Str.strKind lfs) := by
    have e1 : Builtin.Str.strKind lfs = 1 := by decide +kernel
    rw [e1]; unfold Builtin.Str.strKind; split
    · lia
    · split <;> lia
  rcases rows with _ | ⟨r, _ | ⟨r2, rest⟩⟩
  · exact absurd rfl hn
  · have e : cuts1 0 (joinL [10] [r]) = [] := by
      have := cuts1_row r [] 0 (hc r (.head _))
      rw [List.append_nil] at this
      exact this
    rw [e]
    split
    · exact one r rfl
    · exact one r rfl
  · have e : cuts1 0 (joinL [10] (r :: r2 :: rest)) ≠ [] := by
      intro q
      have h1 := hp
      rw [q] at h1
      have := congrArg List.length h1
      simp [partsFrom] at this
    have h2 : ¬ (x.length < lfs.length) := by
      have : x.cps.toList.length = (r ++ (10 :: joinL [10] (r2 :: rest))).length := by rw [hx]; rfl
      rw [List.length_append, List.length_cons] at this
      show ¬ (x.length < 1)
      lia
    rw [if_neg (by simp only [Bool.or_eq_true, decide_eq_true_eq, not_or]; exact ⟨h2, hk⟩), if_neg (by simpa using e), partsBetween_eq]
    exact hp
end
/-! ## the told text and the joined one -/
def nlOf (row : Str) : Str := if row == Str.ofString "" then Str.ofString "\n" else row
def optOf (row : Str) : Option Str := if row == Str.ofString "" then none else some row
def toldRuns (due : List Str) : List Str := Txt.split (Txt.join ⟨#[]⟩ (due.map nlOf)) (Str.ofString "\n")
theorem L_app (x y : Str) : L (x ++ y) = L x ++ L y := Array.toList_append ..
theorem runs_some {x a : Str} {r : List (Option Str)} {t : List Str} (h : runsOf r = a :: t) : runsOf (some x :: r) = (x ++ a) :: t := by
  show (match runsOf r with | h :: t => (x ++ h) :: t | [] => [x]) = _
  rw [h]
theorem runs_text : ∀ (due : List Str), catS (due.map nlOf) = joinL [10] ((runsOf (due.map optOf)).map L)
  | [] => by simp [catS, runsOf, joinL]; decide +kernel
  | r :: due => by
    have ih := runs_text due
    have hc : catS ((r :: due).map nlOf) = L (nlOf r) ++ catS (due.map nlOf) := by simp [catS]
    rw [hc, ih, List.map_cons]
    cases hr : r == Str.ofString "" with
    | true =>
      have e1 : optOf r = none := by unfold optOf; rw [hr]; rfl
      have e2 : nlOf r = Str.ofString "\n" := by unfold nlOf; rw [hr]; rfl
      have e3 : L (Str.ofString "\n") = [10] := by decide +kernel
      have e4 : L (Str.ofString "") = [] := by decide +kernel
      rw [e1, e2, e3]
      show _ = joinL [10] (L (Str.ofString "") :: (runsOf (due.map optOf)).map L)
      rw [e4]
      cases h : runsOf (due.map optOf) with
      | nil => exact absurd h (runs_ne _)
      | cons a t => rfl
    | false =>
      have e1 : optOf r = some r := by unfold optOf; rw [hr]; rfl
      have e2 : nlOf r = r := by unfold nlOf; rw [hr]; rfl
      rw [e1, e2]
      cases h : runsOf (due.map optOf) with
      | nil => exact absurd h (runs_ne _)
      | cons a t =>
        rw [runs_some h]
        show L r ++ joinL [10] (L a :: t.map L) = joinL [10] (L (r ++ a) :: t.map L)
        rw [L_app]
        cases t with
        | nil => rfl
        | cons b t => show L r ++ (L a ++ _) = (L r ++ L a) ++ _; rw [List.append_assoc]
theorem runs_noLf : ∀ (due : List Str), (∀ r ∈ due, noLf (L r)) → ∀ q ∈ runsOf (due.map optOf), noLf (L q)
  | [], _, q, hq => by
    rw [List.mem_singleton.mp hq]
    intro c hc
    have e4 : L (Str.ofString "") = [] := by decide +kernel
    rw [e4] at hc; cases hc
  | r :: due, h, q, hq => by
    have ih := runs_noLf due fun x hx => h x (.tail _ hx)
    rw [List.map_cons] at hq
    cases hr : r == Str.ofString "" with
    | true =>
      have e1 : optOf r = none := by unfold optOf; rw [hr]; rfl
      rw [e1] at hq
      rcases List.mem_cons.mp hq with rfl | hq
      · intro c hc
        have e4 : L (Str.ofString "") = [] := by decide +kernel
        rw [e4] at hc; cases hc
      · exact ih q hq
    | false =>
      have e1 : optOf r = some r := by unfold optOf; rw [hr]; rfl
      rw [e1] at hq
      cases hh : runsOf (due.map optOf) with
      | nil => exact absurd hh (runs_ne _)
      | cons a t =>
        rw [runs_some hh] at hq
        rw [hh] at ih
        rcases List.mem_cons.mp hq with rfl | hq
        · intro c hc
          rw [L_app] at hc
          rcases List.mem_append.mp hc with hc | hc
          · exact h r (.head _) c hc
          · exact ih a (.head _) c hc
        · exact ih q (.tail _ hq)
theorem toStr_map (l : List Str) : (l.map L).map (fun r => (⟨r.toArray⟩ : Str)) = l := by
  rw [List.map_map]
  have : ∀ r ∈ l, ((fun r => (⟨r.toArray⟩ : Str)) ∘ L) r = r := fun r _ => toStr_L r
  rw [List.map_congr_left this, List.map_id']
theorem told_runs (due : List Str) (h : ∀ r ∈ due, noLf (L r)) : toldRuns due = runsOf (due.map optOf) := by
  unfold toldRuns
  have e : Txt.join ⟨#[]⟩ (due.map nlOf) = ⟨(catS (due.map nlOf)).toArray⟩ := glued_empty _
  have e2 : Str.ofString "\n" = lfs := L_inj (by decide +kernel)
  rw [e, e2, split_lf ((runsOf (due.map optOf)).map L) _ (by simpa using runs_ne _) (fun r hr => by
    obtain ⟨q, hq, rfl⟩ := List.mem_map.mp hr
    exact runs_noLf due h q hq) (by show (catS (due.map nlOf)) = _; exact runs_text due), toStr_map]
def midW (run : Str) : Str := Str.ofString "(?>.*?" ++ run ++ Str.ofString ")"
/-- the told text, as the law's helper builds it -/
theorem L_mids : ∀ (t : List Str), t ≠ [] → L (midsOf t) = catS ((t.take (t.length - 1)).map midW) ++ (L (Str.ofString ".*") ++ L (t.getLast?.getD (Str.ofString "")))
  | [], h => absurd rfl h
  | [a], _ => by
    show L (Str.ofString ".*" ++ a) = _
    rw [L_app]; simp [catS]
  | a :: b :: t, _ => by
    show L (midW a ++ midsOf (b :: t)) = _
    rw [L_app, L_mids (b :: t) (List.cons_ne_nil _ _)]
    have e1 : (a :: b :: t).take ((a :: b :: t).length - 1) = a :: (b :: t).take ((b :: t).length - 1) := by simp
    have e2 : (a :: b :: t).getLast? = (b :: t).getLast? := List.getLast?_cons_cons
    rw [e1, e2, List.map_cons]
    have e3 : catS (midW a :: ((b :: t).take ((b :: t).length - 1)).map midW) = L (midW a) ++ catS (((b :: t).take ((b :: t).length - 1)).map midW) := by simp [catS]
    rw [e3, List.append_assoc]
end Mine
end
section
open PySem PySem.W PyProof.Rows PySem.Calls
set_option Elab.async false
namespace Mine
/-! ## _join_translated_parts -/
theorem parts_split {st : Addr} {vs : List Value} {ps : List (Option Str)} (h : PartsAre st vs ps) : ∃ vr vb xs pb, vs = vr ++ vb ∧ StrsAre vr xs ∧ ps = xs.map some ++ pb ∧ PartsAre st vb pb ∧ ((pb = [] ∧ vb = []) ∨ ∃ pb' vb', pb = none :: pb' ∧ vb = .ref st :: vb' ∧ PartsAre st vb' pb') := by
  induction h with
  | nil => exact ⟨[], [], [], [], rfl, .nil, rfl, .nil, .inl ⟨rfl, rfl⟩⟩
  | star h _ => exact ⟨[], _, [], _, rfl, .nil, rfl, .star h, .inr ⟨_, _, rfl, rfl, h⟩⟩
  | @text x t vs ps h ih =>
    obtain ⟨vr, vb, xs, pb, rfl, h1, rfl, h2, h3⟩ := ih
    exact ⟨.str x t :: vr, vb, x :: xs, pb, rfl, .cons x t h1, rfl, h2, h3⟩
theorem runs_map : ∀ (xs : List Str) (pb : List (Option Str)) (a : Str) (t : List Str), runsOf pb = a :: t → ∃ b, runsOf (xs.map some ++ pb) = b :: t ∧ L b = catS xs ++ L a
  | [], pb, a, t, h => ⟨a, h, rfl⟩
  | x :: xs, pb, a, t, h => by
    obtain ⟨b, h1, h2⟩ := runs_map xs pb a t h
    refine ⟨x ++ b, runs_some h1, ?_⟩
    rw [L_app, h2]; simp [catS]
/-- what stands behind a place of the parts -/
def outOf : List (Option Str) → List Nat
  | [] => []
  | none :: r => L (midsOf (runsOf r))
  | some _ :: _ => []
theorem body_split {xs : List Str} {pb : List (Option Str)} (h : pb = [] ∨ ∃ r, pb = none :: r) : L (headS (runsOf (xs.map some ++ pb)) ++ midsOf (runsOf (xs.map some ++ pb)).tail) = catS xs ++ outOf pb := by
  have e4 : L (Str.ofString "") = [] := by decide +kernel
  rcases h with rfl | ⟨r, rfl⟩
  · obtain ⟨b, h1, h2⟩ := runs_map xs [] (Str.ofString "") [] rfl
    rw [h1, L_app]
    show L b ++ L (Str.ofString "") = catS xs ++ []
    rw [h2, e4]; simp
  · obtain ⟨b, h1, h2⟩ := runs_map xs (none :: r) (Str.ofString "") (runsOf r) rfl
    rw [h1, L_app]
    show L b ++ L (midsOf (runsOf r)) = catS xs ++ L (midsOf (runsOf r))
    rw [h2, e4]; simp
theorem out_nil : outOf [none] = L (Str.ofString ".*") := by decide +kernel
theorem out_last (xs : List Str) : outOf (none :: xs.map some) = L (Str.ofString ".*") ++ catS xs := by
  obtain ⟨b, h1, h2⟩ := runs_map xs [] (Str.ofString "") [] rfl
  rw [List.append_nil] at h1
  show L (midsOf (runsOf (xs.map some))) = _
  rw [h1]
  show L (Str.ofString ".*" ++ b) = _
  have e4 : L (Str.ofString "") = [] := by decide +kernel
  rw [L_app, h2, e4]; simp
theorem out_more (xs : List Str) (r : List (Option Str)) : outOf (none :: (xs.map some ++ none :: r)) = L (Str.ofString "(?>.*?") ++ catS xs ++ L (Str.ofString ")") ++ outOf (none :: r) := by
  obtain ⟨b, h1, h2⟩ := runs_map xs (none :: r) (Str.ofString "") (runsOf r) rfl
  show L (midsOf (runsOf (xs.map some ++ none :: r))) = _
  rw [h1]
  have e4 : L (Str.ofString "") = [] := by decide +kernel
  cases h : runsOf r with
  | nil => exact absurd h (runs_ne _)
  | cons c t =>
    show L ((Str.ofString "(?>.*?" ++ b ++ Str.ofString ")") ++ midsOf (c :: t)) = _ ++ L (midsOf (runsOf r))
    rw [L_app, L_app, L_app, h2, e4, h]; simp
section
variable {prog : Program} {w : World} {A : Around} {E : Value → Shared → Prop} {s : Shared} {h₀ : Heap} {L₀ I : Addr} {m : Str → Option Value} {news : List (Addr × Obj)} {Q : Value → Shared → Prop} {u : Tok}
theorem item_nat {value slice : PySem.Expr} {vs : List Value} {n k : Nat} {v : Value} (N : News h₀ L₀ s.heap news) (hm : (I, listOf vs.toArray n) ∈ news) (hz : vs.length ≤ 1000) (hv : vs[k]? = some v) (h : Q v s)
    (hs : subscripted slice false (.ref I) (.int (k : Nat) u) = operate [.ref I, .int (k : Nat) u] (getItem (.ref I) (.int (k : Nat) u)) := by with_unfolding_all rfl) :
    wpAny (model prog w) A (subscriptTail value slice (.ref I) (.int (k : Nat) u)) Q E s := by
  have hk : k < vs.length := by
    rcases Nat.lt_or_ge k vs.length with h | h
    · exact h
    · rw [List.getElem?_eq_none h] at hv; cases hv
  have e63 : (2 : Int) ^ 63 = 9223372036854775808 := by decide
  exact item_arr (arr := vs.toArray) N hm (Int.natCast_nonneg _) (by rw [e63]; lia) (by rw [Int.toNat_natCast]; simpa using hv) h hs
theorem len_nat {vs : List Value} {n : Nat} (N : News h₀ L₀ s.heap news) (hm : (I, listOf vs.toArray n) ∈ news) (hz : vs.length ≤ 1000) (h : ∀ t' tk', Q (.int (vs.length : Nat) t') { s with toks := tk' }) : wpAny (model prog w) A (call (.builtin "len") [.ref I]) Q E s := by
  refine len_list (listOf_isList (N.get hm)) ?_ ?_
  · rw [List.size_toArray]; lia
  · rw [List.size_toArray]; exact h _ _
end
section
variable {prog : Program} {w : World} {A : Around} {E : Value → Shared → Prop} {s : Shared} {env : Env} {h₀ : Heap} {L₀ : Addr} {Q : Flow → Shared → Prop}
abbrev jNames (I st D b : Addr) (len : Nat) (tn : Tok) (fx : List (Str × Value)) : List (Str × Value) := (Str.ofString "inp", .ref I) :: (Str.ofString "STAR", .ref st) :: (Str.ofString "res", .ref D) :: (Str.ofString "add", .ref b) :: (Str.ofString "n", .int (len : Nat) tn) :: fx
/-- a run of texts -/
def RunJ (NX : List Value → Nat → List (Addr × Obj)) (ws0 vr : List Value) (k0 : Nat) (ps : List (Str × Value)) (k : Nat) (m : Str → Option Value) (nx : List (Addr × Obj)) : Prop :=
  ∃ j nn ti, j ≤ vr.length ∧ k = vr.length - j ∧ nx = NX (ws0 ++ vr.take j) nn ∧ m (Str.ofString "i") = some (.int ((k0 + j : Nat) : Int) ti) ∧ ∀ p ∈ ps, m p.1 = some p.2
theorem take_more {vr : List Value} {j : Nat} {v : Value} (h : vr[j]? = some v) : vr.take (j + 1) = vr.take j ++ [v] := by rw [List.take_add_one, h]; rfl
theorem run_end {NX : List Value → Nat → List (Addr × Obj)} {ws0 vr : List Value} {k0 j nn : Nat} {ps : List (Str × Value)} {v : Value} {ti : Tok} {m' : Str → Option Value} {big : List (Addr × Obj)} {h' : Heap} {tk : Nat} (F : Fr h₀ L₀ h' m') (N : News h₀ L₀ h' big) (hv : vr[j]? = some v)
    (sub : ∀ p ∈ NX ((ws0 ++ vr.take j) ++ [v]) nn, p ∈ big) (mi : m' (Str.ofString "i") = some (.int (((k0 + j : Nat) : Int) + 1) ti)) (hp : ∀ p ∈ ps, m' p.1 = some p.2) : WhileStep2 h₀ L₀ s (RunJ NX ws0 vr k0 ps) Q (vr.length - j) .next { s with heap := h', toks := tk } := by
  have hj : j < vr.length := by
    rcases Nat.lt_or_ge j vr.length with h | h
    · exact h
    · rw [List.getElem?_eq_none h] at hv; cases hv
  refine ⟨h', tk, m', NX (ws0 ++ vr.take (j + 1)) nn, vr.length - (j + 1), rfl, F, ?_, by lia, j + 1, nn, ti, hj, rfl, rfl, mi, hp⟩
  rw [take_more hv, ← List.append_assoc]
  exact cb_drop N sub
/-- a test that has failed -/
def TestEnd (h₀ : Heap) (L₀ : Addr) (s : Shared) (m : Str → Option Value) (nx : List (Addr × Obj)) (c : Bool) (s₂ : Shared) : Prop := c = false ∧ ∃ h' tk', s₂ = { s with heap := h', toks := tk' } ∧ Fr h₀ L₀ h' m ∧ News h₀ L₀ h' nx
theorem run_loop {test : PySem.Expr} {body : List Stmt} {pos : Pos} {NX : List Value → Nat → List (Addr × Obj)} {ws0 vr : List Value} {xs : List Str} {k0 nn0 : Nat} {ps : List (Str × Value)} {t0 : Tok} {m₀ : Str → Option Value} {big : List (Addr × Obj)}
    (F : Fr h₀ L₀ s.heap m₀) (N : News h₀ L₀ s.heap big) (sub : ∀ p ∈ NX ws0 nn0, p ∈ big) (hs : StrsAre vr xs) (mi : m₀ (Str.ofString "i") = some (.int (k0 : Nat) t0)) (hp : ∀ p ∈ ps, m₀ p.1 = some p.2)
    (turn : ∀ u j x t nn ti h tk, vr[j]? = some (.str x t) → j < vr.length → Fr h₀ L₀ h (kstB u ((Str.ofString "i", .int ((k0 + j : Nat) : Int) ti) :: ps)) → News h₀ L₀ h (NX (ws0 ++ vr.take j) nn) →
      wpAny (model prog w) A (isTrue test env (eval test env)) (fun c s₂ => if c = true then wpAny (model prog w) A (execs body env) (WhileStep2 h₀ L₀ s (RunJ NX ws0 vr k0 ps) Q (vr.length - j)) E s₂ else Q .next s₂) E { s with heap := h, toks := tk })
    (test1 : ∀ u nn ti h tk, Fr h₀ L₀ h (kstB u ((Str.ofString "i", .int ((k0 + vr.length : Nat) : Int) ti) :: ps)) → News h₀ L₀ h (NX (ws0 ++ vr) nn) →
      wpAny (model prog w) A (isTrue test env (eval test env)) (TestEnd h₀ L₀ s (kstB u ((Str.ofString "i", .int ((k0 + vr.length : Nat) : Int) ti) :: ps)) (NX (ws0 ++ vr) nn)) E { s with heap := h, toks := tk })
    (last : ∀ u nn ti h tk, Fr h₀ L₀ h (kstB u ((Str.ofString "i", .int ((k0 + vr.length : Nat) : Int) ti) :: ps)) → News h₀ L₀ h (NX (ws0 ++ vr) nn) → Q .next { s with heap := h, toks := tk })
    (hE : PassesOwn (model prog w) A env E := by passes_own) :
    wpAny (model prog w) A (exec (.While test body [] pos) env) Q E s := by
  refine While_inv2 (RunJ NX ws0 vr k0 ps) (n₀ := vr.length) F (cb_drop N sub) ⟨0, nn0, t0, Nat.zero_le _, rfl, by rw [List.take_zero, List.append_nil], mi, hp⟩ ?_ hE
  rintro n m₁ news₁ h₁ tk₁ F₁ N₁ ⟨j, nn, ti, hj, rfl, rfl, gi, gp⟩
  rw [mapK _ (List.forall_mem_cons.mpr ⟨gi, gp⟩ : ∀ p ∈ (Str.ofString "i", Value.int ((k0 + j : Nat) : Int) ti) :: ps, m₁ p.1 = some p.2)] at F₁
  rcases Nat.lt_or_eq_of_le hj with h | rfl
  · have hv : ∃ x t, vr[j]? = some (.str x t) := by
      clear turn test1 last gi gp F₁ N₁ hj N sub
      induction hs generalizing j with
      | nil => exact absurd h (Nat.not_lt_zero _)
      | cons x t _ ih =>
        cases j with
        | zero => exact ⟨_, _, rfl⟩
        | succ j => exact ih j (Nat.lt_of_succ_lt_succ h)
    obtain ⟨x, t, hv⟩ := hv
    exact turn m₁ j x t nn ti h₁ tk₁ hv h F₁ N₁
  · rw [List.take_length] at N₁
    refine wpAny_mono (test1 m₁ nn ti h₁ tk₁ F₁ N₁) (fun c s₂ h₂ => ?_) fun _ _ e => e
    obtain ⟨rfl, h', tk', rfl, F', N'⟩ := h₂
    rw [if_neg (by decide)]
    exact last m₁ nn ti h' tk' F' N'
end
/-- an item of a list, by its place -/
def itAt (vs : List Value) (i : Int) (v : Value) : Prop := 0 ≤ i ∧ vs[i.toNat]? = some v
theorem itAt_of {va vb : List Value} {v : Value} {i : Int} (hi : i = (va.length : Nat)) : itAt (va ++ v :: vb) i v := by
  subst hi
  refine ⟨Int.natCast_nonneg _, ?_⟩
  rw [Int.toNat_natCast, List.getElem?_append_right (Nat.le_refl _), Nat.sub_self]; rfl
section
variable {prog : Program} {w : World} {A : Around} {E : Value → Shared → Prop} {s : Shared} {h₀ : Heap} {L₀ I : Addr} {m : Str → Option Value} {news : List (Addr × Obj)} {Q : Value → Shared → Prop} {u : Tok}
theorem item_i {value slice : PySem.Expr} {vs : List Value} {n : Nat} {i : Int} {v : Value} (N : News h₀ L₀ s.heap news) (hm : (I, listOf vs.toArray n) ∈ news) (hz : vs.length ≤ 1000) (hv : itAt vs i v) (h : Q v s)
    (hs : subscripted slice false (.ref I) (.int i u) = operate [.ref I, .int i u] (getItem (.ref I) (.int i u)) := by with_unfolding_all rfl) :
    wpAny (model prog w) A (subscriptTail value slice (.ref I) (.int i u)) Q E s := by
  obtain ⟨h0, hv⟩ := hv
  have hk : i.toNat < vs.length := by
    rcases Nat.lt_or_ge i.toNat vs.length with h | h
    · exact h
    · rw [List.getElem?_eq_none h] at hv; cases hv
  have e63 : (2 : Int) ^ 63 = 9223372036854775808 := by decide
  exact item_arr (arr := vs.toArray) N hm h0 (by rw [e63]; lia) (by simpa using hv) h hs
theorem is_ref_same {M : Model} {a : Addr} (h : Q (.bool true) s) : wpAny M A (compareOp .Is (.ref a) (.ref a)) Q E s := by
  show wpAny M A (isSame (.ref a) (.ref a) >>= fun b => pure (.bool b)) Q E s
  exact wpAny_bind (wpAny_isSame_ref_self (wpAny_pure h))
theorem join_texts {ys : List Str} {vs : List Value} {n : Nat} {t : Tok} {D : Addr} (N : News h₀ L₀ s.heap news) (hm : (D, listOf vs.toArray n) ∈ news) (hs : StrsAre vs ys) (hl : (catS ys).length ≤ 1000000) (h : ∀ t' tk', Q (.str ⟨(catS ys).toArray⟩ t') { s with toks := tk' }) :
    wpAny (model prog w) A (call (.builtin "str.join") [.str ⟨#[]⟩ t, .ref D]) Q E s := by
  have e : (ys.map (·.length)).sum = (catS ys).length := by
    clear hl h hs
    induction ys with
    | nil => rfl
    | cons y ys ih =>
      rw [List.map_cons, List.sum_cons, ih]
      have : catS (y :: ys) = y.cps.toList ++ catS ys := by simp [catS]
      rw [this, List.length_append]; simp [Str.length]
  refine join_list (listOf_isList (N.get hm)) hs ?_ fun t' k => ?_
  · show _ + _ * 0 ≤ _; lia
  · have e1 : Txt.join ⟨#[]⟩ ys = ⟨(catS ys).toArray⟩ := glued_empty ys
    rw [e1]; exact h t' k
end
/-- the outer loop -/
structure OutF (I st : Addr) (vs : List Value) (Bd : List Nat) (done rest : List (Option Str)) (rs : List Str) (va vb ws : List Value) : Prop where
  evs : vs = va ++ vb
  elen : va.length = done.length
  parts : PartsAre st vb rest
  form : (rest = [] ∧ vb = []) ∨ ∃ pb' vb', rest = none :: pb' ∧ vb = .ref st :: vb' ∧ PartsAre st vb' pb'
  txts : StrsAre ws rs
  few : rs.length ≤ done.length
  body : catS rs ++ outOf rest = Bd
  adj : Adj (fun (a b : Option Str) => ¬ (a = none ∧ b = none)) rest
def OutJ (I st D b : Addr) (tn : Tok) (vs : List Value) (Bd : List Nat) (news : List (Addr × Obj)) (k : Nat) (m : Str → Option Value) (nx : List (Addr × Obj)) : Prop :=
  ∃ done rest rs va vb ws nn ti, OutF I st vs Bd done rest rs va vb ws ∧ k = rest.length ∧ nx = (b, boundO D) :: (D, listOf (List.toArray ws) nn) :: news ∧ m (Str.ofString "i") = some (.int (done.length : Nat) ti) ∧ ∀ p ∈ jNames I st D b vs.length tn [], m p.1 = some p.2
section
variable {prog : Program} {w : World} {A : Around} {E : Value → Shared → Prop} {s : Shared} {env : Env} {h₀ : Heap} {L₀ : Addr} {Q : Flow → Shared → Prop} {I st D b : Addr} {tn : Tok} {vs : List Value} {Bd : List Nat} {news : List (Addr × Obj)}
theorem out_end {done rest : List (Option Str)} {k : Nat} {rs : List Str} {va vb ws : List Value} {nn : Nat} {ti : Tok} {i : Int} {m' : Str → Option Value} {big : List (Addr × Obj)} {h' : Heap} {tk : Nat} (F : Fr h₀ L₀ h' m') (N : News h₀ L₀ h' big) (o : OutF I st vs Bd done rest rs va vb ws) (hk : rest.length < k)
    (sub : ∀ p ∈ (b, boundO D) :: (D, listOf (List.toArray ws) nn) :: news, p ∈ big) (hi : i = (done.length : Nat)) (mi : m' (Str.ofString "i") = some (.int i ti)) (hp : ∀ p ∈ jNames I st D b vs.length tn [], m' p.1 = some p.2) :
    WhileStep2 h₀ L₀ s (OutJ I st D b tn vs Bd news) Q k .next { s with heap := h', toks := tk } :=
  ⟨h', tk, m', _, rest.length, rfl, F, cb_drop N sub, hk, done, rest, rs, va, vb, ws, nn, ti, o, rfl, rfl, hi ▸ mi, hp⟩
theorem out_loop {test : PySem.Expr} {body : List Stmt} {pos : Pos} {done0 rest0 : List (Option Str)} {rs0 : List Str} {va0 vb0 ws0 : List Value} {nn0 : Nat} {t0 : Tok} {i0 : Int} {m₀ : Str → Option Value} {big : List (Addr × Obj)}
    (F : Fr h₀ L₀ s.heap m₀) (N : News h₀ L₀ s.heap big) (sub : ∀ p ∈ (b, boundO D) :: (D, listOf (List.toArray ws0) nn0) :: news, p ∈ big) (o : OutF I st vs Bd done0 rest0 rs0 va0 vb0 ws0) (hi : i0 = (done0.length : Nat)) (mi : m₀ (Str.ofString "i") = some (.int i0 t0)) (hp : ∀ p ∈ jNames I st D b vs.length tn [], m₀ p.1 = some p.2)
    (turn : ∀ done rest rs va vb ws nn u ti h tk, OutF I st vs Bd done rest rs va vb ws → Fr h₀ L₀ h (kstB u ((Str.ofString "i", .int (done.length : Nat) ti) :: jNames I st D b vs.length tn [])) → News h₀ L₀ h ((b, boundO D) :: (D, listOf (List.toArray ws) nn) :: news) →
      wpAny (model prog w) A (isTrue test env (eval test env)) (fun c s₂ => if c = true then wpAny (model prog w) A (execs body env) (WhileStep2 h₀ L₀ s (OutJ I st D b tn vs Bd news) Q rest.length) E s₂ else Q .next s₂) E { s with heap := h, toks := tk })
    (hE : PassesOwn (model prog w) A env E := by passes_own) :
    wpAny (model prog w) A (exec (.While test body [] pos) env) Q E s := by
  refine While_inv2 (OutJ I st D b tn vs Bd news) (n₀ := rest0.length) F (cb_drop N sub) ⟨done0, rest0, rs0, va0, vb0, ws0, nn0, t0, o, rfl, rfl, hi ▸ mi, hp⟩ ?_ hE
  rintro n m₁ news₁ h₁ tk₁ F₁ N₁ ⟨done, rest, rs, va, vb, ws, nn, ti, o, rfl, rfl, gi, gp⟩
  rw [mapK _ (List.forall_mem_cons.mpr ⟨gi, gp⟩ : ∀ p ∈ (Str.ofString "i", Value.int (done.length : Nat) ti) :: jNames I st D b vs.length tn [], m₁ p.1 = some p.2)] at F₁
  exact turn done rest rs va vb ws nn m₁ ti h₁ tk₁ o F₁ N₁
end
theorem Adj.suf {α : Type} {R : α → α → Prop} : ∀ {l m : List α}, Adj R (l ++ m) → Adj R m
  | [], _, h => h
  | a :: l, m, h => by
    have h' : Adj R (a :: (l ++ m)) := h
    have : Adj R (l ++ m) := by
      cases hl : l ++ m with
      | nil => exact .nil
      | cons b t => rw [hl] at h'; cases h' with | more _ h => exact h
    exact this.suf
theorem out_first {I st : Addr} {vs vr vb : List Value} {xs : List Str} {ps pb : List (Option Str)} (evs : vs = vr ++ vb) (hxs : StrsAre vr xs) (eps : ps = xs.map some ++ pb) (hpb : PartsAre st vb pb) (hform : (pb = [] ∧ vb = []) ∨ ∃ pb' vb', pb = none :: pb' ∧ vb = .ref st :: vb' ∧ PartsAre st vb' pb') (hadj : Adj (fun (a b : Option Str) => ¬ (a = none ∧ b = none)) ps) :
    OutF I st vs (L (headS (runsOf ps) ++ midsOf (runsOf ps).tail)) (xs.map some) pb xs vr vb vr := by
  refine ⟨evs, by rw [List.length_map]; exact hxs.len_eq, hpb, hform, hxs, by rw [List.length_map]; exact Nat.le_refl _, ?_, (eps ▸ hadj).suf⟩
  rw [eps]
  refine (body_split ?_).symm
  rcases hform with ⟨h, _⟩ | ⟨r, _, h, _⟩
  · exact .inl h
  · exact .inr ⟨r, h⟩
section
variable {I st : Addr} {vs va vb ws vr : List Value} {Bd : List Nat} {done rest pb' r : List (Option Str)} {rs xs : List Str}
theorem catS_app (a b : List Str) : catS (a ++ b) = catS a ++ catS b := by simp [catS]
theorem catS_one (a : Str) : catS [a] = L a := by simp [catS]
/-- the star at the very end -/
theorem out_stepZ {x : Str} {t : Tok} (o : OutF I st vs Bd done [none] rs va [.ref st] ws) (hx : L x = L (Str.ofString ".*")) : StrsAre (ws ++ [.str x t]) (rs ++ [x]) ∧ catS (rs ++ [x]) = Bd :=
  ⟨o.txts.append' (.cons x t .nil), by rw [catS_app, catS_one, hx, ← out_nil]; exact o.body⟩
/-- the last run -/
theorem out_stepA {x F : Str} {t u : Tok} (o : OutF I st vs Bd done (none :: xs.map some) rs va (.ref st :: vr) ws) (hs : StrsAre vr xs) (hx : L x = L (Str.ofString ".*")) (hF : L F = catS xs) (h1 : 1 ≤ xs.length) :
    OutF I st vs Bd (done ++ none :: xs.map some) [] (rs ++ [x] ++ [F]) (va ++ .ref st :: vr) [] (ws ++ [.str x t] ++ [.str F u]) := by
  refine ⟨by rw [o.evs, List.append_nil], ?_, .nil, .inl ⟨rfl, rfl⟩, (o.txts.append' (.cons x t .nil)).append' (.cons F u .nil), ?_, ?_, .nil⟩
  · rw [List.length_append, List.length_append, o.elen, List.length_cons, List.length_cons, List.length_map, hs.len_eq]
  · have := o.few
    simp only [List.length_append, List.length_cons, List.length_nil, List.length_map]
    lia
  · have hb := o.body
    rw [out_last] at hb
    rw [catS_app, catS_app, catS_one, catS_one, hx, hF, ← hb]; simp [outOf]
/-- a run between two stars -/
theorem out_stepB {G : Str} {t : Tok} {vb2 : List Value} (o : OutF I st vs Bd done (none :: (xs.map some ++ none :: r)) rs va (.ref st :: (vr ++ vb2)) ws) (hs : StrsAre vr xs) (hb : PartsAre st vb2 (none :: r)) (hG : L G = L (Str.ofString "(?>.*?") ++ catS xs ++ L (Str.ofString ")")) :
    OutF I st vs Bd (done ++ none :: xs.map some) (none :: r) (rs ++ [G]) (va ++ .ref st :: vr) vb2 (ws ++ [.str G t]) := by
  have hbody := o.body
  have hadj : Adj (fun (a b : Option Str) => ¬ (a = none ∧ b = none)) ((none :: xs.map some) ++ none :: r) := o.adj
  refine ⟨by rw [o.evs]; simp, ?_, hb, .inr ?_, o.txts.append' (.cons G t .nil), ?_, ?_, hadj.suf⟩
  · rw [List.length_append, List.length_append, o.elen, List.length_cons, List.length_cons, List.length_map, hs.len_eq]
  · cases hb with | star hb => exact ⟨_, _, rfl, rfl, hb⟩
  · have := o.few
    simp only [List.length_append, List.length_cons, List.length_nil, List.length_map]
    lia
  · rw [catS_app, catS_one, hG, List.append_assoc, ← out_more]; exact hbody
theorem body_small {ps : List (Option Str)} (hB : (L (joinOf ps)).length ≤ 100000) (hb : catS rs = L (headS (runsOf ps) ++ midsOf (runsOf ps).tail)) : (catS rs).length ≤ 1000000 := by
  have e : L (joinOf ps) = L (Str.ofString "(?s:") ++ L (headS (runsOf ps) ++ midsOf (runsOf ps).tail) ++ L (Str.ofString ")\\Z") := by
    unfold joinOf; rw [L_app, L_app]
  rw [e, List.length_append, List.length_append, ← hb] at hB
  lia
theorem size_of {l : List Nat} (h : l.length ≤ 1000000) : (⟨l.toArray⟩ : Str).length ≤ sizeLine := by
  show l.toArray.size ≤ _
  rw [List.size_toArray]
  exact Nat.le_trans h (by decide)
theorem run_small {ps : List (Option Str)} (hB : (L (joinOf ps)).length ≤ 100000) (hb : catS rs ++ outOf (none :: (xs.map some ++ r)) = L (headS (runsOf ps) ++ midsOf (runsOf ps).tail)) (hr : r = [] ∨ ∃ q, r = none :: q) : (catS xs).length ≤ 1000000 := by
  have e : L (joinOf ps) = L (Str.ofString "(?s:") ++ L (headS (runsOf ps) ++ midsOf (runsOf ps).tail) ++ L (Str.ofString ")\\Z") := by
    unfold joinOf; rw [L_app, L_app]
  rw [e, ← hb] at hB
  rcases hr with rfl | ⟨q, rfl⟩
  · rw [List.append_nil, out_last] at hB
    simp only [List.length_append] at hB
    lia
  · rw [out_more] at hB
    simp only [List.length_append] at hB
    lia
theorem size_is {l : List Nat} (h : l.length ≤ 1000000) : (⟨l.toArray⟩ : Str).length ≤ 1000000 := by
  show l.toArray.size ≤ _
  rwa [List.size_toArray]
theorem le_ax {a x : Str} (hx : x.length ≤ 1000000) (ha : a.length ≤ 1000) : (a ++ x).length ≤ sizeLine := by
  rw [Str.length_append, sizeLine_eq]; lia
theorem le_axc {a x c : Str} (hx : x.length ≤ 1000000) (ha : a.length ≤ 1000) (hc : c.length ≤ 1000) : (a ++ x ++ c).length ≤ sizeLine := by
  rw [Str.length_append, Str.length_append, sizeLine_eq]; lia
theorem off2 {b D I : Addr} {rest : List (Addr × Obj)} (h : b < I ∧ D < I ∧ AllLt I rest) (o2 o3 : Obj) : ∀ p ∈ (b, o2) :: (D, o3) :: rest, p.1 ≠ I := fun p hp => by
  rcases List.mem_cons.mp hp with rfl | hp
  · exact Nat.ne_of_lt h.1
  rcases List.mem_cons.mp hp with rfl | hp
  · exact Nat.ne_of_lt h.2.1
  · exact Nat.ne_of_lt (allLt_mem h.2.2 p hp)
theorem itAt_in {va vr vb : List Value} {v c : Value} {j : Nat} {i : Int} (hv : vr[j]? = some v) (hi : i = ((va.length + 1 + j : Nat) : Int)) : itAt (va ++ c :: (vr ++ vb)) i v := by
  subst hi
  have hj : j < vr.length := by
    rcases Nat.lt_or_ge j vr.length with h | h
    · exact h
    · rw [List.getElem?_eq_none h] at hv; cases hv
  refine ⟨Int.natCast_nonneg _, ?_⟩
  rw [Int.toNat_natCast, List.getElem?_append_right (by lia), show va.length + 1 + j - va.length = j + 1 by lia, List.getElem?_cons_succ, List.getElem?_append_left hj]
  exact hv
theorem join_is {ps : List (Option Str)} {x : Str} (hx : L x = L (Str.ofString "(?s:") ++ catS rs ++ L (Str.ofString ")\\Z")) (hb : catS rs = L (headS (runsOf ps) ++ midsOf (runsOf ps).tail)) : x = joinOf ps := by
  apply L_inj
  unfold joinOf
  rw [hx, hb]
  simp only [L_app]
end
theorem all5 {m : Str → Option Value} {I st D b : Addr} {len : Nat} {tn : Tok} (m1 : m (Str.ofString "inp") = some (.ref I)) (m2 : m (Str.ofString "STAR") = some (.ref st)) (m3 : m (Str.ofString "res") = some (.ref D)) (m4 : m (Str.ofString "add") = some (.ref b)) (m5 : m (Str.ofString "n") = some (.int (len : Nat) tn)) : ∀ p ∈ jNames I st D b len tn [], m p.1 = some p.2 :=
  List.forall_mem_cons.mpr ⟨m1, List.forall_mem_cons.mpr ⟨m2, List.forall_mem_cons.mpr ⟨m3, List.forall_mem_cons.mpr ⟨m4, List.forall_mem_cons.mpr ⟨m5, List.forall_mem_nil _⟩⟩⟩⟩⟩
theorem all6 {m : Str → Option Value} {I st D b X : Addr} {len : Nat} {tn : Tok} (m1 : m (Str.ofString "inp") = some (.ref I)) (m2 : m (Str.ofString "STAR") = some (.ref st)) (m3 : m (Str.ofString "res") = some (.ref D)) (m4 : m (Str.ofString "add") = some (.ref b)) (m5 : m (Str.ofString "n") = some (.int (len : Nat) tn)) (m6 : m (Str.ofString "fixed") = some (.ref X)) : ∀ p ∈ jNames I st D b len tn [(Str.ofString "fixed", .ref X)], m p.1 = some p.2 :=
  List.forall_mem_cons.mpr ⟨m1, List.forall_mem_cons.mpr ⟨m2, List.forall_mem_cons.mpr ⟨m3, List.forall_mem_cons.mpr ⟨m4, List.forall_mem_cons.mpr ⟨m5, List.forall_mem_cons.mpr ⟨m6, List.forall_mem_nil _⟩⟩⟩⟩⟩⟩
end Mine
end
section
open PySem PySem.W PyProof.Rows PySem.Calls
set_option Elab.async false
namespace Mine
set_option maxRecDepth 100000 in
set_option maxHeartbeats 8000000 in
theorem join_claim (w : World) (news : List (Addr × Obj)) (I st : Addr) (vs : List Value) (n : Nat) (ps : List (Option Str)) (hm : (I, listOf vs.toArray n) ∈ news) (hp : PartsAre st vs ps) (hadj : Adj (fun (a b : Option Str) => ¬ (a = none ∧ b = none)) ps) (hz : vs.length ≤ 1000) (hB : (L (joinOf ps)).length ≤ 100000) :
    ClaimN 3 w 86 news [.ref I, .ref st] (fun r news' => news' = news ∧ ∃ t, r = .str (joinOf ps) t) := by
    k_with_none
    intro p loose mean mg mb dp un gd cn cs a ccd cl outer A₀ base h₀ L₀ m s Q E B F X N T C hk hdp hu hret
    refine wpAny_call ?_
    k_dflt cell_enter
    k_with "getAttr" => (first | (k_here; k_dflt (refine append_held (by k_asm) (by k_asm) (by k_mem) ?_); intro b h' tk' F' N' lt') | (refine hold_ ?_))
    k_with "exec While" => (refine hold_ ?_)
    k_with "call builtin:len" => (k_here; k_dflt (refine len_nat (by k_asm) (by repeat (first | exact hm | apply List.Mem.tail)) hz ?_); intro t' tk')
    k_steps
    unfold Hold
    have ap : Apart b _ news := apart0 (by assumption) lt'
    obtain ⟨vr, vb, xs, pb, evs, hxs, eps, hpb, hform⟩ := parts_split hp
    have hlen : vs.length = vr.length + vb.length := by rw [evs, List.length_append]
    have hvz : vr.length ≤ 1000 := by lia
    have hsep : vb.length = 0 ∨ (0 < vb.length ∧ itAt vs ((0 + vr.length : Nat) : Int) (.ref st)) := by
      rcases hform with ⟨_, e⟩ | ⟨_, vb', _, e, _⟩
      · exact .inl (by rw [e]; rfl)
      · exact .inr ⟨by rw [e]; exact Nat.succ_pos _, by rw [evs, e]; exact itAt_of (by rw [Nat.zero_add])⟩
    k_with "callWith ref" => (k_dflt (refine callW_held (by k_asm) (by k_mem) ?_))
    k_with "HeldNow" => (refine heldNow_ (News.get (by k_asm) (by k_mem)) ?_)
    k_with "WhileStep2" => (refine hold_ ?_)
    k_with "subscriptTail Name Name ref int" => (k_here; k_dflt (refine item_i (by k_asm) (by repeat (first | exact hm | apply List.Mem.tail)) hz (by assumption) ?_))
    k_with "compareOp IsNot ref ref" => (k_here; k_dflt (refine isnot_ref_same ?_))
    k_with "compareOp IsNot str ref" => (k_here; k_dflt (refine wpAny_isNot_other (by rfl) (by intro x; cases x) ?_))
    k_with "compareOp Is ref ref" => (k_here; k_dflt (refine is_ref_same ?_))
    k_with "compareOp Lt int int" => (k_dflt (first | refine lt_is (v := true) (decide_eq_true (by lia)) ?_ | refine lt_is (v := false) (decide_eq_false (by lia)) ?_))
    k_with "compareOp Eq int int" => (k_dflt (first | refine eqi_is (v := true) (beq_iff_eq.mpr (by lia)) ?_ | refine eqi_is (v := false) (beq_eq_false_iff_ne.mpr (by lia)) ?_))
    refine run_loop (NX := fun ws nn => (b, boundO _) :: (_, listOf (List.toArray ws) nn) :: news) (ws0 := []) (nn0 := 0) (k0 := 0) (vr := vr) (ps := jNames I st _ b vs.length _ []) (by k_asm) (by k_asm) (by intro p hp; repeat (first | exact hp | apply List.Mem.tail)) hxs rfl (all5 rfl rfl rfl rfl rfl) ?_ ?_ ?_
    · intro u j x t nn ti h tk hv hj F1 N1
      dsimp only [kstB] at F1
      have hit : itAt vs ((0 + j : Nat) : Int) (.str x t) := ⟨Int.natCast_nonneg _, by rw [Int.toNat_natCast, Nat.zero_add, evs, List.getElem?_append_left hj]; exact hv⟩
      k_with "call ref" => (k_here; k_dflt (refine tr_add (by k_asm) (by k_asm) ap (by intro p hp; repeat (first | exact hp | apply List.Mem.tail)) (by rw [List.length_append, List.length_take]; simp; lia) ?_); intro h' F' N')
      k_steps
      unfold Hold
      exact run_end (by k_asm) (by k_asm) hv (by intro p hp; repeat (first | exact hp | apply List.Mem.tail)) rfl (all5 rfl rfl rfl rfl rfl)
    · intro u nn ti h tk F1 N1
      dsimp only [kstB] at F1
      k_with "TestEnd" => (exact ⟨rfl, _, _, rfl, by k_asm, by k_asm⟩)
      rcases hsep with hs0 | ⟨hs1, hit⟩
      · k_steps
      · k_steps
    · intro u nn ti h tk F1 N1
      dsimp only [kstB] at F1
      k_steps
      unfold Hold
      have o0 := out_first (I := I) evs hxs eps hpb hform hadj
      refine out_loop (I := I) (st := st) (vs := vs) (news := news) (i0 := ((0 + vr.length : Nat) : Int)) (by k_asm) (by k_asm) (by intro p hp; repeat (first | exact hp | apply List.Mem.tail)) o0 (by rw [List.length_map, Nat.zero_add, hxs.len_eq]) rfl (all5 rfl rfl rfl rfl rfl) ?_
      clear o0 hsep evs hxs eps hpb hform
      intro done rest rs va vb ws nn u ti h tk o F1 N1
      dsimp only [kstB] at F1
      have hws : ws.length ≤ 1000 := by
        have h1 := o.few
        have h2 := o.txts.len_eq
        have h3 := o.elen
        have h4 : vs.length = va.length + vb.length := by rw [o.evs, List.length_append]
        lia
      have hl : vs.length = done.length + vb.length := by rw [o.evs, List.length_append, o.elen]
      k_with "call ref" => (k_here; k_dflt (refine tr_add (by k_asm) (by k_asm) ap (by intro p hp; repeat (first | exact hp | apply List.Mem.tail)) (by first | exact hws | (rw [List.length_append]; show _ + 1 ≤ _; lia)) ?_); intro h' F' N')
      obtain ⟨er, ev⟩ | ⟨pb', vb', er, ev, hp'⟩ := o.form
      · have h0 : vb.length = 0 := by rw [ev]; rfl
        have hcat : catS rs = L (headS (runsOf ps) ++ midsOf (runsOf ps).tail) := by have := o.body; rw [er] at this; rw [← this]; exact (List.append_nil _).symm
        k_with "call builtin:str.join" => (k_here; k_dflt (refine join_texts (by k_asm) (by k_mem) o.txts (body_small hB hcat) ?_); intro t' tk')
        have hX := size_is (body_small hB hcat)
        k_with "formatField str" => (k_dflt (refine PyProof.Rows.formatField_str ?_ (size_of (body_small hB hcat))); intro t' tk')
        k_with "le" => (first | exact le_ax hX (by decide +kernel) | exact le_axc hX (by decide +kernel) (by decide +kernel))
        k_steps
        exact hret _ _ _ _ (by k_asm) (cb_drop (by k_asm) (fun p hp => .tail _ (.tail _ hp))) ⟨rfl, _, congrArg (fun x => Value.str x _) (join_is (by simp only [L_app]; rfl) hcat)⟩
      · have h0 : vb.length = vb'.length + 1 := by rw [ev]; rfl
        have hit : itAt vs ((done.length : Nat) : Int) (.ref st) := by rw [o.evs, ev]; exact itAt_of (by rw [o.elen])
        cases hp' with
        | nil =>
          have h1 : vb.length = 1 := by rw [h0]; rfl
          obtain ⟨ht2, hcat⟩ := out_stepZ (x := Str.ofString ".*") (t := 0) (er ▸ ev ▸ o) rfl
          k_steps
          unfold Hold
          refine step_brk ?_
          k_with "call builtin:str.join" => (k_here; k_dflt (refine join_texts (by k_asm) (by k_mem) (o.txts.append' (.cons _ _ .nil)) (body_small hB hcat) ?_); intro t' tk')
          have hX := size_is (body_small hB hcat)
          k_with "formatField str" => (k_dflt (refine PyProof.Rows.formatField_str ?_ (size_of (body_small hB hcat))); intro t' tk')
          k_with "le" => (first | exact le_ax hX (by decide +kernel) | exact le_axc hX (by decide +kernel) (by decide +kernel))
          k_steps
          exact hret _ _ _ _ (by k_asm) (cb_drop (by k_asm) (fun p hp => .tail _ (.tail _ hp))) ⟨rfl, _, congrArg (fun x => Value.str x _) (join_is (by simp only [L_app]; rfl) hcat)⟩
        | star h => exact absurd (er ▸ o.adj) (by intro q; cases q with | more h _ => exact h ⟨rfl, rfl⟩)
        | @text x t vb2 pb2 h =>
          have h1 : vb.length = vb2.length + 2 := by rw [h0]; rfl
          have hit2 : itAt vs (((done.length : Nat) : Int) + 1) (.str x t) := by rw [o.evs, ev]; exact itAt_of (va := va ++ [.ref st]) (by rw [List.length_append, o.elen]; rfl) |> fun q => by simpa using q
          k_steps
          unfold Hold
          obtain ⟨vr, vbx, xs, pbx, ex, hxs, epx, hbx, hfx⟩ := parts_split (PartsAre.text (x := x) (t := t) h)
          have hx1 : 1 ≤ xs.length := by
            cases xs with
            | nil =>
              rcases hfx with ⟨e1, _⟩ | ⟨_, _, e1, _⟩
              · rw [e1] at epx; cases epx
              · rw [e1] at epx; cases epx
            | cons => exact Nat.succ_pos _
          have hlx : vb2.length + 1 = vr.length + vbx.length := by have := congrArg List.length ex; rw [List.length_append] at this; exact this
          have evx : vs = va ++ .ref st :: (vr ++ vbx) := by rw [o.evs, ev, ex]
          have elen := o.elen
          have hoff := off2 (by assumption : b < _ ∧ _ < _ ∧ AllLt _ news)
          refine run_loop (NX := fun ws' nn' => (_, listOf (List.toArray ws') nn') :: (b, boundO _) :: (_, listOf (List.toArray ws) nn) :: news) (ws0 := []) (nn0 := 0) (k0 := done.length + 1) (vr := vr) (ps := jNames I st _ b vs.length _ [(Str.ofString "fixed", .ref _)]) (by k_asm) (by k_asm) (by intro p hp; repeat (first | exact hp | apply List.Mem.tail)) hxs rfl (all6 rfl rfl rfl rfl rfl rfl) ?_ ?_ ?_
          · intro u j x' t' nn2 ti' h' tk' hv hj F1 N1
            dsimp only [kstB] at F1
            have hit3 : itAt vs ((done.length + 1 + j : Nat) : Int) (.str x' t') := by rw [evx]; exact itAt_in hv (by rw [elen])
            k_with "call builtin:list.append" => (k_here; k_dflt (refine ch_add (by k_asm) (by k_asm) (hoff _ _) (by intro p hp; repeat (first | exact hp | apply List.Mem.tail)) (by rw [List.length_append, List.length_take]; simp; lia) ?_); intro h' F' N')
            k_steps
            unfold Hold
            exact run_end (by k_asm) (by k_asm) hv (by intro p hp; repeat (first | exact hp | apply List.Mem.tail)) rfl (all6 rfl rfl rfl rfl rfl rfl)
          · intro u nn2 ti' h' tk' F1 N1
            dsimp only [kstB] at F1
            k_with "TestEnd" => (exact ⟨rfl, _, _, rfl, by k_asm, by k_asm⟩)
            rcases hfx with ⟨_, e1⟩ | ⟨_, vbq, _, e1, _⟩
            · have h2 : vbx.length = 0 := by rw [e1]; rfl
              k_steps
            · have h2 : vbx.length = vbq.length + 1 := by rw [e1]; rfl
              have hit3 : itAt vs ((done.length + 1 + vr.length : Nat) : Int) (.ref st) := by rw [evx, e1]; exact itAt_of (va := va ++ .ref st :: vr) (by rw [List.length_append, elen, List.length_cons]; lia) |> fun q => by simpa using q
              k_steps
          · intro u nn2 ti' h' tk' F1 N1
            dsimp only [kstB] at F1
            have oo : OutF I st vs (L (headS (runsOf ps) ++ midsOf (runsOf ps).tail)) done (none :: (xs.map some ++ pbx)) rs va (.ref st :: (vr ++ vbx)) ws := by
              have o' := o
              rw [er, ev] at o'
              rw [ex, epx] at o'
              exact o'
            have hsm : (catS xs).length ≤ 1000000 := run_small hB oo.body (by rcases hfx with ⟨e1, _⟩ | ⟨q, _, e1, _⟩; exact .inl e1; exact .inr ⟨q, e1⟩)
            have hX := size_is hsm
            have hws2 : ws.length + 1 ≤ 1000 := by
              have h1 := o.few
              have h2 := o.txts.len_eq
              lia
            k_with "call builtin:str.join" => (k_here; k_dflt (refine join_texts (by k_asm) (by k_mem) hxs hsm ?_); intro t' tk')
            k_with "formatField str" => (k_dflt (refine PyProof.Rows.formatField_str ?_ (size_of hsm)); intro t' tk')
            k_with "le" => (first | exact le_ax hX (by decide +kernel) | exact le_axc hX (by decide +kernel) (by decide +kernel))
            rcases hfx with ⟨e1, e2⟩ | ⟨q, vbq, e1, e2, hq⟩
            · have h2 : vbx.length = 0 := by rw [e2]; rfl
              subst e1 e2
              rw [List.append_nil, List.append_nil] at oo
              k_steps
              unfold Hold
              exact out_end (i := ((done.length + 1 + vr.length : Nat) : Int)) (by k_asm) (by k_asm) (out_stepA oo hxs rfl rfl hx1) (by rw [er]; exact Nat.succ_pos _) (by intro p hp; repeat (first | exact hp | apply List.Mem.tail)) (by rw [List.length_append, List.length_cons, List.length_map, ← hxs.len_eq]; lia) rfl (all5 rfl rfl rfl rfl rfl)
            · have h2 : vbx.length = vbq.length + 1 := by rw [e2]; rfl
              subst e1 e2
              k_steps
              unfold Hold
              exact out_end (i := ((done.length + 1 + vr.length : Nat) : Int)) (by k_asm) (by k_asm) (out_stepB (G := Str.empty ++ Str.ofString "(?>.*?" ++ ⟨(catS xs).toArray⟩ ++ Str.ofString ")") oo hxs (.star hq) (by simp only [L_app]; rfl)) (by rw [er, epx, List.length_cons, List.length_cons, List.length_append, List.length_cons]; lia) (by intro p hp; repeat (first | exact hp | apply List.Mem.tail)) (by rw [List.length_append, List.length_cons, List.length_map, ← hxs.len_eq]; lia) rfl (all5 rfl rfl rfl rfl rfl)
end Mine
end
section
open PySem PySem.W PyProof.Rows PySem.Calls
set_option Elab.async false
namespace Mine
/-! ## a comprehension over a list of any length -/
inductive All2 (R : Value → Value → Prop) : List Value → List Value → Prop
  | nil : All2 R [] []
  | cons {v y : Value} {vs ys : List Value} : R v y → All2 R vs ys → All2 R (v :: vs) (y :: ys)
theorem All2.snoc {R : Value → Value → Prop} {vs ys : List Value} {v y : Value} (h : All2 R vs ys) (k : R v y) : All2 R (vs ++ [v]) (ys ++ [y]) := by
  induction h with
  | nil => exact .cons k .nil
  | cons h _ ih => exact .cons h ih
section
variable {prog : Program} {w : World} {A : Around} {s : Shared} {h₀ : Heap} {L₀ : Addr} {m : Str → Option Value} {env : Env}
/-- a turn's end -/
def TurnEnd (h₀ : Heap) (L₀ : Addr) (m : Str → Option Value) (s : Shared) (big : List (Addr × Obj)) (R : Value → Prop) (y : Value) (s₂ : Shared) : Prop := R y ∧ ∃ h' tk', s₂ = { s with heap := h', toks := tk' } ∧ Fr h₀ L₀ h' m ∧ News h₀ L₀ h' big
theorem comp_map {elt : PySem.Expr} {x : Str} {scope : Scope} {cl : List (Str × Addr)} {ax : Addr} {its : List Value} {news : List (Addr × Obj)} {R : Value → Value → Prop} {Fin : List Value → List (Addr × Obj) → Prop} (hS : LCg.SrcAt h₀ ax its.toArray news)
    (turn : ∀ v I oI C oC D ys m₂ h tk (E' : Value → Shared → Prop), v ∈ its → LCg.NsObj oC m₂ → m₂ x = some v → Fr h₀ L₀ h m → News h₀ L₀ h ((I, oI) :: (C, oC) :: (D, LCg.lst ys) :: news) →
      wpAny (model prog w) A (eval elt (compEnvC scope cl C env)) (TurnEnd h₀ L₀ m s ((I, oI) :: (C, oC) :: (D, LCg.lst ys) :: news) (R v)) E' { s with heap := h, toks := tk })
    (fin : ∀ ys, All2 R its ys → Fin ys news) : LCg.CompRest prog w A h₀ L₀ m env elt x scope cl s (LCg.SrcAt h₀ ax its.toArray) (fun i v => its.toArray[i]? = some v) Fin its.toArray.size 0 [] news := by
  have key : ∀ (k i : Nat) (ys : List Value), i + k = its.length → All2 R (its.take i) ys → LCg.CompRest prog w A h₀ L₀ m env elt x scope cl s (LCg.SrcAt h₀ ax its.toArray) (fun i v => its.toArray[i]? = some v) Fin k i ys news := by
    intro k
    induction k with
    | zero =>
      intro i ys hi ha
      rw [List.take_of_length_le (by omega)] at ha
      exact fin ys ha
    | succ k ih =>
      intro i ys hi ha
      refine LCg.CompRest.succ fun v I oI C oC D m₂ h tk E' hv hC hx F N off hne => ?_
      have hv' : its[i]? = some v := by simpa using hv
      refine wpAny_mono (turn v I oI C oC D ys m₂ h tk E' (List.mem_of_getElem? hv') hC hx F N) (fun y s₂ h₂ => ?_) fun _ _ e => e
      obtain ⟨hR, h', tk', rfl, F', N'⟩ := h₂
      refine ⟨h', tk', news, rfl, F', N', off, hS, ih (i + 1) (ys ++ [y]) (by omega) ?_⟩
      rw [take_more hv']
      exact ha.snoc hR
  have := key its.length 0 [] (by omega) .nil
  rw [List.size_toArray]
  exact this
end
end Mine
end
section
open PySem PySem.W PyProof.Rows PySem.Calls
set_option Elab.async false
namespace Mine
/-! ## _law_text: sizes, and the comprehensions' lists -/
/-- a value that is `f` of a text -/
abbrev MapR (f : Str → Str) (v y : Value) : Prop := ∀ x t, v = .str x t → ∃ t', y = .str (f x) t'
theorem All2.strs {f : Str → Str} {vs ys : List Value} {xs : List Str} (h : All2 (MapR f) vs ys) (k : StrsAre vs xs) : StrsAre ys (xs.map f) := by
  induction h generalizing xs with
  | nil => cases k; exact .nil
  | cons h _ ih =>
    cases k with
    | cons x t k =>
      obtain ⟨t', rfl⟩ := h x t rfl
      exact .cons _ _ (ih k)
theorem strs_mem {vs : List Value} {xs : List Str} (h : StrsAre vs xs) {v : Value} (hv : v ∈ vs) : ∃ x t, v = .str x t ∧ x ∈ xs := by
  induction h with
  | nil => cases hv
  | cons x t _ ih =>
    rcases List.mem_cons.mp hv with rfl | hv
    · exact ⟨x, t, rfl, .head _⟩
    · obtain ⟨y, u, rfl, hy⟩ := ih hv
      exact ⟨y, u, rfl, .tail _ hy⟩
theorem strs_last {vs : List Value} {xs : List Str} (h : StrsAre vs xs) : (xs = [] ∧ vs = []) ∨ ∃ l t, vs.getLast? = some (.str l t) ∧ xs.getLast? = some l ∧ l ∈ xs ∧ 1 ≤ vs.length := by
  induction h with
  | nil => exact .inl ⟨rfl, rfl⟩
  | @cons x t vs xs h ih =>
    rcases ih with ⟨rfl, rfl⟩ | ⟨l, t', h1, h2, h3, _⟩
    · exact .inr ⟨x, t, rfl, rfl, .head _, Nat.le_refl _⟩
    · refine .inr ⟨l, t', ?_, ?_, .tail _ h3, Nat.succ_pos _⟩
      · rw [List.getLast?_cons, h1]; rfl
      · rw [List.getLast?_cons, h2]; rfl
def wt : List (Option Str) → Nat
  | [] => 0
  | none :: r => 8 + wt r
  | some x :: r => (L x).length + wt r
def wtR : List Str → Nat
  | [] => 0
  | x :: r => 8 + (L x).length + wtR r
theorem wt_runs : ∀ ps : List (Option Str), wtR (runsOf ps) = 8 + wt ps
  | [] => by decide +kernel
  | none :: r => by
    show 8 + (L (Str.ofString "")).length + wtR (runsOf r) = 8 + (8 + wt r)
    have e : L (Str.ofString "") = [] := by decide +kernel
    rw [wt_runs r, e, List.length_nil]
  | some x :: r => by
    have ih := wt_runs r
    cases h : runsOf r with
    | nil => exact absurd h (runs_ne r)
    | cons a t =>
      rw [runs_some h]
      rw [h] at ih
      show 8 + (L (x ++ a)).length + wtR t = 8 + ((L x).length + wt r)
      have ih' : 8 + (L a).length + wtR t = 8 + wt r := ih
      rw [L_app, List.length_append]; lia
theorem mids_small : ∀ t : List Str, (L (midsOf t)).length ≤ wtR t
  | [] => by decide +kernel
  | [a] => by
    show (L (Str.ofString ".*" ++ a)).length ≤ 8 + (L a).length + 0
    have e : (L (Str.ofString ".*")).length = 2 := by decide +kernel
    rw [L_app, List.length_append, e]; lia
  | a :: b :: t => by
    show (L ((Str.ofString "(?>.*?" ++ a ++ Str.ofString ")") ++ midsOf (b :: t))).length ≤ 8 + (L a).length + wtR (b :: t)
    have e1 : (L (Str.ofString "(?>.*?")).length = 6 := by decide +kernel
    have e2 : (L (Str.ofString ")")).length = 1 := by decide +kernel
    have := mids_small (b :: t)
    simp only [L_app, List.length_append, e1, e2]; lia
theorem join_small (ps : List (Option Str)) : (L (joinOf ps)).length ≤ 20 + wt ps := by
  have e1 : (L (Str.ofString "(?s:")).length = 4 := by decide +kernel
  have e2 : (L (Str.ofString ")\\Z")).length = 3 := by decide +kernel
  have h := wt_runs ps
  cases hr : runsOf ps with
  | nil => exact absurd hr (runs_ne _)
  | cons a t =>
    have e3 : joinOf ps = Str.ofString "(?s:" ++ (a ++ midsOf t) ++ Str.ofString ")\\Z" := by unfold joinOf; rw [hr]; rfl
    have h2 := mids_small t
    rw [hr] at h
    have h3 : 8 + (L a).length + wtR t = 8 + wt ps := h
    rw [e3]
    simp only [L_app, List.length_append, e1, e2]; lia
theorem opt_wt (r : Str) (h : (L r).length ≤ 10) (ps : List (Option Str)) : wt (optOf r :: ps) ≤ 10 + wt ps := by
  unfold optOf
  split
  · show 8 + wt ps ≤ _; lia
  · show (L r).length + wt ps ≤ _; lia
theorem wt_opt : ∀ (due : List Str), (∀ r ∈ due, (L r).length ≤ 10) → wt (due.map optOf) ≤ 10 * due.length
  | [], _ => Nat.le_refl _
  | r :: due, h => by
    have := wt_opt due fun q hq => h q (.tail _ hq)
    have h2 := opt_wt r (h r (.head _)) (due.map optOf)
    rw [List.map_cons, List.length_cons]; lia
theorem cat_small {f : Str → Str} (due : List Str) (h : ∀ r ∈ due, (L (f r)).length ≤ 10) : (catS (due.map f)).length ≤ 10 * due.length := by
  induction due with
  | nil => exact Nat.le_refl _
  | cons r due ih =>
    have := ih fun q hq => h q (.tail _ hq)
    have h2 := h r (.head _)
    have e : catS ((r :: due).map f) = L (f r) ++ catS (due.map f) := by simp [catS]
    rw [e, List.length_append, List.length_cons]; lia
theorem nl_small {r : Str} (h : (L r).length ≤ 10) : (L (nlOf r)).length ≤ 10 := by
  unfold nlOf
  split
  · decide +kernel
  · exact h
theorem mid_wt : ∀ t : List Str, (catS (t.map midW)).length ≤ wtR t
  | [] => by decide +kernel
  | a :: t => by
    have := mid_wt t
    have e : catS ((a :: t).map midW) = L (midW a) ++ catS (t.map midW) := by simp [catS]
    have e1 : (L (Str.ofString "(?>.*?")).length = 6 := by decide +kernel
    have e2 : (L (Str.ofString ")")).length = 1 := by decide +kernel
    show _ ≤ 8 + (L a).length + wtR t
    have e3 : L (midW a) = L (Str.ofString "(?>.*?") ++ L a ++ L (Str.ofString ")") := by unfold midW; rw [L_app, L_app]
    rw [e, e3]
    simp only [List.length_append, e1, e2]; lia
theorem wtR_take : ∀ (t : List Str) (n : Nat), wtR (t.take n) ≤ wtR t
  | [], _ => by simp
  | _ :: _, 0 => Nat.zero_le _
  | a :: t, n + 1 => by
    have := wtR_take t n
    show 8 + (L a).length + wtR (t.take n) ≤ 8 + (L a).length + wtR t
    lia
theorem wtR_mem {t : List Str} {q : Str} (h : q ∈ t) : (L q).length ≤ wtR t := by
  induction t with
  | nil => cases h
  | cons a t ih =>
    show _ ≤ 8 + (L a).length + wtR t
    rcases List.mem_cons.mp h with rfl | h
    · lia
    · have := ih h; lia
theorem wtR_len (t : List Str) : t.length ≤ wtR t := by
  induction t with
  | nil => exact Nat.le_refl _
  | cons a t ih => show _ ≤ 8 + (L a).length + wtR t; rw [List.length_cons]; lia
theorem told_is {ps : List (Option Str)} {a x : Str} {t : List Str} {e : List Nat} (hr : runsOf ps = a :: t) (he : (t = [] ∧ e = []) ∨ ∃ l, t.getLast? = some l ∧ e = L (Str.ofString ".*") ++ L l)
    (hx : L x = L (Str.ofString "(?s:") ++ (L a ++ catS ((t.take (t.length - 1)).map midW)) ++ e ++ L (Str.ofString ")\\Z")) : x = joinOf ps := by
  apply L_inj
  have e3 : joinOf ps = Str.ofString "(?s:" ++ (a ++ midsOf t) ++ Str.ofString ")\\Z" := by unfold joinOf; rw [hr]; rfl
  rw [e3, hx]
  simp only [L_app]
  rcases he with ⟨rfl, rfl⟩ | ⟨l, hl, rfl⟩
  · have e4 : L (midsOf []) = [] := by decide +kernel
    have e5 : catS ((List.take (([] : List Str).length - 1) ([] : List Str)).map midW) = [] := rfl
    rw [e4, e5]; simp
  · have hne : t ≠ [] := fun q => by subst q; cases hl
    rw [L_mids t hne, hl]
    simp
theorem split_told (due : List Str) (h : ∀ r ∈ due, noLf (L r)) : Txt.split ⟨(catS (due.map nlOf)).toArray⟩ (Str.ofString "\n") = runsOf (due.map optOf) := by
  have e := told_runs due h
  unfold toldRuns at e
  have e2 : Txt.join ⟨#[]⟩ (due.map nlOf) = ⟨(catS (due.map nlOf)).toArray⟩ := glued_empty _
  rw [e2] at e
  exact e
theorem mapR_of {f : Str → Str} {x z : Str} {t u : Tok} (e : f x = z) : MapR f (.str x t) (.str z u) := fun _ _ k => by cases k; exact ⟨u, by rw [e]⟩
theorem small_app {a b : Str} {p q : Nat} (ha : a.length ≤ p) (hb : b.length ≤ q) : (a ++ b).length ≤ p + q := by rw [Str.length_append]; lia
theorem len_L' {x : Str} {n : Nat} (h : (L x).length ≤ n) : x.length ≤ n := by rw [len_L]; exact h
section
variable {prog : Program} {w : World} {A : Around} {E : Value → Shared → Prop} {s : Shared} {h₀ : Heap} {L₀ : Addr} {m : Str → Option Value} {news : List (Addr × Obj)} {Q : Value → Shared → Prop} {t u : Tok}
theorem split_runs (F : Fr h₀ L₀ s.heap m) (N : News h₀ L₀ s.heap news) {due : List Str} (hn : ∀ r ∈ due, noLf (L r)) (hr : ∀ r ∈ due, (L r).length ≤ 10) (hz : due.length ≤ 40)
    (h : ∀ D a ta r vr h' k, runsOf (due.map optOf) = a :: r → StrsAre vr r → r.length ≤ 900 → wtR r ≤ 900 → a.length ≤ 900 → (Value.str a ta :: vr).length ≤ 1000 → Fr h₀ L₀ h' m → News h₀ L₀ h' ((D, listOf (List.toArray (.str a ta :: vr)) 0) :: news) → Q (.ref D) { s with heap := h', toks := k }) :
    wpAny (model prog w) A (call (.builtin "str.split") [.str ⟨(catS (due.map nlOf)).toArray⟩ t, .str (Str.ofString "\n") u]) Q E s := by
  have hc1 : (catS (due.map nlOf)).length ≤ 1000 := Nat.le_trans (cat_small due fun r h => nl_small (hr r h)) (by lia)
  have hwt := wt_runs (due.map optOf)
  have hwo := wt_opt due hr
  refine KSpl.split1 F N (by decide) (fun D l h' k e hs F' N' _ => ?_) ?_
  · rw [split_told due hn] at e
    rw [e] at hs
    generalize strValues l = vs at hs N'
    cases hr : runsOf (due.map optOf) with
    | nil => exact absurd hr (runs_ne _)
    | cons a r =>
      rw [hr] at hs hwt
      have hw : 8 + (L a).length + wtR r = 8 + wt (due.map optOf) := hwt
      have h1 := wtR_len r
      have h2 := hs.len_eq
      rw [List.length_cons] at h2
      cases hs with
      | cons x ta hs => exact h D a ta r _ h' k hr hs (by lia) (by lia) (len_L' (by lia)) (by lia) F' N'
  · show (catS (due.map nlOf)).toArray.size + 2 ≤ _
    rw [List.size_toArray, sizeLine_eq]; lia
theorem gt_is {a c : Int} {v : Bool} (e : decide (c < a) = v) (h : Q (.bool v) s) : wpAny (model prog w) A (compareOp .Gt (.int a t) (.int c u)) Q E s := PyProof.Rows.gt_int (by rw [e]; exact h)
/-- the inner runs: [1:-1] -/
theorem slice_inner {a : Str} {r : List Str} {xs : List Value} {value slice : PySem.Expr} {vl vu : Value} {l : Addr} {n : Nat} (F : Fr h₀ L₀ s.heap m) (N : News h₀ L₀ s.heap news) (hl : (l, listOf xs.toArray n) ∈ news) (pl : IsPart vl (some 1)) (pu : IsPart vu (some (-1))) (hs : StrsAre xs (a :: r)) (hz : r.length ≤ 900)
    (h : ∀ D ws h', Fr h₀ L₀ h' m → News h₀ L₀ h' ((D, listOf (List.toArray ws) 0) :: news) → (∀ p ∈ news, p.1 < D) → StrsAre ws (r.take (r.length - 1)) → Q (.ref D) { s with heap := h' })
    (hs1 : subscripted slice false (.ref l) (.ref s.heap.objs.size) = operate [.ref s.heap.objs.size, .ref l] (getItem (.ref l) (.ref s.heap.objs.size)) := by with_unfolding_all rfl) (ht : ∀ r, letTemporaryGo value (.ref l) r = pure () := by intro _; with_unfolding_all rfl) :
    wpAny (model prog w) A (subscriptTail value slice (.ref l) (.ref s.heap.objs.size)) Q E { s with heap := s.heap.push { cls := .type "slice", data := .fields #[vl, vu, .none] } } := by
  refine slice_strs F N hl pl pu hs (inner1 _) (by rw [List.length_cons]; lia) (fun D ws h' F' N' lt q => h D ws h' F' N' lt ?_) hs1 ht
  rw [List.length_cons] at q
  have e1 : min 1 (r.length + 1) = 1 := by lia
  rw [e1] at q
  have e2 : r.length + 1 - 1 - 1 = r.length - 1 := by lia
  rw [e2] at q
  exact q
end
end Mine
end
section
open PySem PySem.W PyProof.Rows PySem.Calls
set_option Elab.async false
namespace Mine
set_option maxRecDepth 100000 in
set_option maxHeartbeats 8000000 in
theorem text_claim (w : World) (news : List (Addr × Obj)) (I : Addr) (vs : List Value) (n : Nat) (due : List Str) (hm : (I, listOf vs.toArray n) ∈ news) (hs : StrsAre vs due) (hz : due.length ≤ 40) (hr : ∀ r ∈ due, (L r).length ≤ 10) (hn : ∀ r ∈ due, noLf (L r)) :
    ClaimN 3 w 105 news [.ref I] (fun r news' => news' = news ∧ ∃ t, r = .str (joinOf (due.map optOf)) t) := by
    k_with_none
    intro p loose mean mg mb dp un gd cn cs a ccd cl outer A₀ base h₀ L₀ m s Q E B F X N T C hk hdp hu hret
    refine wpAny_call ?_
    k_dflt cell_enter
    k_with "eval ListComp" => (k_here; k_dflt (refine LCg.ListComp_U (F₀ := by k_asm) (by with_unfolding_all rfl) (by decide) (by rfl) (by decide) (by rfl) ?_))
    k_with "CompSrc" => (refine hold_ ?_)
    k_steps
    unfold Hold
    have hvl : vs.length ≤ 1000 := by rw [hs.len_eq]; omega
    refine LCg.CompSrc.ledger rfl (by k_asm) (by k_asm) hm (by rw [List.size_toArray]; exact Nat.le_trans hvl (by decide)) fun g => comp_map (its := vs) (R := MapR nlOf) (.inr ⟨_, hm, rfl, _, rfl⟩) ?_ ?_
    · intro v I' oI C' oC D ys m₂ h tk E' hv hC hx F1 N1
      obtain ⟨x, t, rfl, hxm⟩ := strs_mem hs hv
      k_with "TurnEnd" => (refine hold_ ?_)
      by_cases hx0 : (x == Str.ofString "") = true
      · k_with "compareOp Eq str str" => (k_here; k_dflt (refine eq_is hx0 ?_))
        k_steps
        unfold Hold
        exact ⟨mapR_of (if_pos hx0), _, _, rfl, by k_asm, by k_asm⟩
      · k_with "compareOp Eq str str" => (k_here; k_dflt (refine eq_is (eq_false_of_ne_true hx0) ?_))
        k_steps
        unfold Hold
        exact ⟨mapR_of (if_neg hx0), _, _, rfl, by k_asm, by k_asm⟩
    · intro ys hys D h tk F1 N1 off1
      have hsy := hys.strs hs
      have hc1 : (catS (due.map nlOf)).length ≤ 1000 := Nat.le_trans (cat_small due fun r h => nl_small (hr r h)) (by omega)
      k_with "call builtin:str.join" => (k_here; k_dflt (refine join_texts (by k_asm) (.head _) hsy (Nat.le_trans hc1 (by decide)) ?_); intro t' tk')
      k_with "call builtin:str.split" => (k_here; k_dflt (refine split_runs (by k_asm) (by k_asm) hn hr hz ?_); intro D' a ta r vr h' tk' hrn hvr hrl hrw hal hvz F' N')
      k_with "subscriptTail Name Slice ref ref" => (k_here; k_dflt (refine slice_inner (by k_asm) (by k_asm) (.head _) (by kmk_part) (by kmk_part) (.cons _ _ (by assumption)) (by assumption) ?_); intro D2 ws h'' F' N' l1 hws)
      k_with "subscriptTail Name Constant ref int" => (k_here; k_dflt (refine item_nat (k := 0) (by k_asm) (.head _) (by assumption) rfl ?_))
      k_steps
      unfold Hold
      have hwl : ws.length ≤ 1000 := by rw [hws.len_eq, List.length_take]; omega
      refine LCg.CompSrc.ledger rfl (by k_asm) (by k_asm) (.head _) (by rw [List.size_toArray]; exact Nat.le_trans hwl (by decide)) fun g => comp_map (its := ws) (R := MapR midW) (.inr ⟨_, .head _, rfl, _, rfl⟩) ?_ ?_
      · intro v I' oI C' oC D ys m₂ h tk E' hv hC hx F1 N1
        obtain ⟨x, t, rfl, hxm⟩ := strs_mem hws hv
        have hxl : x.length ≤ 900 := len_L' (Nat.le_trans (wtR_mem (List.mem_of_mem_take hxm)) hrw)
        k_with "TurnEnd" => (refine hold_ ?_)
        k_with "le" => (exact Nat.le_trans (by repeat (first | assumption | refine small_app ?_ ?_ | exact (show Str.length _ ≤ 1000 by decide +kernel))) (show _ ≤ sizeLine by decide +kernel))
        k_steps
        unfold Hold
        exact ⟨mapR_of rfl, _, _, rfl, by k_asm, by k_asm⟩
      · intro zs hzs D3 h tk F1 N1 off2
        have hsz := hzs.strs hws
        have hc2 : (catS ((r.take (r.length - 1)).map midW)).length ≤ 900 := Nat.le_trans (mid_wt _) (Nat.le_trans (wtR_take _ _) hrw)
        have hc3 : (⟨(catS ((r.take (r.length - 1)).map midW)).toArray⟩ : Str).length ≤ 900 := by show (catS _).toArray.size ≤ _; rw [List.size_toArray]; exact hc2
        k_with "call builtin:str.join" => (k_here; k_dflt (refine join_texts (by k_asm) (.head _) hsz (Nat.le_trans hc2 (by decide)) ?_); intro t' tk')
        k_with "le" => (exact Nat.le_trans (by repeat (first | assumption | refine small_app ?_ ?_ | exact (show Str.length _ ≤ 1000 by decide +kernel))) (show _ ≤ sizeLine by decide +kernel))
        k_with "call builtin:len" => (refine hold_ ?_)
        k_steps
        unfold Hold
        refine len_nat (by k_asm) (.tail _ (.tail _ (.head _))) hvz fun t' tk' => ?_
        rcases strs_last hvr with ⟨hr0, hv0⟩ | ⟨l, tl, hv0, hr0, hlm, hv1⟩
        · subst hr0 hv0
          k_with "compareOp Gt int int" => (k_here; k_dflt (refine gt_is (v := false) (decide_eq_false (by intro q; exact absurd q (Int.lt_irrefl _))) ?_))
          k_steps
          exact hret _ _ _ _ (by k_asm) (cb_drop (by k_asm) (fun p hp => .tail _ (.tail _ (.tail _ (.tail _ hp))))) ⟨rfl, _, congrArg (fun x => Value.str x _) (told_is hrn (.inl ⟨rfl, rfl⟩) (by simp only [L_app, List.append_assoc]; rfl))⟩
        · have e2 : (Value.str a ta :: vr).getLast? = some (.str l tl) := by rw [List.getLast?_cons, hv0]; rfl
          have hll : l.length ≤ 900 := len_L' (Nat.le_trans (wtR_mem hlm) hrw)
          k_with "compareOp Gt int int" => (k_here; k_dflt (refine gt_is (v := true) (decide_eq_true (by rw [List.length_cons]; omega)) ?_))
          k_with "subscriptTail Name UnaryOp ref int" => (k_here; k_dflt (refine last_item (by k_asm) (.tail _ (.tail _ (.head _))) e2 ?_))
          k_steps
          exact hret _ _ _ _ (by k_asm) (cb_drop (by k_asm) (fun p hp => .tail _ (.tail _ (.tail _ (.tail _ hp))))) ⟨rfl, _, congrArg (fun x => Value.str x _) (told_is hrn (.inr ⟨l, hr0, rfl⟩) (by simp only [L_app, List.append_assoc]))⟩
end Mine
end
section
open PySem PySem.W PyProof.Rows PySem.Calls
set_option Elab.async false
set_option maxRecDepth 100000
namespace Mine
/-! ## object() -/
theorem obj_mro : mroOf (.type "object") = pure [.type "object"] := by kernel_rfl
theorem obj_new : typeLookup (.type "object") "__new__" = pure (some (.builtin "object.__new__")) := by rw [typeLookup_type, builtinLookup_eq_fast]; kernel_rfl
theorem obj_sub : isSubtype (.type "object") (.type "object") = pure true := by rw [isSubtype_type]; kernel_rfl
theorem obj_init : Slot "object" "__init__" "object.__init__" :=
  .of (owner := "object") (n := "__init__") (by rw [typeLookup_type, builtinLookup_eq_fast]; kernel_rfl) (by decide +kernel) (by decide +kernel) (by decide +kernel)
    (by first | exact .inl (by decide +kernel) | exact .inr (by decide +kernel)) obj_sub
theorem obj_called : TypeCalled "object" "object.__new__" "object.__init__" :=
  ⟨by decide +kernel, by decide +kernel, ⟨_, _, obj_mro⟩, madeBy_type obj_mro obj_new (by decide +kernel), by decide +kernel, obj_sub, obj_init⟩
theorem obj_typeCall : checkTypeCall "object" ⟨[], []⟩ = pure () := by kernel_rfl
theorem obj_newCall : checkBuiltinCall "object.__new__" ⟨[.type "object"], []⟩ = pure () := by kernel_rfl
theorem obj_plain : plainId "object.__new__" = true := by decide +kernel
theorem obj_made : Bind.madeHere "object.__new__" (.type "object") = pure () := by kernel_rfl
section
variable {prog : Program} {w : World} {A : Around} {E : Value → Shared → Prop} {s : Shared}
theorem call_obj0 {Q : Value → Shared → Prop} (h : Q (.ref s.heap.objs.size) { s with heap := s.heap.push { cls := .type "object", data := .plain } }) :
    wpAny (model prog w) A (call (.type "object") []) Q E s := by
  refine callType_codes (T := "object") (Bi := Builtin.«object.__init__») (Q₁ := fun r s₁ => s₁.TypeIs r "object" ∧ Q r s₁) obj_called obj_typeCall PySem.F.entry_object_init ?_ ?_
  · refine codeAny_of_tree ?_
    show wpAny _ A.in1.in1 (do checkBuiltinCall "object.__new__" ⟨[.type "object"], []⟩; again (.builtin "object.__new__" ⟨[.type "object"], []⟩)) _ _ s
    refine wpAny_bind (wpAny_of_eq obj_newCall (wpAny_pure ⟨plainId_quiet obj_plain _, codeAny_builtin F.objNew.entry ?_⟩))
    rw [Around.under_plainId obj_plain _]
    unfold Builtin.«object.__new__»
    have hm := obj_made
    obtain ⟨hp, g, d, tk, os⟩ := s
    repeat (first | (refine wpAny_bind (wpAny_of_eq hm ?_)) | wp_step)
    exact ⟨⟨_, Heap.get?_push_size _ rfl, rfl⟩, h⟩
  · rintro obj s₁ ⟨hT, hq⟩
    exact ⟨hT, PySem.F.args_object_init_1 _, wpAny_pure ⟨rfl, hq⟩⟩
theorem call_obj {Q : Value → Shared → Prop} {h₀ : Heap} {L : Addr} {m : Str → Option Value} {news : List (Addr × Obj)} (F : Fr h₀ L s.heap m) (N : News h₀ L s.heap news)
    (h : ∀ S h', Fr h₀ L h' m → News h₀ L h' ((S, { cls := .type "object", data := .plain }) :: news) → (∀ p ∈ news, p.1 < S) → Q (.ref S) { s with heap := h' }) :
    wpAny (model prog w) A (call (.type "object") []) Q E s := by
  refine call_obj0 (h _ _ (F.keeps fun _ _ e => Heap.get?_push_of_some _ e) (fun p hp => ?_) fun p hp => Heap.lt_size (N p hp).1)
  rcases List.mem_cons.mp hp with rfl | hp
  · exact ⟨Heap.get?_push_size _ rfl, Ne.symm (Nat.ne_of_lt F.ns.lt), next_is_new F⟩
  · exact (N.grown fun _ _ e => Heap.get?_push_of_some _ e) p hp
end
end Mine
end
section
open PySem PySem.W PyProof.Rows PySem.Calls
set_option Elab.async false
namespace Mine
theorem parts_len {st : Addr} {vs : List Value} {ps : List (Option Str)} (h : PartsAre st vs ps) : vs.length = ps.length := by
  induction h with
  | nil => rfl
  | star _ ih => rw [List.length_cons, List.length_cons, ih]
  | text _ ih => rw [List.length_cons, List.length_cons, ih]
set_option maxRecDepth 100000 in
set_option maxHeartbeats 8000000 in
theorem translate_claim (w : World) (front tl : List (Addr × Obj)) (hT : TabL tl) (hfr : ∀ q ∈ front, q.1 ≠ 74) (pat : Str) (t1 : Tok) (hz : pat.length ≤ 1000) (ts : List Tk) (hts : pat.cps.toList = textOf ts) (hok : ts.all tkOk = true)
    (hadj : Adj (fun (a b : Option Str) => ¬ (a = none ∧ b = none)) (partsOf (Str.ofString ".") ts)) (hpl : (partsOf (Str.ofString ".") ts).length ≤ 1000) (hB : (L (joinOf (partsOf (Str.ofString ".") ts))).length ≤ 100000) :
    ClaimG 6 w 60 (front ++ tl) [.str pat t1] (fun r news' => ∃ tl' t, TabL tl' ∧ news' = front ++ tl' ∧ r = .str (joinOf (partsOf (Str.ofString ".") ts)) t) := by
    k_with_none
    intro p loose mean mg mb dp un gd cn cs a ccd cl outer A₀ base h₀ L₀ m s Q E B F X N T C hk hdp hu hret
    refine wpAny_call ?_
    k_dflt cell_enter
    k_with "call type:object" => (k_here; k_dflt (refine call_obj (by k_asm) (by k_asm) ?_); intro S h' F' N' lt')
    k_with "call ref" => (refine hold_ ?_)
    k_steps
    unfold Hold
    have C1 := C.keeps (Fr.keep (by assumption : Fr h₀ L₀ _ m))
    obtain ⟨o74, h74⟩ := hT.at
    have hS : S ≠ 74 := fun e => absurd (lt' (74, o74) (List.mem_append_right _ h74)) (by rw [e]; exact Nat.lt_irrefl _)
    have hfr' : ∀ q ∈ (S, ({ cls := .type "object", data := .plain } : Obj)) :: front, q.1 ≠ 74 := fun q hq => (List.mem_cons.mp hq).elim (fun e => e ▸ hS) (hfr q)
    k_dflt (refine' trans_claim _ ((S, { cls := .type "object", data := .plain }) :: front) tl hT hfr' pat _ S _ _ hz ts hts hok _ _ _ _ _ _ _ _ _ _ _ _ _ _ _ _ _ _ _ _ _ _ ?B ?F ?X ?N ?T ?C ?k ?d ?u ?R; (case B => k_asm); (case F => k_asm); (case X => k_asm); (case N => k_asm); (case T => k_asm); (case C => exact C1); (case k => first | exact rfl | assumption); (case d => ktr_room); (case u => ktr_units))
    rintro _ h' tk' g' _ hg F' N' ⟨D, vs, nn, tl', rfl, rfl, hT', hps⟩
    have hvl : vs.length ≤ 1000 := by rw [parts_len hps]; exact hpl
    k_steps
    unfold Hold
    k_dflt (refine' join_claim _ _ D S vs nn (partsOf (Str.ofString ".") ts) (.head _) hps hadj hvl hB _ _ _ _ _ _ _ _ _ _ _ _ _ _ _ _ _ _ _ _ _ _ ?B2 ?F2 ?X2 ?N2 ?T2 ?C2 ?k2 ?d2 ?u2 ?R2; (case B2 => k_asm); (case F2 => k_asm); (case X2 => k_asm); (case N2 => k_asm); (case T2 => k_asm); (case C2 => exact C1); (case k2 => first | exact rfl | assumption); (case d2 => ktr_room); (case u2 => ktr_units))
    rintro _ h' tk' _ F' N' ⟨rfl, t', rfl⟩
    k_steps
    exact hret _ _ _ _ _ hg (by k_asm) (cb_drop (by k_asm) (fun p hp => .tail _ (.tail _ hp))) ⟨tl', _, hT', rfl, rfl⟩
end Mine
end
section
open PySem PySem.W PyProof.Rows PySem.Calls
set_option Elab.async false
namespace Mine
/-! ## law: the ledger's entries are not the table -/
def NotTab (o : Obj) : Prop := ∀ ps, o ≠ tabObj ps
theorem nt_data {o : Obj} (h : ∀ ps, o.data ≠ .fields ps) : NotTab o := fun ps e => h ps (by rw [e])
theorem nt_list (a : Array Value) (n : Nat) : NotTab (listOf a n) := fun ps e => by cases e
theorem nt_lst (l : List Value) : NotTab (LCg.lst l) := fun ps e => by cases e
theorem nt_cell {o : Obj} {v : Option Value} (h : o.data = .cell v) : NotTab o := fun ps e => by rw [e] at h; cases h
theorem nt_tup (vs : List Value) : NotTab (tupO vs) := fun ps e => by cases e
theorem front_ne {h₀ h : Heap} {L : Addr} {front tl : List (Addr × Obj)} (N : News h₀ L h (front ++ tl)) (hT : TabL tl) (hf : ∀ q ∈ front, NotTab q.2) : ∀ q ∈ front, q.1 ≠ 74 := fun q hq e => by
  obtain ⟨ps, codes, rfl, _⟩ := hT
  have h1 := (N q (List.mem_append_left _ hq)).1
  have h2 := (N (74, tabObj ps) (List.mem_append_right _ (.head _))).1
  rw [e] at h1
  exact hf q hq ps (Option.some.inj (h1.symm.trans h2))
section
variable {prog : Program} {w : World} {A : Around} {E : Value → Shared → Prop} {s : Shared} {h₀ : Heap} {L₀ D : Addr} {m : Str → Option Value} {news : List (Addr × Obj)} {Q : Value → Shared → Prop} {t u : Tok}
theorem mark_item {a b c : Str} {t1 t2 t3 : Tok} {k : Int} {n : Nat} {value slice : PySem.Expr} (N : News h₀ L₀ s.heap news) (hm : (D, listOf #[.str a t1, .str b t2, .str c t3] n) ∈ news) (hk : 0 ≤ k ∧ k < 3)
    (h : ∀ mark t, (k = 0 ∧ mark = a ∨ k = 1 ∧ mark = b ∨ k = 2 ∧ mark = c) → Q (.str mark t) s)
    (hs : subscripted slice false (.ref D) (.int k u) = operate [.ref D, .int k u] (getItem (.ref D) (.int k u)) := by with_unfolding_all rfl) :
    wpAny (model prog w) A (subscriptTail value slice (.ref D) (.int k u)) Q E s := by
  have hk' : k = 0 ∨ k = 1 ∨ k = 2 := by omega
  clear hk
  rcases hk' with rfl | rfl | rfl
  · exact item_i (vs := [.str a t1, .str b t2, .str c t3]) N hm (show 3 ≤ 1000 by decide) ⟨by decide, rfl⟩ (h a t1 (.inl ⟨rfl, rfl⟩)) hs
  · exact item_i (vs := [.str a t1, .str b t2, .str c t3]) N hm (show 3 ≤ 1000 by decide) ⟨by decide, rfl⟩ (h b t2 (.inr (.inl ⟨rfl, rfl⟩))) hs
  · exact item_i (vs := [.str a t1, .str b t2, .str c t3]) N hm (show 3 ≤ 1000 by decide) ⟨by decide, rfl⟩ (h c t3 (.inr (.inr ⟨rfl, rfl⟩))) hs
theorem ne_same {a b : Addr} {xs ys : List Value} {ns ms : List Str} (ha : s.heap.IsList a xs.toArray) (hb : s.heap.IsList b ys.toArray) (hi : StrsAre xs ns) (hj : StrsAre ys ms) (e : ns = ms) (hk : (ms.all PyData.strOk) = true) (hu : A.units + 64 < cLine) (h : Q (.bool false) s) :
    wpAny (model prog w) A (compareOp .NotEq (.ref a) (.ref b)) Q E s := by
  subst e
  refine ne_strs ha hb hi hj hk hk hu ?_
  have : (ns != ns) = false := by simp
  rw [this]; exact h
end
abbrev stOf {st : Addr} {vs : List Value} {ps : List (Option Str)} (_ : PartsAre st vs ps) : Addr := st
/-- a part read as a row -/
def PartR (st : Addr) (v y : Value) : Prop := (v = .ref st → ∃ t, y = .str (Str.ofString "") t) ∧ ∀ x t, v = .str x t → ∃ t', y = .str x t'
theorem partR_star {st : Addr} {t : Tok} : PartR st (.ref st) (.str (Str.ofString "") t) := ⟨fun _ => ⟨t, rfl⟩, fun _ _ e => (by cases e)⟩
theorem partR_str {st : Addr} {x : Str} {t u : Tok} : PartR st (.str x t) (.str x u) := ⟨fun e => (by cases e), fun _ _ e => (by cases e; exact ⟨u, rfl⟩)⟩
theorem parts_mem {st : Addr} {vs : List Value} {ps : List (Option Str)} (h : PartsAre st vs ps) {v : Value} (hv : v ∈ vs) : v = .ref st ∨ ∃ x t, v = .str x t ∧ some x ∈ ps := by
  induction h with
  | nil => cases hv
  | star _ ih =>
    rcases List.mem_cons.mp hv with rfl | hv
    · exact .inl rfl
    · exact (ih hv).imp id fun ⟨x, t, e, hm⟩ => ⟨x, t, e, .tail _ hm⟩
  | @text x t _ _ _ ih =>
    rcases List.mem_cons.mp hv with rfl | hv
    · exact .inr ⟨x, t, rfl, .head _⟩
    · exact (ih hv).imp id fun ⟨x, t, e, hm⟩ => ⟨x, t, e, .tail _ hm⟩
theorem parts_rows' {st : Addr} {vs ys : List Value} {ps : List (Option Str)} (h : All2 (PartR st) vs ys) (k : PartsAre st vs ps) : StrsAre ys (ps.map fun o => o.getD (Str.ofString "")) := by
  induction h generalizing ps with
  | nil => cases k; exact .nil
  | cons h _ ih =>
    cases k with
    | star k =>
      obtain ⟨t, rfl⟩ := h.1 rfl
      exact .cons _ _ (ih k)
    | text k =>
      obtain ⟨t', rfl⟩ := h.2 _ _ rfl
      exact .cons _ _ (ih k)
end Mine
end
section
open PySem PySem.W PyProof.Rows PySem.Calls
set_option Elab.async false
namespace Mine
/-! ## a comprehension over zip(a, b) -/
inductive AllP (R : Value → Value → Value → Prop) : List (Value × Value) → List Value → Prop
  | nil : AllP R [] []
  | cons {p : Value × Value} {y : Value} {ps : List (Value × Value)} {ys : List Value} : R p.1 p.2 y → AllP R ps ys → AllP R (p :: ps) (y :: ys)
theorem AllP.snoc {R : Value → Value → Value → Prop} {ps : List (Value × Value)} {ys : List Value} {p : Value × Value} {y : Value} (h : AllP R ps ys) (k : R p.1 p.2 y) : AllP R (ps ++ [p]) (ys ++ [y]) := by
  induction h with
  | nil => exact .cons k .nil
  | cons h _ ih => exact .cons h ih
def objsOf (h : Heap) (fp : List Addr) : List (Addr × Obj) := fp.filterMap fun b => (h.get? b).map fun o => (b, o)
theorem objsOf_mem {h : Heap} {fp : List Addr} {p : Addr × Obj} : p ∈ objsOf h fp ↔ p.1 ∈ fp ∧ h.get? p.1 = some p.2 := by
  unfold objsOf
  rw [List.mem_filterMap]
  constructor
  · rintro ⟨b, hb, e⟩
    rw [Option.map_eq_some_iff] at e
    obtain ⟨o, ho, rfl⟩ := e
    exact ⟨hb, ho⟩
  · rintro ⟨h1, h2⟩
    exact ⟨p.1, h1, by rw [h2]; rfl⟩
theorem take_snoc {α : Type} {l : List α} {i : Nat} {v : α} (h : l[i]? = some v) : l.take (i + 1) = l.take i ++ [v] := by rw [List.take_add_one, h]; rfl
section
variable {prog : Program} {w : World} {A : Around} {E : Value → Shared → Prop} {s : Shared} {h₀ : Heap} {L : Addr} {m : Str → Option Value} {env : Env}
theorem pairs_block {elt iter : PySem.Expr} {a b : Str} {pa pb tp : Pos} {kk : Nat} {scope : Scope} {cl : List (Str × Addr)} {pos : Pos} {s₂ : Shared} {z : Addr} {fp wr : List Addr} {n : Nat} {Pt : Nat → Array Value → Prop} {St : Nat → Heap → Prop} {Mid : Nat → Addr → Heap → Prop}
    {its : List (Value × Value)} {news : List (Addr × Obj)} {R : Value → Value → Value → Prop} {RR : Value → Addr → Result → Shared → Prop}
    (W : WalksU prog w A z fp wr n Pt St Mid) (hh : A.handled = none) (hn : its.length = n) (hsz : n ≤ sizeLine) (hPt : ∀ i vals, Pt i vals → ∃ p, its[i]? = some p ∧ vals = #[p.1, p.2])
    (hfp : ∀ c ∈ fp, c ≠ L ∧ h₀.get? c = none ∧ c < s₂.heap.objs.size) (hw : ∀ p ∈ news, p.1 ∉ wr)
    (hcell : ∀ y ∈ scope.names, y.2 ≠ .cell) (hkind : scope.kind = .function) (hxa : scope.names.lookup a = some .local) (hxb : scope.names.lookup b = some .local) (hab : ¬ a = b)
    (hst : St 0 s₂.heap) (F : Fr h₀ L s₂.heap m) (N : News h₀ L s₂.heap news)
    (turn : ∀ p C oC D ys m₂ h tk zs (E' : Value → Shared → Prop), p ∈ its → LCg.NsObj oC m₂ → m₂ a = some p.1 → m₂ b = some p.2 → Fr h₀ L h m → News h₀ L h ((C, oC) :: (D, LCg.lst ys) :: (news ++ zs)) →
      wpAny (model prog w) A (eval elt (compEnvC scope cl C env)) (TurnEnd h₀ L m s₂ ((C, oC) :: (D, LCg.lst ys) :: (news ++ zs)) (R p.1 p.2)) E' { s₂ with heap := h, toks := tk })
    (hRR : ∀ D C h tk m' ys, Fr h₀ L h m → News h₀ L h ((D, LCg.lst ys) :: news) → LCg.Off1 D news → h.Ns C m' → h₀.get? C = none → h₀.get? D = none → C ≠ L → D ≠ L → C ≠ D → (∀ p ∈ news, p.1 ≠ C) → AllP R its ys → RR (.ref D) C (.ok .next) { s₂ with heap := h, toks := tk }) :
    wpAny (model prog w) A (newList []) (fun acc s₃ => wpAny (model prog w) A (newFunctionEnv scope env.globals cl [] env.qual none .none (some env)) (fun cenv s₄ =>
      codeAny (model prog w) A (.compStart (.ListComp elt [⟨.Tuple [.Name a pa, .Name b pb] kk tp, iter, [], 0⟩] scope pos) 0 (.ref z) acc { cenv with scope := relabel scope env }) (RR acc cenv.locals) s₄) E s₃) E s₂ := by
  refine wpAny_newObj_type (wpAny_newFunctionEnv hcell (by intro y hy; simp at hy) (fun h₁ hns₁ hsb₁ => ?_) hkind)
  dsimp only at hns₁ hsb₁ ⊢
  generalize hH2 : s₂.heap.push { cls := .type "list", dict := none, data := .seq ([] : List Value).toArray } = H2 at hns₁ hsb₁ ⊢
  have hC : H2.objs.size = s₂.heap.objs.size + 1 := by rw [← hH2, Heap.size_push]
  have hDC : s₂.heap.objs.size ≠ H2.objs.size := by rw [hC]; exact Nat.ne_of_lt (Nat.lt_succ_self _)
  have below : ∀ b, b < s₂.heap.objs.size → b ≠ H2.objs.size ∧ b ≠ s₂.heap.objs.size := fun b hb => ⟨by rw [hC]; exact Nat.ne_of_lt (Nat.lt_succ_of_lt hb), Nat.ne_of_lt hb⟩
  have old : ∀ b o, s₂.heap.get? b = some o → h₁.get? b = some o := fun b o e => hsb₁.extBut b o (below b (Heap.lt_size e)).1 (Heap.get?_push_of_some _ (hH2 ▸ Heap.get?_push_of_some _ e))
  have hacc : h₁.get? s₂.heap.objs.size = some (LCg.lst []) := hsb₁.extBut _ _ hDC (Heap.get?_push_of_some _ (hH2 ▸ Heap.get?_push_size _ rfl))
  have fresh : ∀ a, s₂.heap.objs.size ≤ a → s₂.heap.get? a = none := fun a ha => by
    cases e : s₂.heap.get? a with
    | none => rfl
    | some o' => exact absurd (Heap.lt_size e) (Nat.not_lt.mpr ha)
  have fresh₀ : ∀ a, s₂.heap.objs.size ≤ a → h₀.get? a = none := fun a ha => by
    cases e : h₀.get? a with
    | none => rfl
    | some o' => have := F.keep a o' e; rw [fresh a ha] at this; cases this
  have hD₀ : h₀.get? s₂.heap.objs.size = none := fresh₀ _ (Nat.le_refl _)
  have hC₀ : h₀.get? H2.objs.size = none := fresh₀ _ (by rw [hC]; exact Nat.le_succ _)
  have hLlt : L < s₂.heap.objs.size := F.ns.lt
  have hDL : s₂.heap.objs.size ≠ L := Ne.symm (below L hLlt).2
  have hCL : H2.objs.size ≠ L := Ne.symm (below L hLlt).1
  have hwf : ∀ c ∈ wr, c ∈ fp := W.sub
  have hCw : H2.objs.size ∉ fp := fun q => (below _ (hfp _ q).2.2).1 rfl
  have hDw : s₂.heap.objs.size ∉ fp := fun q => (below _ (hfp _ q).2.2).2 rfl
  have hLw : L ∉ wr := fun q => (hfp _ (hwf _ q)).1 rfl
  have nC : ∀ p ∈ news, p.1 ≠ H2.objs.size := fun p hp => (below _ (Heap.lt_size (N p hp).1)).1
  have nD : ∀ p ∈ news, p.1 ≠ s₂.heap.objs.size := fun p hp => (below _ (Heap.lt_size (N p hp).1)).2
  have o1 : LCg.Off1 s₂.heap.objs.size news := LCg.Off3.one (I := H2.objs.size) (C := H2.objs.size) (LCg.Off3.of fun p hp => ⟨nC p hp, nC p hp, nD p hp⟩)
  have Wt := W
  have loop : ∀ s₃ : Shared, s₃ = { s₂ with heap := h₁, toks := s₂.toks + ([] : List (Str × Value)).length } →
      codeAny (model prog w) A (.compLoop (.ListComp elt [⟨.Tuple [.Name a pa, .Name b pb] kk tp, iter, [], 0⟩] scope pos) 0 (.ref z) (.ref s₂.heap.objs.size) (compEnvC scope cl H2.objs.size env))
        (RR (.ref s₂.heap.objs.size) H2.objs.size) s₃ := by
    rintro s₃ rfl
    refine kcp_loop
      (fun k s' => ∃ h' tk i ys m', s' = { s₂ with heap := h', toks := tk } ∧ i ≤ n ∧ k = n + 1 - i ∧ ys.length = i ∧ St i h' ∧ Fr h₀ L h' m ∧ h'.Ns H2.objs.size m' ∧
        News h₀ L h' ((s₂.heap.objs.size, LCg.lst ys) :: news) ∧ AllP R (its.take i) ys) ?_ (n + 1)
      ⟨h₁, _, 0, [], _, rfl, Nat.zero_le _, rfl, rfl, W.frame _ _ _ hst fun b _ o e => old b o e, F.keeps old, hns₁, fun p hp => ?_, .nil⟩
    · rintro k s' ⟨h', tk, i, ys, m', rfl, hi, rfl, hyl, hst', F', hn', N', hR⟩
      have Nw : ∀ p ∈ (s₂.heap.objs.size, LCg.lst ys) :: news, p.1 ∉ wr := fun p hp => by
        rcases List.mem_cons.mp hp with rfl | hp
        · exact fun q => hDw (hwf _ q)
        · exact hw p hp
      by_cases hlt : i < n
      · refine W.item i _ _ _ hlt hst' fun T vals h₂ tk₂ hP hT hMd hk₂ => ?_
        refine W.go _ _ _ i T _ _ _ hMd fun h₃ hst₃ hk₃ => ?_
        obtain ⟨p, hp, rfl⟩ := hPt i vals hP
        have hT₃ : h₃.IsTuple T #[p.1, p.2] := hT.at fun o e => hk₃ _ o (W.apart _ _ _ hMd) e
        have up₃ : ∀ c o, c ∉ wr → h'.get? c = some o → h₃.get? c = some o := fun c o hc e => hk₃ c o hc (hk₂ c o hc e)
        refine kcp_assign (env := compEnvC scope cl H2.objs.size env) hh hT₃ (lookup_relabel_local hxa) (lookup_relabel_local hxb) (by simp [compEnvC, relabel, hkind]) (hn'.at' fun o e => up₃ _ o (fun q => hCw (hwf _ q)) e) fun h₄ tk₄ hn₄ hs₄ => ?_
        have up : ∀ c o, c ∉ wr → c ≠ H2.objs.size → h'.get? c = some o → h₄.get? c = some o := fun c o h1 h2 e => hs₄ c o h2 (up₃ c o h1 e)
        have hst₄ : St (i + 1) h₄ := W.frame _ _ _ hst₃ fun c hc o e => hs₄ c o (fun q => hCw (by rw [← show c = H2.objs.size from q]; exact hc)) e
        obtain ⟨oC, heC, hoC⟩ := LCg.ns_obj hn₄
        have F₄ : Fr h₀ L h₄ m := ⟨F'.ns.at' fun o e => up _ o hLw (Ne.symm hCL) e, fun c o e => up c o (fun q => by rw [(hfp c (hwf _ q)).2.1] at e; cases e) (fun q => by rw [q, hC₀] at e; cases e) (F'.keep c o e), F'.above⟩
        have N₄ : News h₀ L h₄ ((H2.objs.size, oC) :: (s₂.heap.objs.size, LCg.lst ys) :: (news ++ objsOf h₄ fp)) := fun q hq => by
          rcases List.mem_cons.mp hq with rfl | hq
          · exact ⟨heC, hCL, hC₀⟩
          · have hq' : q ∈ (s₂.heap.objs.size, LCg.lst ys) :: news ∨ q ∈ objsOf h₄ fp := by
              rcases List.mem_cons.mp hq with rfl | hq
              · exact .inl (.head _)
              · exact (List.mem_append.mp hq).imp (.tail _) id
            rcases hq' with hq | hq
            · have zz := N' q hq
              refine ⟨up _ _ (Nw q hq) ?_ zz.1, zz.2⟩
              rcases List.mem_cons.mp hq with rfl | hq
              · exact hDC
              · exact nC q hq
            · obtain ⟨g1, g2⟩ := objsOf_mem.mp hq
              exact ⟨g2, (hfp _ g1).1, (hfp _ g1).2.1⟩
        refine wpAny_mono (turn p H2.objs.size oC s₂.heap.objs.size ys _ h₄ _ (objsOf h₄ fp) _ (List.mem_of_getElem? hp) hoC (by simp [hab]) (by simp) F₄ N₄) (fun y s₅ h₅ => ?_) fun _ _ e => e
        obtain ⟨hRy, h₅, tk₅, rfl, F₅, N₅⟩ := h₅
        have zC := (N₅ (H2.objs.size, oC) List.mem_cons_self).1
        have zD := (N₅ (s₂.heap.objs.size, LCg.lst ys) (List.mem_cons_of_mem _ List.mem_cons_self)).1
        have hst₅ : St (i + 1) h₅ := W.frame _ _ _ hst₄ fun c hc o e => (N₅ (c, o) (List.mem_cons_of_mem _ (List.mem_cons_of_mem _ (List.mem_append_right _ (objsOf_mem.mpr ⟨hc, e⟩))))).1
        refine append_at (hsz := by show ys.toArray.size ≤ sizeLine; rw [List.size_toArray, hyl]; exact Nat.le_trans hi hsz) zD fun h₆ hs₆ hD₆ => ?_
        refine ⟨n + 1 - (i + 1), by lia, h₆, tk₅, i + 1, ys ++ [y], _, rfl, hlt, rfl, by rw [List.length_append, List.length_singleton, hyl], W.frame _ _ _ hst₅ fun c hc o e => hs₆.extBut c o (fun q => hDw (by rw [← show c = s₂.heap.objs.size from q]; exact hc)) e, F₅.change hs₆ hDL hD₀,
          (hoC.ns zC).sameBut hs₆ (Ne.symm hDC), fun q hq => ?_, ?_⟩
        · rcases List.mem_cons.mp hq with rfl | hq
          · exact ⟨hD₆.trans (congrArg some (LCg.lst_snoc ys y)), hDL, hD₀⟩
          · have zz := N₅ q (List.mem_cons_of_mem _ (List.mem_cons_of_mem _ (List.mem_append_left _ hq)))
            exact ⟨hs₆.extBut _ _ (nD q hq) zz.1, zz.2⟩
        · rw [take_snoc hp]
          exact hR.snoc hRy
      · have hin : i = n := Nat.le_antisymm hi (Nat.not_lt.mp hlt)
        subst hin
        rw [List.take_of_length_le (by lia)] at hR
        refine W.done _ _ _ hst' fun h₂ tk₂ hk₂ => ?_
        have F₂ : Fr h₀ L h₂ m := ⟨F'.ns.at' fun o e => hk₂ _ o hLw e, fun c o e => hk₂ c o (fun q => by rw [(hfp c (hwf _ q)).2.1] at e; cases e) (F'.keep c o e), F'.above⟩
        exact hRR _ _ h₂ tk₂ _ ys F₂ (fun q hq => ⟨hk₂ _ _ (Nw q hq) (N' q hq).1, (N' q hq).2⟩) o1 (hn'.at' fun o e => hk₂ _ o (fun q => hCw (hwf _ q)) e) hC₀ hD₀ hCL hDL (Ne.symm hDC) nC hR
    · rcases List.mem_cons.mp hp with rfl | hp
      · exact ⟨hacc, hDL, hD₀⟩
      · exact ⟨old _ _ (N p hp).1, (N p hp).2⟩
  exact codeAny_compStart_list (loop _ rfl) (W.self 0 _ _ _ (W.frame _ _ _ hst fun b _ o e => old b o e) (loop _ rfl))
def ZipSrc (prog : Program) (w : World) (A : Around) (h₀ : Heap) (L : Addr) (m : Str → Option Value) (env : Env) (elt : PySem.Expr) (a b : Str) (scope : Scope) (cl : List (Str × Addr)) (Q : Value → Shared → Prop) (xv : Value) (s₁ : Shared) : Prop :=
  ∃ (z : Addr) (fp wr : List Addr) (n : Nat) (Pt : Nat → Array Value → Prop) (St : Nat → Heap → Prop) (Mid : Nat → Addr → Heap → Prop) (its : List (Value × Value)) (news : List (Addr × Obj)) (R : Value → Value → Value → Prop),
    xv = .ref z ∧ WalksU prog w A z fp wr n Pt St Mid ∧ A.handled = none ∧ its.length = n ∧ n ≤ sizeLine ∧ (∀ i vals, Pt i vals → ∃ p, its[i]? = some p ∧ vals = #[p.1, p.2]) ∧
    (∀ c ∈ fp, c ≠ L ∧ h₀.get? c = none ∧ c < s₁.heap.objs.size) ∧ (∀ p ∈ news, p.1 ∉ wr) ∧ St 0 s₁.heap ∧ Fr h₀ L s₁.heap m ∧ News h₀ L s₁.heap news ∧
    (∀ p C oC D ys m₂ h tk zs (E' : Value → Shared → Prop), p ∈ its → LCg.NsObj oC m₂ → m₂ a = some p.1 → m₂ b = some p.2 → Fr h₀ L h m → News h₀ L h ((C, oC) :: (D, LCg.lst ys) :: (news ++ zs)) →
      wpAny (model prog w) A (eval elt (compEnvC scope cl C env)) (TurnEnd h₀ L m s₁ ((C, oC) :: (D, LCg.lst ys) :: (news ++ zs)) (R p.1 p.2)) E' { s₁ with heap := h, toks := tk }) ∧
    ∀ D h tk ys, AllP R its ys → Fr h₀ L h m → News h₀ L h ((D, LCg.lst ys) :: news) → LCg.Off1 D news → Q (.ref D) { s₁ with heap := h, toks := tk }
theorem zip_comp {elt iter : PySem.Expr} {a b : Str} {pa pb tp : Pos} {kk : Nat} {scope : Scope} {cl : List (Str × Addr)} {pos : Pos} {Q : Value → Shared → Prop} (_F₀ : Fr h₀ L s.heap m)
    (hclos : closureFor scope env = pure cl) (hcell : ∀ y ∈ scope.names, y.2 ≠ .cell) (hkind : scope.kind = .function)
    (hnames : ∀ y ∈ scope.names, y.2 = .local → scope.names.lookup y.1 = some .local) (hxa : scope.names.lookup a = some .local) (hxb : scope.names.lookup b = some .local) (hab : ¬ a = b)
    (h : wpAny (model prog w) A (eval iter env) (ZipSrc prog w A h₀ L m env elt a b scope cl Q) E s)
    (hs : ∀ x, foldedSetIterable iter env x = pure x := by intro _; rfl) :
    wpAny (model prog w) A (eval (.ListComp elt [⟨.Tuple [.Name a pa, .Name b pb] kk tp, iter, [], 0⟩] scope pos) env) Q E s := by
  rw [eval_ListComp]
  refine wpAny_comprehension_free (use := none) rfl hs hclos hkind hnames (wpAny_mono h (fun xv s₁ h₁ => ?_) fun _ _ e => e)
  obtain ⟨z, fp, wr, n, Pt, St, Mid, its, news, R, rfl, W, hh, hn, hsz, hPt, hfp, hw, hst, F, N, turn, fin⟩ := h₁
  refine W.self 0 _ _ _ hst ?_
  refine pairs_block W hh hn hsz hPt hfp hw hcell hkind hxa hxb hab hst F N turn ?_
  intro D C h tk m' ys F' N' o1 hn hC₀ hD₀ hCL hDL hCD offC hR
  refine ⟨m', hn, fun h'' hs'' => fin D h'' tk ys hR (F'.change hs'' hCL hC₀) (fun p hp => ?_) o1⟩
  refine ⟨hs''.extBut _ _ ?_ (N' p hp).1, (N' p hp).2⟩
  rcases List.mem_cons.mp hp with rfl | hp
  · exact Ne.symm hCD
  · exact offC p hp
theorem zip_src {elt : PySem.Expr} {a b : Str} {scope : Scope} {cl : List (Str × Addr)} {Q : Value → Shared → Prop} {l1 l2 : Addr} {vs1 vs2 : List Value} {n1 n2 : Nat} {news : List (Addr × Obj)} (R : Value → Value → Value → Prop)
    (hh : A.handled = none) (F : Fr h₀ L s.heap m) (N : News h₀ L s.heap news) (hm1 : (l1, listOf vs1.toArray n1) ∈ news) (hm2 : (l2, listOf vs2.toArray n2) ∈ news) (hz : vs1.length ≤ 1000)
    (turn : ∀ g p C oC D ys m₂ h tk zs (E' : Value → Shared → Prop), p ∈ vs1.zip vs2 → LCg.NsObj oC m₂ → m₂ a = some p.1 → m₂ b = some p.2 → Fr h₀ L h m → News h₀ L h ((C, oC) :: (D, LCg.lst ys) :: (news ++ zs)) →
      wpAny (model prog w) A (eval elt (compEnvC scope cl C env)) (TurnEnd h₀ L m { s with heap := g } ((C, oC) :: (D, LCg.lst ys) :: (news ++ zs)) (R p.1 p.2)) E' { s with heap := h, toks := tk })
    (fin : ∀ ys, AllP R (vs1.zip vs2) ys → ∀ D h tk, Fr h₀ L h m → News h₀ L h ((D, LCg.lst ys) :: news) → LCg.Off1 D news → Q (.ref D) { s with heap := h, toks := tk }) :
    wpAny (model prog w) A (call (.type "zip") [.ref l1, .ref l2]) (ZipSrc prog w A h₀ L m env elt a b scope cl Q) E s := by
  have hl1 : s.heap.IsList l1 vs1.toArray := N.isList hm1
  have hl2 : s.heap.IsList l2 vs2.toArray := N.isList hm2
  have hlt1 : l1 < s.heap.objs.size := Heap.lt_size (N _ hm1).1
  have hlt2 : l2 < s.heap.objs.size := Heap.lt_size (N _ hm2).1
  have hLs : L < s.heap.objs.size := F.ns.lt
  have D : ZipApart (s.heap.objs.size + 4) (s.heap.objs.size + 2) (s.heap.objs.size + 3) s.heap.objs.size (s.heap.objs.size + 1) l1 l2 := ktu_apart _ _ _ hlt1 hlt2
  refine call_zip_2 hl1 hl2 fun h' hz' hTI hTO hi1 hi2 hsz hk => ?_
  have fresh₀ : ∀ a, s.heap.objs.size ≤ a → h₀.get? a = none := fun a ha => by
    cases e : h₀.get? a with
    | none => rfl
    | some o' => exact absurd (Heap.lt_size (F.keep a o' e)) (Nat.not_lt.mpr ha)
  refine ⟨_, _, _, _, _, _, _, vs1.zip vs2, news, R, rfl, (WalksT.zip2 hh _ _ _ _ _ _ _ D vs1.toArray vs2.toArray).toU, hh, ?_, ?_, ?_, ?_, ?_, ?_, F.keeps hk, N.grown hk, fun p C oC D ys m₂ h tk zs E' => turn h' p C oC D ys m₂ h tk zs E', fun D h tk ys hR F' N' o1 => fin ys hR D h tk F' N' o1⟩
  · rw [List.length_zip, List.size_toArray, List.size_toArray]
  · rw [List.size_toArray, List.size_toArray]
    exact Nat.le_trans (Nat.min_le_left _ _) (Nat.le_trans hz (by decide))
  · rintro i vals ⟨x, y, hx, hy, rfl⟩
    refine ⟨(x, y), ?_, rfl⟩
    rw [List.getElem?_zip_eq_some]
    exact ⟨by simpa using hx, by simpa using hy⟩
  · have new : ∀ k : Nat, k < 5 → s.heap.objs.size + k ≠ L ∧ h₀.get? (s.heap.objs.size + k) = none ∧ s.heap.objs.size + k < h'.objs.size := fun k hk5 =>
      ⟨fun e => absurd hLs (by rw [← e]; exact Nat.not_lt.mpr (Nat.le_add_right _ _)), fresh₀ _ (Nat.le_add_right _ _), by rw [hsz]; exact Nat.add_lt_add_left hk5 _⟩
    have oldl : ∀ l o, (l, o) ∈ news → l ≠ L ∧ h₀.get? l = none ∧ l < h'.objs.size := fun l o hm => ⟨(N _ hm).2.1, (N _ hm).2.2, Nat.lt_of_lt_of_le (Heap.lt_size (N _ hm).1) (by rw [hsz]; exact Nat.le_add_right _ _)⟩
    intro c hc
    simp only [List.mem_cons, List.not_mem_nil, or_false] at hc
    rcases hc with rfl | rfl | rfl | rfl | rfl | rfl | rfl
    · exact new 4 (by decide)
    · exact new 2 (by decide)
    · exact new 3 (by decide)
    · exact new 0 (by decide)
    · exact new 1 (by decide)
    · exact oldl _ _ hm1
    · exact oldl _ _ hm2
  · intro p hp hc
    have h1 := Heap.lt_size (N p hp).1
    simp only [List.mem_cons, List.not_mem_nil, or_false] at hc
    have h2 : s.heap.objs.size ≤ p.1 := by
      rcases hc with e | e | e | e
      · rw [e]; exact Nat.le_add_right _ _
      · rw [e]; exact Nat.le_add_right _ _
      · rw [e]; exact Nat.le_refl _
      · rw [e]; exact Nat.le_add_right _ _
    exact absurd h1 (Nat.not_lt.mpr h2)
  · exact ⟨hz', hTI, ⟨_, _, hTO⟩, hi1, hi2, hl1.at fun o e => hk _ o e, hl2.at fun o e => hk _ o e⟩
end
/-- the row of a part with its end -/
def PairR (st : Addr) (v e y : Value) : Prop := ∀ x t, e = .str x t → (v = .ref st → ∃ u, y = .str (Str.ofString "" ++ x) u) ∧ ∀ r t', v = .str r t' → ∃ u, y = .str (r ++ x) u
theorem pairR_star {st : Addr} {x : Str} {t u : Tok} : PairR st (.ref st) (.str x t) (.str (Str.ofString "" ++ x) u) := fun _ _ e => by cases e; exact ⟨fun _ => ⟨u, rfl⟩, fun _ _ e => (by cases e)⟩
theorem pairR_str {st : Addr} {r x : Str} {t t' u : Tok} : PairR st (.str r t') (.str x t) (.str (r ++ x) u) := fun _ _ e => by cases e; exact ⟨fun e => (by cases e), fun _ _ e => (by cases e; exact ⟨u, rfl⟩)⟩
theorem zip_mem {st : Addr} {vs es : List Value} {ps : List (Option Str)} {xs : List Str} (h : PartsAre st vs ps) (k : StrsAre es xs) {p : Value × Value} (hp : p ∈ vs.zip es) : (p.1 = .ref st ∨ ∃ x t, p.1 = .str x t ∧ some x ∈ ps) ∧ ∃ x t, p.2 = .str x t ∧ x ∈ xs := by
  obtain ⟨p1, p2⟩ := p
  exact ⟨parts_mem h (List.of_mem_zip hp).1, strs_mem k (List.of_mem_zip hp).2⟩
theorem zip_rows {st : Addr} {vs es ys : List Value} {ps : List (Option Str)} {xs : List Str} (h : PartsAre st vs ps) (k : StrsAre es xs) (a : AllP (PairR st) (vs.zip es) ys) : StrsAre ys (List.zipWith (· ++ ·) (ps.map fun o => o.getD (Str.ofString "")) xs) := by
  induction h generalizing es ys xs with
  | nil => cases a; exact .nil
  | star h ih =>
    cases k with
    | nil => cases a; exact .nil
    | cons x t k =>
      cases a with
      | cons r a =>
        obtain ⟨u, rfl⟩ := (r x t rfl).1 rfl
        exact .cons _ _ (ih k a)
  | @text r tr _ _ h ih =>
    cases k with
    | nil => cases a; exact .nil
    | cons x t k =>
      cases a with
      | cons q a =>
        obtain ⟨u, rfl⟩ := (q x t rfl).2 r tr rfl
        exact .cons _ _ (ih k a)
end Mine
end
section
open PySem PySem.W PyProof.Rows PySem.Calls
set_option Elab.async false
namespace Mine
/-! ## a comprehension with a test over a list of any length -/
section
variable {prog : Program} {w : World} {A : Around} {s : Shared} {h₀ : Heap} {L₀ : Addr} {m : Str → Option Value} {env : Env}
def TestIs (h₀ : Heap) (L₀ : Addr) (m : Str → Option Value) (s : Shared) (big : List (Addr × Obj)) (b ok : Bool) (s₂ : Shared) : Prop := ok = b ∧ ∃ h' tk', s₂ = { s with heap := h', toks := tk' } ∧ Fr h₀ L₀ h' m ∧ News h₀ L₀ h' big
theorem comp_filter {ct elt : PySem.Expr} {x : Str} {scope : Scope} {cl : List (Str × Addr)} {ax : Addr} {its : List Value} {news : List (Addr × Obj)} {R : Value → Value → Prop} {T : Value → Bool} {Fin : List Value → List (Addr × Obj) → Prop} (hS : LCg.SrcAt h₀ ax its.toArray news)
    (test : ∀ v I oI C oC D ys m₂ h tk (E' : Value → Shared → Prop), v ∈ its → LCg.NsObj oC m₂ → m₂ x = some v → Fr h₀ L₀ h m → News h₀ L₀ h ((I, oI) :: (C, oC) :: (D, LCg.lst ys) :: news) →
      wpAny (model prog w) A (isTrue ct (compEnvC scope cl C env) (eval ct (compEnvC scope cl C env))) (TestIs h₀ L₀ m s ((I, oI) :: (C, oC) :: (D, LCg.lst ys) :: news) (T v)) E' { s with heap := h, toks := tk })
    (turn : ∀ v I oI C oC D ys m₂ h tk (E' : Value → Shared → Prop), v ∈ its → LCg.NsObj oC m₂ → m₂ x = some v → Fr h₀ L₀ h m → News h₀ L₀ h ((I, oI) :: (C, oC) :: (D, LCg.lst ys) :: news) →
      wpAny (model prog w) A (eval elt (compEnvC scope cl C env)) (TurnEnd h₀ L₀ m s ((I, oI) :: (C, oC) :: (D, LCg.lst ys) :: news) (R v)) E' { s with heap := h, toks := tk })
    (fin : ∀ ys, All2 R (its.filter T) ys → Fin ys news) : LCt.CompRestT prog w A h₀ L₀ m env ct elt x scope cl s (LCg.SrcAt h₀ ax its.toArray) (fun i v => its.toArray[i]? = some v) Fin its.toArray.size 0 [] news := by
  have key : ∀ (k i : Nat) (ys : List Value), i + k = its.length → All2 R ((its.take i).filter T) ys → LCt.CompRestT prog w A h₀ L₀ m env ct elt x scope cl s (LCg.SrcAt h₀ ax its.toArray) (fun i v => its.toArray[i]? = some v) Fin k i ys news := by
    intro k
    induction k with
    | zero =>
      intro i ys hi ha
      rw [List.take_of_length_le (by lia)] at ha
      exact fin ys ha
    | succ k ih =>
      intro i ys hi ha
      refine LCt.CompRestT.succ fun v I oI C oC D m₂ h tk E' hv hC hx F N off hne => ?_
      have hv' : its[i]? = some v := by simpa using hv
      have hvm := List.mem_of_getElem? hv'
      refine wpAny_mono (test v I oI C oC D ys m₂ h tk E' hvm hC hx F N) (fun ok s₂ h₂ => ?_) fun _ _ e => e
      obtain ⟨rfl, h', tk', rfl, F', N'⟩ := h₂
      by_cases hT : T v = true
      · rw [if_pos hT]
        refine wpAny_mono (turn v I oI C oC D ys m₂ h' tk' E' hvm hC hx F' N') (fun y s₃ h₃ => ?_) fun _ _ e => e
        obtain ⟨hR, h'', tk'', rfl, F'', N''⟩ := h₃
        refine ⟨h'', tk'', news, rfl, F'', N'', off, hS, ih (i + 1) (ys ++ [y]) (by lia) ?_⟩
        rw [take_more hv', List.filter_append, List.filter_cons, if_pos hT]
        exact ha.snoc hR
      · rw [if_neg hT]
        refine ⟨h', tk', news, rfl, F', N', off, hS, ih (i + 1) ys (by lia) ?_⟩
        rw [take_more hv', List.filter_append, List.filter_cons, if_neg hT, List.filter_nil, List.append_nil]
        exact ha
  have := key its.length 0 [] (by lia) .nil
  rw [List.size_toArray]
  exact this
end
theorem All2.length {R : Value → Value → Prop} {vs ys : List Value} (h : All2 R vs ys) : ys.length = vs.length := by
  induction h with
  | nil => rfl
  | cons _ _ ih => rw [List.length_cons, List.length_cons, ih]
def testV (f : Str → Bool) : Value → Bool
  | .str x _ => f x
  | _ => false
theorem filter_len {f : Str → Bool} {vs : List Value} {xs : List Str} (h : StrsAre vs xs) : (vs.filter (testV f)).length = (xs.filter f).length := by
  induction h with
  | nil => rfl
  | cons x t _ ih =>
    rw [List.filter_cons, List.filter_cons]
    show (if f x = true then _ else _ : List Value).length = _
    split
    · rw [List.length_cons, List.length_cons, ih]
    · exact ih
section
variable {prog : Program} {w : World} {A : Around} {E : Value → Shared → Prop} {s : Shared} {Q : Value → Shared → Prop} {t u : Tok}
theorem nei_is {a c : Int} {v : Bool} (e : (a != c) = v) (h : Q (.bool v) s) : wpAny (model prog w) A (compareOp .NotEq (.int a t) (.int c u)) Q E s := PyProof.Rows.ne_int (by rw [e]; exact h)
theorem join_rows {h₀ : Heap} {L₀ D : Addr} {news : List (Addr × Obj)} {vs : List Value} {ys : List Str} {n : Nat} {x : Str} (N : News h₀ L₀ s.heap news) (hm : (D, listOf vs.toArray n) ∈ news) (hs : StrsAre vs ys) (hr : ∀ r ∈ ys, (L r).length ≤ 10) (hz : ys.length ≤ 40) (hx : x.length ≤ 2)
    (h : ∀ t' k, Q (.str (Str.join x ys) t') { s with toks := k }) : wpAny (model prog w) A (call (.builtin "str.join") [.str x t, .ref D]) Q E s := by
  have h1 : (ys.map (·.length)).sum ≤ 10 * ys.length := by
    clear hs hm hz h
    induction ys with
    | nil => exact Nat.le_refl _
    | cons r ys ih =>
      have := ih fun q hq => hr q (.tail _ hq)
      have h2 := hr r (.head _)
      rw [← len_L] at h2
      rw [List.map_cons, List.sum_cons, List.length_cons]; lia
  refine join_list (N.isList hm) hs ?_ (fun t' k => by rw [eq_of_beq (PyProof.Rows.join_closes (ys := ys) (rfl : x = x))]; exact h t' k)
  have h2 : ys.length * x.length ≤ 40 * 2 := Nat.mul_le_mul hz hx
  lia
theorem len_str_b {x : Str} (hx : x.length ≤ 1000) (h : ∀ t' k, Q (.int (x.length : Nat) t') { s with toks := k }) : wpAny (model prog w) A (call (.builtin "len") [.str x t]) Q E s :=
  PyProof.Rows.len_str (by have e63 : (2 : Int) ^ 63 = 9223372036854775808 := by decide
                           rw [e63]; lia) (h _ _)
end
/-- an empty row read as the star -/
def OptR (st : Addr) (v y : Value) : Prop := ∀ x t, v = .str x t → (x = Str.ofString "" ∧ y = .ref st) ∨ (x ≠ Str.ofString "" ∧ ∃ t', y = .str x t')
theorem optR_star {st : Addr} {x : Str} {t : Tok} (h : (x == Str.ofString "") = true) : OptR st (.str x t) (.ref st) := fun _ _ e => by cases e; exact .inl ⟨eq_of_beq h, rfl⟩
theorem optR_str {st : Addr} {x : Str} {t u : Tok} (h : ¬ (x == Str.ofString "") = true) : OptR st (.str x t) (.str x u) := fun _ _ e => by cases e; exact .inr ⟨fun q => h (by rw [q]; exact beq_self_eq_true _), u, rfl⟩
theorem opt_parts {st : Addr} {vs ys : List Value} {xs : List Str} (h : All2 (OptR st) vs ys) (k : StrsAre vs xs) : PartsAre st ys (xs.map optOf) := by
  induction h generalizing xs with
  | nil => cases k; exact .nil
  | cons h _ ih =>
    cases k with
    | cons x t k =>
      rcases h x t rfl with ⟨rfl, rfl⟩ | ⟨hx, t', rfl⟩
      · have e : optOf (Str.ofString "") = none := by unfold optOf; rfl
        rw [List.map_cons, e]
        exact .star (ih k)
      · have e : optOf x = some x := by unfold optOf; rw [if_neg (fun q => hx (eq_of_beq q))]
        rw [List.map_cons, e]
        exact .text (ih k)
theorem mark_dot {k : Int} {mark : Str} (h : k = 0 ∧ mark = Str.ofString "." ∨ k = 1 ∧ mark = Str.ofString ".." ∨ k = 2 ∧ mark = Str.ofString ".-") : (mark != Str.ofString ".") = true ∨ (mark != Str.ofString ".") = false ∧ mark = Str.ofString "." := by
  rcases h with ⟨_, rfl⟩ | ⟨_, rfl⟩ | ⟨_, rfl⟩
  · exact .inr ⟨by decide +kernel, rfl⟩
  · exact .inl (by decide +kernel)
  · exact .inl (by decide +kernel)
end Mine
end
section
open PySem PySem.W PyProof.Rows PySem.Calls
set_option Elab.async false
namespace Mine
/-! ## law's end: True, the heap kept but for the grown table, generators all bare -/
def LawEnd (s₁ : Shared) (c P : Addr) (r : Result) (s' : Shared) : Prop :=
  r = .ok (.ret (.bool true)) ∧ (∀ b o, (ghostOf s₁.heap [(c, P)]).get? b = some o → s'.heap.get? b = some o) ∧ s'.os = s₁.os ∧ AllBare s'.gens ∧ GrownAt P s'.heap
theorem law_post {M : Model} {A : Around} {cd : Code} {s s₁ : Shared} {cw : ClaimW} {cl : Str → Option Addr} {mean : ExcName → Option Value} {args : List WData} {c P : Addr} (hT : TabsAt [(c, P)] s₁.heap) (hr : ∀ x, cw.raises args x = false)
    (hp : cw.post args (.bool true) args = true) (h : codeAny M A cd (LawEnd s₁ c P) s) : codeAny M A cd (GoodWG cw cl mean args s₁) s := by
  refine codeAny_mono h fun r s' hq => ?_
  obtain ⟨rfl, hk, hos, hb, ps, hP⟩ := hq
  obtain ⟨hc, e2⟩ := hT _ (.head _)
  have keep : ∀ b o, b ≠ P → s₁.heap.get? b = some o → s'.heap.get? b = some o := fun b o hb e => hk b o (ghost_ne e (by simpa using hb))
  refine ⟨.inl ⟨_, _, [], rfl, hr, .bool true, hp, fun _ => ⟨List.nodup_nil, fun _ hm => (nomatch hm)⟩⟩, ⟨fun b o e => ?_, fun b o e => ?_⟩, hos, hb⟩
  · by_cases hbP : b = P
    · subst hbP
      have e3 := Option.some.inj (e.symm.trans e2)
      subst e3
      exact .inr (.inl ⟨(hc.tab e2).isCodeTable, rfl, #[], ps, rfl, by rw [Array.empty_append]; exact hP⟩)
    · exact .inl (keep b o hbP e)
  · by_cases hbP : b = P
    · subst hbP; exact ⟨_, hP⟩
    · exact ⟨o, keep b o hbP e⟩
end Mine
end
section
open PySem
namespace Mine
/-! ## the law's facts -/
abbrev unopt (o : Option Str) : Str := o.getD (Str.ofString "")
theorem un_opt (due : List Str) : (due.map optOf).map unopt = due := by
  rw [List.map_map]
  have : ∀ r ∈ due, (unopt ∘ optOf) r = r := fun r _ => by
    show unopt (optOf r) = r
    unfold optOf
    split
    · next h => exact (eq_of_beq h).symm
    · rfl
  rw [List.map_congr_left this, List.map_id']
theorem opt_due {mark r : Str} (hm : mark ≠ Str.ofString "") : optOf (dueOf mark r) = partOf mark r := by
  unfold optOf partOf
  by_cases h : (r == Str.ofString "") = true
  · have e := eq_of_beq h
    subst e
    rfl
  · rw [if_neg h, if_neg]
    intro q
    apply h
    rw [due_empty hm (eq_of_beq q)]
    exact beq_self_eq_true _
theorem Adj.map' {α β : Type} {R : α → α → Prop} {T : β → β → Prop} {f : α → β} (hf : ∀ a b, R a b → T (f a) (f b)) : ∀ {l : List α}, Adj R l → Adj T (l.map f)
  | _, .nil => .nil
  | _, .one => .one
  | _, .more h t => .more (hf _ _ h) (Adj.map' hf t)
theorem zip_fst' {α β : Type} {l : List α} {m : List β} (h : m.length = l.length) : (l.zip m).map (·.1) = l := zip_fst l m (by lia)
theorem part_none {mark r : Str} (h : partOf mark r = none) : r = Str.ofString "" := by
  unfold partOf at h
  split at h
  · next q => exact eq_of_beq q
  · cases h
structure MarkOk (mark : Str) : Prop where
  ne : mark ≠ Str.ofString ""
  cl : cleanB (L mark) = true
  sz : mark.cps.size ≤ 8
  ok : mark.cps.all (· < 0x110000) = true
theorem mark_ok {mark : Str} (h : mark = Str.ofString "." ∨ mark = Str.ofString ".." ∨ mark = Str.ofString ".-") : MarkOk mark := by
  rcases h with rfl | rfl | rfl
  · exact ⟨by decide +kernel, by decide +kernel, by decide +kernel, by decide +kernel⟩
  · exact ⟨by decide +kernel, by decide +kernel, by decide +kernel, by decide +kernel⟩
  · exact ⟨by decide +kernel, by decide +kernel, by decide +kernel, by decide +kernel⟩
abbrev dueL (mark : Str) (xs : List Int) : List Str := (planOf xs).rows.map (dueOf mark)
abbrev wireT (mark : Str) (xs : List Int) : List Str := wireTexts (dueL mark xs) (endsOut (planOf xs).ends)
theorem map_unst (due : List Str) : (due.map stuff).map unst = due := by
  rw [List.map_map]
  have e : ∀ r ∈ due, (unst ∘ stuff) r = r := fun r _ => unst_stuff r
  rw [List.map_congr_left e, List.map_id']
theorem end_small {xs : List Int} {e : Str} (h : e ∈ endsOut (planOf xs).ends) : (L e).length ≤ 8 := by
  unfold endsOut at h
  rcases List.mem_append.mp h with h | h
  · have h1 : e ∈ (planOf xs).ends := List.mem_of_mem_drop (List.mem_of_mem_take h)
    have h2 := List.all_eq_true.mp (planOk xs).eo e h1
    unfold smallOk at h2
    have h3 := of_decide_eq_true (Bool.and_eq_true_iff.mp h2).1
    show e.cps.toList.length ≤ 8
    rw [Array.length_toList]; exact h3
  · rw [List.mem_singleton.mp h]; decide +kernel
section
variable {mark : Str} {xs : List Int} (hk : MarkOk mark)
include hk
theorem due_part : (dueL mark xs).map optOf = partsOf mark (tokensOf xs) := by
  rw [parts_rows, List.map_map]
  exact List.map_congr_left fun r _ => opt_due hk.ne
theorem due_row {r : Str} (hr : r ∈ dueL mark xs) : r.cps.size ≤ 8 ∧ cleanB (L r) = true ∧ r.cps.all (· < 0x110000) = true := by
  obtain ⟨q, hq, rfl⟩ := List.mem_map.mp hr
  have inv := (plan_inv xs).rowsC q hq
  have hs := List.all_eq_true.mp (planOk xs).ro q hq
  unfold smallOk at hs
  have h2 := (Bool.and_eq_true_iff.mp hs).2
  unfold dueOf
  split
  · exact ⟨hk.sz, hk.cl, hk.ok⟩
  · exact ⟨inv.2, inv.1, h2⟩
theorem due_small {r : Str} (hr : r ∈ dueL mark xs) : (L r).length ≤ 10 := by
  have := (due_row hk hr).1
  show r.cps.toList.length ≤ 10
  rw [Array.length_toList]; lia
theorem due_clean {r : Str} (hr : r ∈ dueL mark xs) : clean (L r) := clean_of (due_row hk hr).2.1
theorem due_noLf {r : Str} (hr : r ∈ dueL mark xs) : noLf (L r) := fun c hc => (due_clean hk hr c hc).1
theorem due_strOk : ((dueL mark xs).all PyData.strOk) = true := List.all_eq_true.mpr fun _ hr => (due_row hk hr).2.2
theorem due_adj : Adj (fun (a b : Option Str) => ¬ (a = none ∧ b = none)) ((dueL mark xs).map optOf) := by
  rw [due_part hk, parts_rows]
  have inv := plan_inv xs
  rw [← zip_fst' inv.len, List.map_map]
  refine Adj.map' (fun a b h => ?_) inv.adj
  rintro ⟨h1, h2⟩
  exact h.2 ⟨part_none h1, part_none h2⟩
theorem due_join (h : (dueL mark xs).length ≤ 40) : (L (joinOf ((dueL mark xs).map optOf))).length ≤ 1000 := by
  have h1 := join_small ((dueL mark xs).map optOf)
  have h2 := wt_opt (dueL mark xs) fun r hr => due_small hk hr
  lia
omit hk in
theorem due_len {n : Nat} (h : xs.length ≤ n) : (dueL mark xs).length ≤ n := by
  rw [List.length_map]; exact Nat.le_trans (planOk xs).r h
theorem part_small {r : Str} (h : some r ∈ (dueL mark xs).map optOf) : r.length ≤ 900 := by
  obtain ⟨q, hq, e⟩ := List.mem_map.mp h
  have : q = r := by
    unfold optOf at e
    split at e
    · cases e
    · exact Option.some.inj e
  exact len_L' (Nat.le_trans (due_small hk (this ▸ hq)) (by decide))
omit hk in
theorem join_len (sep : Str) (due : List Str) (h : ∀ r ∈ due, (L r).length ≤ 10) : (Str.join sep due).length ≤ (10 + sep.length) * due.length := by
  rw [len_L, L_join, len_joinL]
  have h1 : ((due.map L).map List.length).sum ≤ 10 * due.length := by
    induction due with
    | nil => exact Nat.le_refl _
    | cons r due ih =>
      have := ih fun q hq => h q (.tail _ hq)
      have h2 := h r (.head _)
      simp only [List.map_cons, List.sum_cons, List.length_cons] at this ⊢
      lia
  rw [List.length_map, Nat.add_mul, ← len_L, Nat.mul_comm sep.length]
  exact Nat.add_le_add h1 (Nat.mul_le_mul_right _ (Nat.sub_le _ _))
/-- what the receiver is told -/
structure Mail (mark : Str) (xs : List Int) (wire : Str) : Prop where
  rows : Txt.split wire (Str.ofString "\r\n") = (dueL mark xs).map stuff
  len : wire.length = (Str.join (Str.ofString "\r\n") (dueL mark xs)).length + ((dueL mark xs).filter dotB).length
theorem mail_is (hx : xs ≠ []) (v : Str) (hv : L v = catS (wireT mark xs)) : Mail mark xs (dotted (lined v)) := by
  have e : L (dotted (lined v)) = joinL [13, 10] ((dueL mark xs).map fun r => stuffL (L r)) := mail_made hk.ne hk.cl xs hx v hv
  have hn : dueL mark xs ≠ [] := fun q => rows_ne xs hx (List.map_eq_nil_iff.mp q)
  refine ⟨?_, mail_len _ _ e⟩
  have e1 := split_rows ((dueL mark xs).map fun r => stuffL (L r)) _ (by simpa using hn) (fun r hr => by
    obtain ⟨q, hq, rfl⟩ := List.mem_map.mp hr
    exact stuff_clean (due_clean hk hq)) e
  have e2 : Str.ofString "\r\n" = crlf := L_inj (by decide +kernel)
  rw [e2, e1, List.map_map]
  rfl
theorem mail_small {wire : Str} (h : Mail mark xs wire) (hl : xs.length ≤ 13) : wire.length ≤ 1000 := by
  have h1 := join_len (Str.ofString "\r\n") (dueL mark xs) fun r hr => due_small hk hr
  have h2 : (Str.ofString "\r\n").length = 2 := by decide +kernel
  have h3 := List.length_filter_le dotB (dueL mark xs)
  have h4 := due_len (mark := mark) hl
  rw [h2] at h1
  rw [h.len]; lia
theorem text_small (hl : xs.length ≤ 13) : (Str.join (Str.ofString "\r\n") (dueL mark xs)).length ≤ 1000 := by
  have h1 := join_len (Str.ofString "\r\n") (dueL mark xs) fun r hr => due_small hk hr
  have h2 : (Str.ofString "\r\n").length = 2 := by decide +kernel
  have h4 := due_len (mark := mark) hl
  rw [h2] at h1
  lia
theorem mail_row {r : Str} (h : r ∈ (dueL mark xs).map stuff) : r.length ≤ 100 := by
  obtain ⟨q, hq, rfl⟩ := List.mem_map.mp h
  have h1 := due_small hk hq
  refine len_L' ?_
  show (stuffL (L q)).length ≤ 100
  unfold stuffL
  split
  · rw [List.length_cons]; lia
  · lia
theorem wire_small (hl : xs.length ≤ 13) : (catS (wireT mark xs)).length ≤ 1000 := by
  have key : ∀ l : List Str, (∀ r ∈ l, (L r).length ≤ 20) → (catS l).length ≤ 20 * l.length := by
    intro l
    induction l with
    | nil => intro _; exact Nat.le_refl _
    | cons r l ih =>
      intro h
      have h1 := ih fun q hq => h q (.tail _ hq)
      have h2 := h r (.head _)
      have e : catS (r :: l) = L r ++ catS l := by simp [catS]
      rw [e, List.length_append, List.length_cons]; lia
  have h1 := key (wireT mark xs) fun r hr => by
    obtain ⟨i, hi, rfl⟩ := List.mem_iff_getElem.mp hr
    unfold wireT wireTexts at hi ⊢
    rw [List.getElem_zipWith]
    have ha := due_small hk (List.getElem_mem (l := dueL mark xs) (by rw [List.length_zipWith] at hi; lia : i < _))
    have hb : (L ((endsOut (planOf xs).ends)[i]'(by rw [List.length_zipWith] at hi; lia))).length ≤ 8 := end_small (List.getElem_mem _)
    show (L (_ ++ _)).length ≤ 20
    rw [L_app, List.length_append]; lia
  have h2 : (wireT mark xs).length ≤ 13 := by
    unfold wireT wireTexts
    rw [List.length_zipWith]
    exact Nat.le_trans (Nat.min_le_left _ _) (due_len hl)
  lia
end
theorem pat_small {xs : List Int} (h : xs.length ≤ 13) : (planOf xs).pat.length ≤ 1000 := by
  have := (planOk xs).p
  show (planOf xs).pat.cps.size ≤ 1000
  lia
end Mine
end
section
open PySem PySem.W PyProof.Rows PySem.Calls
set_option Elab.async false
namespace Mine
theorem tails_ne (ns : List Int) (n : Int) : List.take 10 ns ++ tails (n.fmod 3).toNat ≠ [] := by
  intro h
  have h1 := mod3 n
  obtain ⟨k, hk, hk'⟩ : ∃ k, (n.fmod 3).toNat = k ∧ k < 3 := ⟨_, rfl, by omega⟩
  rw [hk] at h
  have h2 := (List.append_eq_nil_iff.mp h).2
  match k, hk' with
  | 0, _ => cases h2
  | 1, _ => cases h2
  | 2, _ => cases h2
local macro_rules | `(tactic| kn_posts) => `(tactic| refine law_post (by assumption) (fun _ => rfl) (by first | rfl | wrow_post) ?_)
set_option maxRecDepth 100000 in
set_option maxHeartbeats 100000000 in
theorem law_holds : PySem.Challenge.rw_ij0163_01.Holds := hd (by
  k_with_none
  dsimp only [WalkO]
  k_go0
  all_goals try k_fold
  k_with "call ref" => (refine hold_ ?_)
  k_with "callWith ref" => (k_here; k_dflt (refine callWith_K (by k_asm) (by k_is) ?_))
  k_with "CompSrc" => (refine hold_ ?_)
  k_with "exec Assign cons ListComp" => (k_here; k_dflt (refine LCg.Assign_ListComp_U (F₀ := by k_asm) (by rfl) (by with_unfolding_all rfl) (by with_unfolding_all rfl) (by decide) (by rfl) (by decide) (by rfl) (by rfl) (by rfl) ?_))
  k_with "subscriptTail" => (k_dflt (refine' mark_item ?N8 ?h8 ?k8 ?_; (case N8 => k_asm); (case h8 => k_mem); (case k8 => exact mod3 _)); intro mark tm hmark)
  k_steps
  unfold Hold
  rename_i hN0 _
  k_dflt (refine' plan_claim _ _ _ _ _ (by assumption) (by omega) _ _ _ _ _ _ _ _ _ _ _ _ _ _ _ _ _ _ _ _ _ _ ?B1 ?F1 ?X1 ?N1 ?T1 ?C1 ?k1 ?d1 ?u1 (by assumption) ?R1; (case B1 => exact below_caller _); (case F1 => k_asm); (case X1 => k_asm); (case N1 => k_asm); (case T1 => k_asm); (case C1 => exact codeHd); (case k1 => first | exact rfl | assumption); (case d1 => ktr_room); (case u1 => ktr_units))
  rintro _ h' tk' _ F' N' ⟨tt, d2, lr, vr, ve, nr, tp, rfl, rfl, hve, hvr, hlt1, hlt2, hlt3⟩
  k_lt hlt3
  k_lt2 hlt1
  k_lt2 hlt2
  generalize hxs : List.take 10 _ ++ tails _ = xs at *
  have hxl : xs.length ≤ 13 := by rw [← hxs, List.length_append]; exact tails_len _ _
  have hxn : xs ≠ [] := by rw [← hxs]; exact tails_ne _ _
  k_steps
  unfold Hold
  have hmk : MarkOk mark := mark_ok (hmark.imp (·.2) (Or.imp (·.2) (·.2)))
  have hvl : vr.length ≤ 1000 := by rw [hvr.len_eq]; exact Nat.le_trans (planOk xs).r (by omega)
  refine LCg.CompSrc.ledger rfl (by k_asm) (by k_asm) (by k_mem) (by rw [List.size_toArray]; exact Nat.le_trans hvl (by decide)) fun g => comp_map (its := vr) (R := MapR (dueOf mark)) (.inr ⟨_, by k_mem, rfl, _, rfl⟩) ?_ ?_
  · intro v I' oI C' oC D ys m₂ h tk E' hv hC hx F1 N1
    obtain ⟨x, t, rfl, hxm⟩ := strs_mem hvr hv
    k_with "TurnEnd" => (refine hold_ ?_)
    by_cases hx0 : (x == Str.ofString "?") = true
    · k_with "compareOp Eq str str" => (k_here; k_dflt (refine eq_is hx0 ?_))
      k_steps
      unfold Hold
      exact ⟨mapR_of (if_pos hx0), _, _, rfl, by k_asm, by k_asm⟩
    · k_with "compareOp Eq str str" => (k_here; k_dflt (refine eq_is (eq_false_of_ne_true hx0) ?_))
      k_steps
      unfold Hold
      exact ⟨mapR_of (if_neg hx0), _, _, rfl, by k_asm, by k_asm⟩
  · intro ys hys D h tk F1 N1 off1
    have hdu : StrsAre ys (dueL mark xs) := hys.strs hvr
    k_steps
    unfold Hold
    k_dflt (refine' trans_claim _ [_, _, _, _, _, _, _, _] [(74, tabObj #[])] .start ?fr2 _ _ _ _ _ (pat_small hxl) (tokensOf xs) (pat_text xs) (tokens_ok xs) _ _ _ _ _ _ _ _ _ _ _ _ _ _ _ _ _ _ _ _ _ _ ?B2 ?F2 ?X2 ?N2 ?T2 ?C2 ?k2 ?d2 ?u2 ?R2; (case B2 => exact below_caller _); (case F2 => k_asm); (case X2 => k_asm); (case N2 => k_asm); (case fr2 => exact front_ne (by k_asm) .start (by repeat (first | exact List.forall_mem_nil _ | refine List.forall_mem_cons.mpr ⟨by first | exact nt_lst _ | exact nt_list _ _ | exact nt_tup _ | exact nt_cell (by assumption), ?_⟩))); (case T2 => k_asm); (case C2 => exact codeHd); (case k2 => first | exact rfl | assumption); (case d2 => ktr_room); (case u2 => ktr_units))
    rintro _ h' tk' g2 _ hg2 F' N' ⟨D2, ps, nn, tl', rfl, rfl, hT2, hps⟩
    rw [← due_part hmk] at hps
    have hpl : ps.length ≤ 1000 := by rw [parts_len hps, List.length_map]; exact Nat.le_trans (due_len hxl) (by decide)
    k_with "eval ListComp" => (k_here; first
      | ((with_reducible show wpAny _ _ (eval (PySem.Expr.ListComp _ [⟨PySem.Expr.Name _ _, _, [], 0⟩] _ _) _) _ _ _); k_dflt (refine LCg.ListComp_U (F₀ := by k_asm) (by with_unfolding_all rfl) (by decide) (by rfl) (by decide) (by rfl) ?_))
      | ((with_reducible show wpAny _ _ (eval (PySem.Expr.ListComp _ [⟨PySem.Expr.Tuple _ _ _, _, [], 0⟩] _ _) _) _ _ _); k_dflt (refine zip_comp (by k_asm) (by with_unfolding_all rfl) (by decide) (by rfl) (by decide) (by rfl) (by rfl) (by decide) ?_))
      | ((with_reducible show wpAny _ _ (eval (PySem.Expr.ListComp _ [⟨PySem.Expr.Name _ _, _, [_], 0⟩] _ _) _) _ _ _); k_dflt (refine LCt.ListComp_T (F₀ := by k_asm) (by with_unfolding_all rfl) (by decide) (by rfl) (by decide) (by rfl) ?_))
      | (refine hold_ ?_))
    k_with "CompSrcT" => (refine hold_ ?_)
    k_with "call type:zip" => (refine hold_ ?_)
    dsimp only [List.cons_append, List.nil_append] at N'
    k_with "call builtin:isinstance" => (k_here; k_dflt (refine IsiPair.list_list (News.get (by k_asm) (.head _)) rfl ?_))
    k_steps
    unfold Hold
    refine LCg.CompSrc.ledger rfl (by k_asm) (by k_asm) (.head _) (by rw [List.size_toArray]; exact Nat.le_trans hpl (by decide)) fun g => comp_map (its := ps) (R := PartR (stOf hps)) (.inr ⟨_, .head _, rfl, _, rfl⟩) ?_ ?_
    · intro v I' oI C' oC D ys m₂ h tk E' hv hC hx F1 N1
      k_with "TurnEnd" => (refine hold_ ?_)
      obtain rfl | ⟨x, t, rfl, _⟩ := parts_mem hps hv
      · k_with "compareOp Is ref ref" => (k_here; k_dflt (refine is_ref_same ?_))
        k_steps
        unfold Hold
        exact ⟨partR_star, _, _, rfl, by k_asm, by k_asm⟩
      · k_with "compareOp Is str ref" => (k_here; k_dflt (refine wpAny_is_other (by rfl) (by intro x; cases x) ?_))
        k_steps
        unfold Hold
        exact ⟨partR_str, _, _, rfl, by k_asm, by k_asm⟩
    · intro zs hzs D3 h tk F1 N1 off1
      have hzd : StrsAre zs (dueL mark xs) := by have := parts_rows' hzs hps; rwa [un_opt] at this
      k_with "compareOp NotEq ref ref" => (k_here; k_dflt (refine ne_same (News.isList (by k_asm) (by k_mem)) (News.isList (by k_asm) (by k_mem)) hzd hdu rfl (due_strOk hmk) (by ktr_units) ?_))
      k_steps
      unfold Hold
      refine zip_src (PairR (stOf hps)) rfl (by k_asm) (by k_asm) (by k_mem) (by k_mem) hpl ?_ ?_
      · intro g p C oC D ys m₂ h tk zs E' hp hC h1 h2 F2 N2
        dsimp only [List.cons_append, List.nil_append] at N2
        obtain ⟨p1, p2⟩ := p
        obtain ⟨hp1, x, t, hp2, hx⟩ := zip_mem hps hve hp
        dsimp only at hp1 hp2 h1 h2
        subst hp2
        have hxl : x.length ≤ 900 := len_L' (Nat.le_trans (end_small hx) (by decide))
        k_with "TurnEnd" => (refine hold_ ?_)
        k_with "le" => (exact Nat.le_trans (by repeat (first | assumption | refine small_app ?_ ?_ | exact (show Str.length _ ≤ 1000 by decide +kernel))) (show _ ≤ sizeLine by decide +kernel))
        obtain rfl | ⟨r, tr, rfl, hr⟩ := hp1
        · k_with "compareOp Is ref ref" => (k_here; k_dflt (refine is_ref_same ?_))
          k_steps
          unfold Hold
          exact ⟨pairR_star, _, _, rfl, by k_asm, by k_asm⟩
        · have hrl := part_small hmk hr
          k_with "compareOp Is str ref" => (k_here; k_dflt (refine wpAny_is_other (by rfl) (by intro x; cases x) ?_))
          k_steps
          unfold Hold
          exact ⟨pairR_str, _, _, rfl, by k_asm, by k_asm⟩
      · intro ws hws D4 h tk F2 N2 off2
        have hww : StrsAre ws (wireT mark xs) := by have := zip_rows hps hve hws; rwa [un_opt] at this
        have hwz := wire_small hmk hxl
        k_with "call builtin:str.join" => (k_here; k_dflt (refine join_texts (by k_asm) (.head _) hww (Nat.le_trans hwz (by decide)) ?_); intro t' tk')
        k_steps
        unfold Hold
        k_dflt (refine' quote_claim _ _ _ _ (by show (catS _).toArray.size ≤ 20000; rw [List.size_toArray]; exact Nat.le_trans hwz (by decide)) _ _ _ _ _ _ _ _ _ _ _ _ _ _ _ _ _ _ _ _ _ _ ?B3 ?F3 ?X3 ?N3 ?T3 ?C3 ?k3 ?d3 ?u3 ?R3; (case B3 => exact below_caller _); (case F3 => k_asm); (case X3 => k_asm); (case N3 => k_asm); (case T3 => k_asm); (case C3 => exact codeHd); (case k3 => first | exact rfl | assumption); (case d3 => ktr_room); (case u3 => ktr_units))
        rintro _ h' tk' _ F' N' ⟨rfl, tw, rfl⟩
        have hml : Mail mark xs _ := mail_is hmk hxn _ (show L ⟨(catS (wireT mark xs)).toArray⟩ = _ from rfl)
        generalize dotted (lined ⟨(catS (wireT mark xs)).toArray⟩) = wire at *
        have hwl := mail_small hmk hml hxl
        k_with "call builtin:str.split" => (k_here; k_dflt (refine KSpl.split1 (by k_asm) (by k_asm) (by decide) ?_ (Nat.le_trans (Nat.add_le_add_right hwl 2) (by decide +kernel))); intro D5 l5 h' tk' e5 s5 F' N' lt5)
        k_steps
        unfold Hold
        rw [e5, hml.rows] at s5
        generalize strValues l5 = vw at *
        have hwn : vw.length ≤ 1000 := by rw [s5.len_eq, List.length_map]; exact Nat.le_trans (due_len hxl) (by decide)
        refine LCg.CompSrc.ledger rfl (by k_asm) (by k_asm) (.head _) (by rw [List.size_toArray]; exact Nat.le_trans hwn (by decide)) fun g => comp_map (its := vw) (R := MapR unst) (.inr ⟨_, .head _, rfl, _, rfl⟩) ?_ ?_
        · intro v I' oI C' oC D ys m₂ h tk E' hv hC hx F1 N1
          obtain ⟨x, t, rfl, hxm⟩ := strs_mem s5 hv
          have hxz := mail_row hmk hxm
          k_with "TurnEnd" => (refine hold_ ?_)
          by_cases hx0 : (Txt.slice x none (some 1) == Str.ofString ".") = true
          · k_with "compareOp Eq str str" => (k_here; k_dflt (refine eq_is hx0 ?_))
            k_steps
            unfold Hold
            exact ⟨mapR_of (if_pos hx0), _, _, rfl, by k_asm, by k_asm⟩
          · k_with "compareOp Eq str str" => (k_here; k_dflt (refine eq_is (eq_false_of_ne_true hx0) ?_))
            k_steps
            unfold Hold
            exact ⟨mapR_of (if_neg hx0), _, _, rfl, by k_asm, by k_asm⟩
        · intro hs hhs D6 h tk F1 N1 off6
          have hhd : StrsAre hs (dueL mark xs) := by
            have := hhs.strs s5
            rwa [map_unst] at this
          have hjl := text_small hmk hxl
          k_with "call builtin:str.join" => (k_here; k_dflt (refine join_rows (by k_asm) (by k_mem) hdu (fun r hr => due_small hmk hr) (Nat.le_trans (due_len hxl) (by decide)) (by decide +kernel) ?_); intro t' tk')
          k_with "compareOp NotEq ref ref" => (k_here; k_dflt (refine ne_same (News.isList (by k_asm) (by k_mem)) (News.isList (by k_asm) (by k_mem)) hhd hdu rfl (due_strOk hmk) (by ktr_units) ?_))
          k_with "call builtin:len" => (k_here; first | (k_dflt (refine len_str_b (by assumption) ?_); intro t' tk') | (refine hold_ ?_))
          k_steps
          unfold Hold
          have hyl : ys.length ≤ 1000 := by rw [hdu.len_eq]; exact Nat.le_trans (due_len hxl) (by decide)
          refine LCt.CompSrcT.ledger rfl (by k_asm) (by k_asm) (by k_mem) (by rw [List.size_toArray]; exact Nat.le_trans hyl (by decide)) fun g => comp_filter (its := ys) (R := fun _ _ => True) (T := testV dotB) (.inr ⟨_, by k_mem, rfl, _, rfl⟩) ?_ ?_ ?_
          · intro v I' oI C' oC D ys m₂ h tk E' hv hC hx F1 N1
            obtain ⟨x, t, rfl, hxm⟩ := strs_mem hdu hv
            have hxz : x.length ≤ 100 := len_L' (Nat.le_trans (due_small hmk hxm) (by decide))
            k_with "TestIs" => (refine hold_ ?_)
            by_cases hx0 : (Txt.slice x none (some 1) == Str.ofString ".") = true
            · k_with "compareOp Eq str str" => (k_here; k_dflt (refine eq_is hx0 ?_))
              k_steps
              unfold Hold
              exact ⟨hx0.symm, _, _, rfl, by k_asm, by k_asm⟩
            · k_with "compareOp Eq str str" => (k_here; k_dflt (refine eq_is (eq_false_of_ne_true hx0) ?_))
              k_steps
              unfold Hold
              exact ⟨(eq_false_of_ne_true hx0).symm, _, _, rfl, by k_asm, by k_asm⟩
          · intro v I' oI C' oC D ys m₂ h tk E' hv hC hx F1 N1
            k_with "TurnEnd" => (refine hold_ ?_)
            k_steps
            unfold Hold
            exact ⟨trivial, _, _, rfl, by k_asm, by k_asm⟩
          · intro fs hfs D7 h tk F1 N1 off7
            have hfl : fs.length = ((dueL mark xs).filter dotB).length := by rw [hfs.length, filter_len hdu]
            have hlen := hml.len
            rw [← hfl] at hlen
            have hfz : fs.length ≤ 1000 := by omega
            k_with "call builtin:len" => (k_here; k_dflt (refine len_nat (by k_asm) (.head _) hfz ?_); intro t' tk')
            k_with "compareOp NotEq int int" => (k_here; k_dflt (refine nei_is (v := false) (by simp only [bne_eq_false_iff_eq]; omega) ?_))
            k_steps
            unfold Hold
            have hsl : hs.length ≤ 1000 := by rw [hhd.len_eq]; exact Nat.le_trans (due_len hxl) (by decide)
            refine LCg.CompSrc.ledger rfl (by k_asm) (by k_asm) (by k_mem) (by rw [List.size_toArray]; exact Nat.le_trans hsl (by decide)) fun g => comp_map (its := hs) (R := OptR (stOf hps)) (.inr ⟨_, by k_mem, rfl, _, rfl⟩) ?_ ?_
            · intro v I' oI C' oC D ys m₂ h tk E' hv hC hx F1 N1
              obtain ⟨x, t, rfl, hxm⟩ := strs_mem hhd hv
              k_with "TurnEnd" => (refine hold_ ?_)
              by_cases hx0 : (x == Str.ofString "") = true
              · k_with "compareOp Eq str str" => (k_here; k_dflt (refine eq_is hx0 ?_))
                k_steps
                unfold Hold
                exact ⟨optR_star hx0, _, _, rfl, by k_asm, by k_asm⟩
              · k_with "compareOp Eq str str" => (k_here; k_dflt (refine eq_is (eq_false_of_ne_true hx0) ?_))
                k_steps
                unfold Hold
                exact ⟨optR_str hx0, _, _, rfl, by k_asm, by k_asm⟩
            · intro js hjs D8 h tk F1 N1 off8
              have hjp := opt_parts hjs hhd
              have hjn : js.length ≤ 1000 := by rw [parts_len hjp, List.length_map]; exact Nat.le_trans (due_len hxl) (by decide)
              k_steps
              unfold Hold
              rename Fr _ _ _ _ => lF
              rename News _ _ _ _ => lN
              k_dflt (refine' join_claim _ _ D8 (stOf hps) js _ ((dueL mark xs).map optOf) (.head _) hjp (due_adj hmk) hjn (Nat.le_trans (due_join hmk (Nat.le_trans (due_len hxl) (by decide))) (by decide)) _ _ _ _ _ _ _ _ _ _ _ _ _ _ _ _ _ _ _ _ _ _ ?B4 ?F4 ?X4 ?N4 ?T4 ?C4 ?k4 ?d4 ?u4 ?R4; (case B4 => exact below_caller _); (case F4 => exact lF); (case X4 => k_asm); (case N4 => exact lN); (case T4 => k_asm); (case C4 => exact codeHd); (case k4 => first | exact rfl | assumption); (case d4 => ktr_room); (case u4 => ktr_units))
              rintro _ h' tk' _ F' N' ⟨rfl, tj, rfl⟩
              k_steps
              unfold Hold
              rename Fr _ _ _ _ => lF
              rename News _ _ _ _ => lN
              k_dflt (refine' text_claim _ _ D ys _ (dueL mark xs) ?m5 hdu (Nat.le_trans (due_len hxl) (by decide)) (fun r hr => due_small hmk hr) (fun r hr => due_noLf hmk hr) _ _ _ _ _ _ _ _ _ _ _ _ _ _ _ _ _ _ _ _ _ _ ?B5 ?F5 ?X5 ?N5 ?T5 ?C5 ?k5 ?d5 ?u5 ?R5; (case B5 => exact below_caller _); (case F5 => exact lF); (case X5 => k_asm); (case N5 => exact lN); (case m5 => k_mem); (case T5 => k_asm); (case C5 => exact codeHd); (case k5 => first | exact rfl | assumption); (case d5 => ktr_room); (case u5 => ktr_units))
              rintro _ h' tk' _ F' N' ⟨rfl, tt2, rfl⟩
              k_with "compareOp Eq str str" => (refine hold_ ?_)
              k_with "compareOp NotEq str str" => (refine hold_ ?_)
              k_steps
              unfold Hold
              refine eq_is (v := true) (beq_self_eq_true _) ?_
              k_steps
              unfold Hold
              rcases mark_dot hmark with hmd | ⟨hmd, hme⟩
              · refine ne_is hmd ?_
                k_with "LawEnd" => (refine hold_ ?_)
                k_steps
                unfold Hold
                rename Fr _ _ _ _ => lF
                rename News _ _ _ _ => lN
                obtain ⟨pt, codes, rfl, _⟩ := hT2
                exact ⟨rfl, lF.keep, rfl, hg2 (.of_eq (by assumption)), pt, (lN (74, tabObj pt) (by repeat (first | exact List.mem_cons_self | apply List.Mem.tail))).1⟩
              · refine ne_is hmd ?_
                k_steps
                unfold Hold
                rename Fr _ _ _ _ => lF
                rename News _ _ _ _ => lN
                have hpd : (dueL mark xs).map optOf = partsOf (Str.ofString ".") (tokensOf xs) := by rw [due_part hmk, hme]
                k_dflt (refine' translate_claim _ [_, _, _, _, _, _, _, _, _, _, _, _, _, _, _] tl' hT2 ?fr6 _ _ (pat_small hxl) (tokensOf xs) (pat_text xs) (tokens_ok xs) (hpd ▸ due_adj hmk) (by rw [← hpd, List.length_map]; exact Nat.le_trans (due_len hxl) (by decide)) (by rw [← hpd]; exact Nat.le_trans (due_join hmk (Nat.le_trans (due_len hxl) (by decide))) (by decide)) _ _ _ _ _ _ _ _ _ _ _ _ _ _ _ _ _ _ _ _ _ _ ?B6 ?F6 ?X6 ?N6 ?T6 ?C6 ?k6 ?d6 ?u6 ?R6; (case B6 => exact below_caller _); (case F6 => exact lF); (case X6 => k_asm); (case N6 => exact lN); (case fr6 => exact front_ne lN hT2 (by repeat (first | exact List.forall_mem_nil _ | refine List.forall_mem_cons.mpr ⟨by first | exact nt_lst _ | exact nt_list _ _ | exact nt_tup _ | exact nt_cell (by assumption), ?_⟩))); (case T6 => k_asm); (case C6 => exact codeHd); (case k6 => first | exact rfl | assumption); (case d6 => ktr_room); (case u6 => ktr_units))
                rintro _ h' tk' g3 _ hg3 F' N' ⟨tl3, t3, hT3, rfl, rfl⟩
                rw [← hpd]
                k_with "LawEnd" => (refine hold_ ?_)
                k_steps
                unfold Hold
                refine eq_is (v := true) (beq_self_eq_true _) ?_
                k_steps
                unfold Hold
                rename Fr _ _ _ _ => lF
                rename News _ _ _ _ => lN
                obtain ⟨pt, codes, rfl, _⟩ := hT3
                exact ⟨rfl, lF.keep, rfl, hg3 (hg2 (.of_eq (by assumption))), pt, (lN (74, tabObj pt) (by dsimp only [List.cons_append, List.nil_append]; repeat (first | exact List.mem_cons_self | apply List.Mem.tail))).1⟩)
end Mine
end
theorem PySem.Challenge.cw_ij0163_01_holds : PySem.Challenge.rw_ij0163_01.Holds := by
  exact Mine.law_holds
